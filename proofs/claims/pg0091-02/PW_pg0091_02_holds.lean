import PyProof.Rows.All
import Wide.All
import OpenK.AllK
import Wide.FinOn
import PySem.Challenge.RW_pg0091_02
set_option Elab.async false
set_option maxRecDepth 100000

section
open PySem PySem.W PySem.Calls PyProof.Rows
open PySem PySem.W PySem.Calls PyProof.Rows
namespace Mine
set_option maxRecDepth 100000

abbrev NT (o : Obj) : Prop := ∀ ps, o ≠ tabObj ps
abbrev NF (o : Obj) : Prop := ∀ vs, o.data ≠ .fields vs
theorem NF.nt {o : Obj} (x : NF o) : NT o := fun ps e => x ps (by rw [e])
/-- the code tables that may grow: those of the defs that make functions, and the new ones (the numbers are the law's) -/
class Base where
  tabs : List Addr
  lo : Nat
variable [Base]
def grow (P : Addr) : Prop := P ∈ Base.tabs ∨ Base.lo ≤ P
/-! ### code objects whose tables hold good code objects -/
def CodeN (h : Heap) : Nat → Addr → Prop
  | 0, c => (∃ q, h.CodeRec (.ref c) q) ∧ ∃ P, CodeHd h c P
  | n + 1, c => (∃ q, h.CodeRec (.ref c) q) ∧ ∃ P ps, (CodeHd h c P ∧ grow P) ∧ h.get? P = some (tabObj ps) ∧ TriplesOk ps.toList ∧
      ∀ pos v, codeAmong pos ps.toList = some v → ∃ c', v = .ref c' ∧ CodeN h n c'
def CodeG (h : Heap) (c : Addr) : Prop := ∀ n, CodeN h n c

theorem codeHd_unique {h : Heap} {c P P' : Addr} (x : CodeHd h c P) (y : CodeHd h c P') : P = P' := by
  obtain ⟨o, vs, _, _, _, _, _, _, _, e1, _, e3, e4, _⟩ := x
  obtain ⟨o', vs', _, _, _, _, _, _, _, f1, _, f3, f4, _⟩ := y
  rw [e1] at f1; cases f1
  rw [e3] at f3; cases f3
  rw [e4] at f4; cases f4; rfl

theorem CodeN.rec' {h : Heap} {c : Addr} : ∀ {n}, CodeN h n c → ∃ q, h.CodeRec (.ref c) q
  | 0, x => x.1
  | _ + 1, x => x.1
theorem CodeN.hd {h : Heap} {c : Addr} : ∀ {n}, CodeN h n c → ∃ P, CodeHd h c P
  | 0, x => x.2
  | _ + 1, x => let ⟨_, P, _, hp, _⟩ := x; ⟨P, hp.1⟩

theorem CodeG.open {h : Heap} {c : Addr} (x : CodeG h c) : ∃ P ps, CodeHd h c P ∧ h.get? P = some (tabObj ps) ∧ TriplesOk ps.toList ∧
      (∀ pos v, codeAmong pos ps.toList = some v → ∃ c', v = .ref c' ∧ CodeG h c') ∧ grow P := by
  obtain ⟨_, P, ps, ⟨h1, hgr⟩, h2, h3, _⟩ := x 1
  refine ⟨P, ps, h1, h2, h3, fun pos v hv => ?_, hgr⟩
  obtain ⟨_, P0, ps0, ⟨g1, _⟩, g2, g3, g4⟩ := x 1
  have e := codeHd_unique h1 g1; subst e
  rw [h2] at g2; cases g2
  obtain ⟨c', rfl, _⟩ := g4 pos v hv
  refine ⟨c', rfl, fun n => ?_⟩
  obtain ⟨_, P1, ps1, ⟨k1, _⟩, k2, k3, k4⟩ := x (n + 1)
  have e := codeHd_unique h1 k1; subst e
  rw [h2] at k2; cases k2
  obtain ⟨c'', e, y⟩ := k4 pos _ hv
  cases e; exact y
theorem CodeG.rec' {h : Heap} {c : Addr} (x : CodeG h c) : ∃ q, h.CodeRec (.ref c) q := (x 0).rec'

theorem CodeG.new {h : Heap} {c P : Addr} (r : ∃ q, h.CodeRec (.ref c) q) (x : CodeHd h c P) (y : h.get? P = some (tabObj #[])) (hg : grow P) : CodeG h c
  | 0 => ⟨r, P, x⟩
  | n + 1 => ⟨r, P, #[], ⟨x, hg⟩, y, trivial, fun pos v hv => by cases hv⟩

theorem codeHd_sameBut {h h' : Heap} {a c P : Addr} {o : Obj} (x : CodeHd h c P) (hs : Heap.ExtBut a h h') (ho : h.get? a = some o) (hd : NF o ∨ o.cls ≠ .type "code") : CodeHd h' c P := by
  obtain ⟨o1, vs, file, tf, flags, tg, inF, text, tt, e, hc, r⟩ := x
  refine ⟨o1, vs, file, tf, flags, tg, inF, text, tt, hs _ _ (fun q => ?_) e, hc, r⟩
  subst q; rw [ho] at e; cases e; exact hd.elim (fun n => n _ r.1) fun n => n hc
theorem codeRec_sameBut {h h' : Heap} {a c P : Addr} {o : Obj} {q : Str} (r : h.CodeRec (.ref c) q) (x : CodeHd h c P) (hs : Heap.ExtBut a h h') (ho : h.get? a = some o) (hd : NF o ∨ o.cls ≠ .type "code") : h'.CodeRec (.ref c) q := by
  obtain ⟨o1, vs, file, tf, flags, tg, inF, text, tt, e, hc, r0⟩ := x
  obtain ⟨c', o2, vs', t, e1, e2, r⟩ := r
  cases e1
  refine ⟨_, o2, vs', t, rfl, hs _ _ (fun q => ?_) e2, r⟩
  subst q; rw [ho] at e; cases e; exact hd.elim (fun n => n _ r0.1) fun n => n hc

theorem CodeN.ext {h h' : Heap} (k : ∀ b o, h.get? b = some o → h'.get? b = some o) : ∀ {n c}, CodeN h n c → CodeN h' n c
  | 0, _, ⟨⟨q, r⟩, P, x⟩ => ⟨⟨q, r.keeps k⟩, P, x.keeps k⟩
  | n + 1, _, ⟨⟨q, r⟩, P, ps, ⟨x, gp⟩, y, z, u⟩ => ⟨⟨q, r.keeps k⟩, P, ps, ⟨x.keeps k, gp⟩, k _ _ y, z, fun pos v hv => let ⟨c', e, w⟩ := u pos v hv; ⟨c', e, w.ext k⟩⟩

/-- a change at an object that is neither a code object nor a code table -/
theorem CodeN.sameBut {h h' : Heap} {a : Addr} {o : Obj} (hs : Heap.ExtBut a h h') (ho : h.get? a = some o) (hn : NT o) (hc : NF o ∨ o.cls ≠ .type "code") : ∀ {n c}, CodeN h n c → CodeN h' n c
  | 0, _, ⟨⟨q, r⟩, P, x⟩ => ⟨⟨q, codeRec_sameBut r x hs ho hc⟩, P, codeHd_sameBut x hs ho hc⟩
  | n + 1, _, ⟨⟨q, r⟩, P, ps, ⟨x, gp⟩, y, z, u⟩ => ⟨⟨q, codeRec_sameBut r x hs ho hc⟩, P, ps, ⟨codeHd_sameBut x hs ho hc, gp⟩,
      hs _ _ (fun e => by subst e; rw [ho] at y; cases y; exact hn _ rfl) y, z, fun pos v hv => let ⟨c', e, w⟩ := u pos v hv; ⟨c', e, w.sameBut hs ho hn hc⟩⟩

theorem codeAmong_app {pos pos' : Pos} {c v : Value} (l : List Value) (h : TriplesOk l) (hv : codeAmong pos (l ++ [rawInt pos'.line, rawInt pos'.col, c]) = some v) :
    codeAmong pos l = some v ∨ v = c := by
  fun_induction TriplesOk l with
  | case1 =>
    simp only [List.nil_append, codeAmong, rawInt] at hv
    split at hv
    · cases hv; exact .inr rfl
    · cases hv
  | case2 a t b u x rest ih =>
    simp only [List.cons_append, codeAmong] at hv ⊢
    split at hv
    · rename_i q; rw [if_pos q]; exact .inl hv
    · rename_i q; rw [if_neg q]; exact ih h hv
  | case3 l h1 h2 => exact h.elim

/-- a code table grows by one good code object -/
theorem CodeN.table {h h' : Heap} {P₀ : Addr} {ps₀ : Array Value} {pos₀ : Pos} {c₀ : Addr} (hs : Heap.ExtBut P₀ h h') (ho : h.get? P₀ = some (tabObj ps₀))
    (ho' : h'.get? P₀ = some (tabObj (ps₀ ++ #[rawInt pos₀.line, rawInt pos₀.col, .ref c₀]))) (hg : CodeG h' c₀) : ∀ {n c}, CodeN h n c → CodeN h' n c
  | 0, _, ⟨⟨q, r⟩, P, x⟩ => ⟨⟨q, codeRec_sameBut r x hs ho (.inr nofun)⟩, P, codeHd_sameBut x hs ho (.inr nofun)⟩
  | n + 1, c, ⟨⟨q, r⟩, P, ps, ⟨x, gp⟩, y, z, u⟩ => by
    have ih : ∀ {c}, CodeN h n c → CodeN h' n c := fun w => CodeN.table hs ho ho' hg w
    by_cases e : P = P₀
    · subst e
      rw [ho] at y; cases y
      refine ⟨⟨q, codeRec_sameBut r x hs ho (.inr nofun)⟩, P, _, ⟨codeHd_sameBut x hs ho (.inr nofun), gp⟩, ho', ?_, fun pos v hv => ?_⟩
      · rw [Array.toList_append]; exact TriplesOk_snoc _ _ _ _ z
      · rw [Array.toList_append] at hv
        rcases codeAmong_app _ z hv with hv | rfl
        · obtain ⟨c', e, w⟩ := u pos v hv; exact ⟨c', e, ih w⟩
        · exact ⟨c₀, rfl, hg n⟩
    · exact ⟨⟨q, codeRec_sameBut r x hs ho (.inr nofun)⟩, P, ps, ⟨codeHd_sameBut x hs ho (.inr nofun), gp⟩, hs _ _ e y, z, fun pos v hv => let ⟨c', e, w⟩ := u pos v hv; ⟨c', e, ih w⟩⟩

/-! ### what a call leaves as it was -/
structure Keep (h h' : Heap) : Prop where
  obj : ∀ b o, h.get? b = some o → NT o → h'.get? b = some o
  code : ∀ c, CodeG h c → CodeG h' c
  live : ∀ b o, h.get? b = some o → ∃ o', h'.get? b = some o'
  tab : ∀ b ps, h.get? b = some (tabObj ps) → ∃ ps', h'.get? b = some (tabObj ps')
  old : ∀ b ps, h.get? b = some (tabObj ps) → ¬ grow b → h'.get? b = some (tabObj ps)

theorem Keep.refl (h : Heap) : Keep h h := ⟨fun _ _ e _ => e, fun _ x => x, fun _ o e => ⟨o, e⟩, fun _ ps e => ⟨ps, e⟩, fun _ _ e _ => e⟩
theorem Keep.trans {h₁ h₂ h₃ : Heap} (x : Keep h₁ h₂) (y : Keep h₂ h₃) : Keep h₁ h₃ :=
  ⟨fun b o e n => y.obj b o (x.obj b o e n) n, fun c z => y.code c (x.code c z), fun b o e => let ⟨_, e'⟩ := x.live b o e; y.live b _ e', fun b ps e => let ⟨_, e'⟩ := x.tab b ps e; y.tab b _ e', fun b ps e g => y.old b ps (x.old b ps e g) g⟩
theorem Keep.ext {h h' : Heap} (k : ∀ b o, h.get? b = some o → h'.get? b = some o) : Keep h h' :=
  ⟨fun b o e _ => k b o e, fun _ x n => (x n).ext k, fun b o e => ⟨o, k b o e⟩, fun b ps e => ⟨ps, k b _ e⟩, fun b ps e _ => k b _ e⟩
theorem Keep.gone {h h' : Heap} (k : Keep h h') {a : Addr} (e : h'.get? a = none) : h.get? a = none := by
  cases q : h.get? a with
  | none => rfl
  | some o => obtain ⟨o', e'⟩ := k.live a o q; rw [e] at e'; cases e'
theorem Keep.push (h : Heap) (o : Obj) : Keep h (h.push o) := .ext fun _ _ e => Heap.get?_push_of_some o e
theorem get_size (h : Heap) : h.get? h.objs.size = none := by
  cases q : h.get? h.objs.size with
  | none => rfl
  | some o => exact absurd (Heap.lt_size q) (Nat.lt_irrefl _)
theorem ne_of_get {h : Heap} {a b : Addr} {o : Obj} (e : h.get? a = some o) (e' : h.get? b = none) : a ≠ b := fun q => by rw [q, e'] at e; cases e
theorem Keep.table {h h' : Heap} {P₀ : Addr} {ps₀ : Array Value} {pos₀ : Pos} {c₀ : Addr} (hs : Heap.ExtBut P₀ h h') (ho : h.get? P₀ = some (tabObj ps₀))
    (ho' : h'.get? P₀ = some (tabObj (ps₀ ++ #[rawInt pos₀.line, rawInt pos₀.col, .ref c₀]))) (hg : CodeG h' c₀) (hgr : grow P₀) : Keep h h' :=
  ⟨fun b o e n => hs b o (fun q => by subst q; rw [ho] at e; cases e; exact n _ rfl) e, fun _ x k => (x k).table hs ho ho' hg, fun b o e => by
    by_cases q : b = P₀
    · subst q; exact ⟨_, ho'⟩
    · exact ⟨o, hs b _ q e⟩, fun b ps e => by
    by_cases q : b = P₀
    · subst q; exact ⟨_, ho'⟩
    · exact ⟨ps, hs b _ q e⟩, fun b ps e g => hs b _ (fun q => g (q ▸ hgr)) e⟩

/-! ### the state within a call of a def -/
structure Fn (h₀ : Heap) (L : Addr) (m : Str → Option Value) (U T : List (Addr × Obj)) (C : List Addr) (h : Heap) : Prop where
  keep : Keep h₀ h
  ns : h.Ns L m
  above : h₀.get? L = none
  own : ∀ p ∈ U, h.get? p.1 = some p.2 ∧ NF p.2 ∧ h₀.get? p.1 = none ∧ p.1 ≠ L
  know : ∀ p ∈ T, h.get? p.1 = some p.2 ∧ NT p.2 ∧ p.1 ≠ L
  sep : ∀ p ∈ U, ∀ q ∈ T, p.1 ≠ q.1
  nodup : (U.map (·.1)).Nodup
  codes : ∀ c ∈ C, CodeG h c

section
variable {h₀ h h' : Heap} {L : Addr} {m : Str → Option Value} {U T N : List (Addr × Obj)} {C : List Addr}

theorem Fn.get (F : Fn h₀ L m U T C h) {a : Addr} {o : Obj} (hm : (a, o) ∈ T) : h.get? a = some o := (F.know _ hm).1
theorem Fn.getU (F : Fn h₀ L m U T C h) {a : Addr} {o : Obj} (hm : (a, o) ∈ U) : h.get? a = some o := (F.own _ hm).1
theorem Fn.getL (F : Fn h₀ L m U T C h) : ∃ o, h.get? L = some o ∧ NF o := let ⟨o, es, ep, e, d, _⟩ := F.ns; ⟨o, e, fun vs q => by rw [d] at q; cases q⟩

theorem Fn.kept (F : Fn h₀ L m U T C h) (k : Keep h h') : Fn h₀ L m U T C h' where
  keep := F.keep.trans k
  ns := by
    obtain ⟨o, es, ep, e, d, r⟩ := F.ns
    exact ⟨o, es, ep, k.obj _ _ e (NF.nt fun vs q => by rw [d] at q; cases q), d, r⟩
  above := F.above
  own := fun p hp => ⟨k.obj _ _ (F.own p hp).1 (F.own p hp).2.1.nt, (F.own p hp).2⟩
  know := fun p hp => ⟨k.obj _ _ (F.know p hp).1 (F.know p hp).2.1, (F.know p hp).2⟩
  sep := F.sep
  nodup := F.nodup
  codes := fun c hc => k.code c (F.codes c hc)

/-- new facts from a call -/
def New (h h' : Heap) (N : List (Addr × Obj)) : Prop := ∀ p ∈ N, h'.get? p.1 = some p.2 ∧ NT p.2 ∧ h.get? p.1 = none
theorem New.nil (h h' : Heap) : New h h' [] := fun _ hp => nomatch hp
theorem New.kept {h'' : Heap} (x : New h h' N) (k : Keep h' h'') : New h h'' N := fun p hp => ⟨k.obj _ _ (x p hp).1 (x p hp).2.1, (x p hp).2⟩
theorem New.before {g : Heap} (x : New h h' N) (k : Keep g h) : New g h' N := fun p hp => ⟨(x p hp).1, (x p hp).2.1, k.gone (x p hp).2.2⟩
theorem New.append {M : List (Addr × Obj)} (x : New h h' N) (y : New h h' M) : New h h' (N ++ M) := fun p hp => (List.mem_append.mp hp).elim (x p) (y p)
theorem Fn.learn (F : Fn h₀ L m U T C h) (k : Keep h h') (x : New h h' N) : Fn h₀ L m U (N ++ T) C h' :=
  let G := F.kept k
  { G with
    know := fun p hp => (List.mem_append.mp hp).elim (fun q => ⟨(x p q).1, (x p q).2.1, fun e => let ⟨_, e', _⟩ := F.getL; ne_of_get e' (x p q).2.2 e.symm⟩) (G.know p)
    sep := fun p hp q hq => (List.mem_append.mp hq).elim (fun z => ne_of_get (F.own p hp).1 (x q z).2.2) (F.sep p hp q) }
theorem Fn.push (F : Fn h₀ L m U T C h) (o : Obj) : Fn h₀ L m U T C (h.push o) := F.kept (.push h o)
theorem New.one (o : Obj) (hf : o.isFreed = false) (hc : NT o) : New h (h.push o) [(h.objs.size, o)] := fun p hp => by
    rw [List.mem_singleton.mp hp]; exact ⟨Heap.get?_push_size _ hf, hc, get_size h⟩
theorem Fn.pushT (F : Fn h₀ L m U T C h) (o : Obj) (hf : o.isFreed = false) (hc : NT o) : Fn h₀ L m U ((h.objs.size, o) :: T) C (h.push o) :=
  F.learn (N := [(h.objs.size, o)]) (.push h o) (New.one o hf hc)
theorem Fn.pushU (F : Fn h₀ L m U T C h) (o : Obj) (hf : o.isFreed = false) (hc : NF o) : Fn h₀ L m ((h.objs.size, o) :: U) T C (h.push o) :=
  let G := F.push o
  have ne : ∀ a o', h.get? a = some o' → h.objs.size ≠ a := fun a o' e q => ne_of_get e (get_size h) q.symm
  { G with
    own := fun p hp => (List.mem_cons.mp hp).elim (fun e => by subst e; exact ⟨Heap.get?_push_size _ hf, hc, F.keep.gone (get_size h), let ⟨_, e, _⟩ := F.getL; ne _ _ e⟩) (G.own p)
    sep := fun p hp q hq => (List.mem_cons.mp hp).elim (fun e => by subst e; exact ne _ _ (F.know q hq).1) (fun z => F.sep p z q hq)
    nodup := List.nodup_cons.mpr ⟨fun hm => by
      obtain ⟨p, hp, e⟩ := List.mem_map.mp hm
      exact ne _ _ (F.own p hp).1 e.symm, F.nodup⟩ }

theorem Keep.sameBut {a : Addr} {o : Obj} (k : Keep h₀ h) (hs : Heap.SameBut a h h') (ha : h₀.get? a = none) (ho : h.get? a = some o) (hn : NF o) : Keep h₀ h' := by
  have ne : ∀ b o', h₀.get? b = some o' → b ≠ a := fun b o' e => ne_of_get e ha
  refine ⟨fun b o' e' n' => (hs.2 b (ne _ _ e')).trans (k.obj b o' e' n'), fun c' x n => ((k.code c' x) n).sameBut hs.extBut ho hn.nt (.inl hn), fun b o' e' => ?_, fun b ps e' => ?_, fun b ps e' g => (hs.2 b (ne _ _ e')).trans (k.old b ps e' g)⟩
  · obtain ⟨o2, e2⟩ := k.live b o' e'
    exact ⟨o2, (hs.2 b (ne _ _ e')).trans e2⟩
  · obtain ⟨ps', e2⟩ := k.tab b ps e'
    exact ⟨ps', (hs.2 b (ne _ _ e')).trans e2⟩

/-- a change at the frame's own object -/
theorem Fn.set {m' : Str → Option Value} (F : Fn h₀ L m U T C h) (hn : h'.Ns L m') (hs : Heap.SameBut L h h') : Fn h₀ L m' U T C h' where
  keep := by obtain ⟨o, e, n⟩ := F.getL; exact F.keep.sameBut hs F.above e n
  ns := hn
  above := F.above
  own := fun p hp => ⟨(hs.2 p.1 (F.own p hp).2.2.2).trans (F.own p hp).1, (F.own p hp).2⟩
  know := fun p hp => ⟨(hs.2 p.1 (F.know p hp).2.2).trans (F.know p hp).1, (F.know p hp).2⟩
  sep := F.sep
  nodup := F.nodup
  codes := fun c hc n => by obtain ⟨o, e, z⟩ := F.getL; exact (F.codes c hc n).sameBut hs.extBut e z.nt (.inl z)

/-- a change at an object of the call's own that may change (the first one) -/
theorem Fn.upd {a : Addr} {o o' : Obj} (F : Fn h₀ L m ((a, o) :: U) T C h) (hs : Heap.SameBut a h h') (ho : h'.get? a = some o') (hc : NF o') : Fn h₀ L m ((a, o') :: U) T C h' := by
  have M := F.own _ (.head _)
  have nd := List.nodup_cons.mp F.nodup
  have neU : ∀ p ∈ U, p.1 ≠ a := fun p hp e => nd.1 (List.mem_map.mpr ⟨p, hp, e⟩)
  refine ⟨F.keep.sameBut hs M.2.2.1 M.1 M.2.1, F.ns.sameBut hs (Ne.symm M.2.2.2), F.above, fun p hp => ?_, fun p hp => ?_, fun p hp q hq => ?_, List.nodup_cons.mpr nd, fun c hc n => (F.codes c hc n).sameBut hs.extBut M.1 M.2.1.nt (.inl M.2.1)⟩
  · rcases List.mem_cons.mp hp with e | hp
    · subst e; exact ⟨ho, hc, M.2.2⟩
    · have z := F.own p (.tail _ hp)
      exact ⟨(hs.2 _ (neU p hp)).trans z.1, z.2⟩
  · have z := F.know p hp
    exact ⟨(hs.2 _ (Ne.symm (F.sep _ (.head _) p hp))).trans z.1, z.2⟩
  · rcases List.mem_cons.mp hp with e | hp
    · subst e; exact F.sep _ (.head _) q hq
    · exact F.sep _ (.tail _ hp) q hq
theorem Fn.swap {a b : Addr × Obj} (F : Fn h₀ L m (a :: b :: U) T C h) : Fn h₀ L m (b :: a :: U) T C h :=
  { F with
    own := fun p hp => F.own p (by rcases List.mem_cons.mp hp with e | hp; · subst e; exact .tail _ (.head _)
                                   · rcases List.mem_cons.mp hp with e | hp; · subst e; exact .head _
                                     · exact .tail _ (.tail _ hp))
    sep := fun p hp => F.sep p (by rcases List.mem_cons.mp hp with e | hp; · subst e; exact .tail _ (.head _)
                                   · rcases List.mem_cons.mp hp with e | hp; · subst e; exact .head _
                                     · exact .tail _ (.tail _ hp))
    nodup := by
      have nd := F.nodup
      simp only [List.map_cons, List.nodup_cons, List.mem_cons] at nd ⊢
      exact ⟨fun e => e.elim (fun e => nd.1 (.inl e.symm)) nd.2.1, fun e => nd.1 (.inr e), nd.2.2⟩ }
/-- the first object that may change is from now on known -/
theorem Fn.freeze {a : Addr × Obj} (F : Fn h₀ L m (a :: U) T C h) : Fn h₀ L m U (a :: T) C h := by
  have M := F.own _ (.head _)
  have nd := List.nodup_cons.mp F.nodup
  exact { F with
    own := fun p hp => F.own p (.tail _ hp)
    know := fun p hp => (List.mem_cons.mp hp).elim (fun e => by subst e; exact ⟨M.1, M.2.1.nt, M.2.2.2⟩) (F.know p)
    sep := fun p hp q hq => (List.mem_cons.mp hq).elim (fun e => by subst e; exact fun e => nd.1 (List.mem_map.mpr ⟨p, hp, e⟩)) (F.sep p (.tail _ hp) q)
    nodup := nd.2 }
theorem Fn.sub {T' : List (Addr × Obj)} (F : Fn h₀ L m U T C h) (hs : ∀ p ∈ T', p ∈ T) : Fn h₀ L m U T' C h :=
  { F with know := fun p hp => F.know p (hs p hp), sep := fun p hp q hq => F.sep p hp q (hs q hq) }
theorem Fn.recall {a : Addr} {o : Obj} (F : Fn h₀ L m U T C h) (e : h₀.get? a = some o) (hn : NT o) : Fn h₀ L m U ((a, o) :: T) C h :=
  { F with
    know := fun p hp => (List.mem_cons.mp hp).elim (fun q => by subst q; exact ⟨F.keep.obj _ _ e hn, hn, ne_of_get e F.above⟩) (F.know p)
    sep := fun p hp q hq => (List.mem_cons.mp hq).elim (fun z => by subst z; exact Ne.symm (ne_of_get e (F.own p hp).2.2.1)) (F.sep p hp q) }
theorem Fn.recallC {c : Addr} (F : Fn h₀ L m U T C h) (e : CodeG h₀ c) : Fn h₀ L m U T (c :: C) h :=
  { F with codes := fun c' hc => (List.mem_cons.mp hc).elim (fun q => by subst q; exact F.keep.code _ e) (F.codes c') }
theorem Fn.recallAll {T' : List (Addr × Obj)} (F : Fn h₀ L m U T C h) (e : ∀ p ∈ T', h₀.get? p.1 = some p.2 ∧ NT p.2) : Fn h₀ L m U (T' ++ T) C h := by
  induction T' with
  | nil => exact F
  | cons p r ih => exact (ih fun q hq => e q (.tail _ hq)).recall (e p (.head _)).1 (e p (.head _)).2
theorem Fn.recallAllC {C' : List Addr} (F : Fn h₀ L m U T C h) (e : ∀ c ∈ C', CodeG h₀ c) : Fn h₀ L m U T (C' ++ C) h := by
  induction C' with
  | nil => exact F
  | cons p r ih => exact (ih fun q hq => e q (.tail _ hq)).recallC (e p (.head _))
theorem Fn.learnAllC {C' : List Addr} (F : Fn h₀ L m U T C h) (e : ∀ c ∈ C', CodeG h c) : Fn h₀ L m U T (C' ++ C) h :=
  { F with codes := fun c' hc => (List.mem_append.mp hc).elim (e c') (F.codes c') }
theorem Fn.learnC {c : Addr} (F : Fn h₀ L m U T C h) (e : CodeG h c) : Fn h₀ L m U T (c :: C) h :=
  { F with codes := fun c' hc => (List.mem_cons.mp hc).elim (fun q => by subst q; exact e) (F.codes c') }
theorem Fn.learnU {a : Addr} {o : Obj} (F : Fn h₀ L m U T C h) (k : Keep h h') (e : h'.get? a = some o) (hn : NF o) (hg : h.get? a = none) : Fn h₀ L m ((a, o) :: U) T C h' :=
  let G := F.kept k
  have ne : ∀ b o', h.get? b = some o' → a ≠ b := fun b o' e q => ne_of_get e hg q.symm
  { G with
    own := fun p hp => (List.mem_cons.mp hp).elim (fun q => by subst q; exact ⟨e, hn, F.keep.gone hg, let ⟨_, e, _⟩ := F.getL; ne _ _ e⟩) (G.own p)
    sep := fun p hp q hq => (List.mem_cons.mp hp).elim (fun z => by subst z; exact ne _ _ (F.know q hq).1) (fun z => F.sep p z q hq)
    nodup := List.nodup_cons.mpr ⟨fun hm => by
      obtain ⟨p, hp, e⟩ := List.mem_map.mp hm
      exact ne _ _ (F.own p hp).1 e.symm, F.nodup⟩ }
/-- a change at a known object that is no object of before the call (an iterator) -/
theorem Fn.other {I : Addr} {o : Obj} (F : Fn h₀ L m U ((I, o) :: T) C h) (hI : h₀.get? I = none) (hc : o.cls ≠ .type "code") (hx : Heap.ExtBut I h h') (hT : ∀ p ∈ T, p.1 ≠ I) : Fn h₀ L m U T C h' := by
  have M := F.know _ (.head _)
  have ne : ∀ b o', h₀.get? b = some o' → b ≠ I := fun b o' e => ne_of_get e hI
  refine ⟨⟨fun b o' e n => hx b o' (ne _ _ e) (F.keep.obj b o' e n), fun c x n => (F.keep.code c x n).sameBut hx M.1 M.2.1 (.inr hc), fun b o' e => ?_, fun b ps e => ?_, fun b ps e g => hx _ _ (ne _ _ e) (F.keep.old b ps e g)⟩, F.ns.extBut hx (Ne.symm M.2.2), F.above,
    fun p hp => ⟨hx _ _ (F.sep p hp _ (.head _)) (F.own p hp).1, (F.own p hp).2⟩, fun p hp => ⟨hx _ _ (hT p hp) (F.know p (.tail _ hp)).1, (F.know p (.tail _ hp)).2⟩, fun p hp q hq => F.sep p hp q (.tail _ hq), F.nodup, fun c hc' n => (F.codes c hc' n).sameBut hx M.1 M.2.1 (.inr hc)⟩
  · obtain ⟨o2, e2⟩ := F.keep.live b o' e
    exact ⟨o2, hx _ _ (ne _ _ e) e2⟩
  · obtain ⟨ps', e2⟩ := F.keep.tab b ps e
    exact ⟨ps', hx _ _ (ne _ _ e) e2⟩
theorem Fn.addT {a : Addr} {o : Obj} (F : Fn h₀ L m U T C h) (e : h.get? a = some o) (hn : NT o) (hL : a ≠ L) (hU : ∀ p ∈ U, p.1 ≠ a) : Fn h₀ L m U ((a, o) :: T) C h :=
  { F with
    know := fun p hp => (List.mem_cons.mp hp).elim (fun q => by subst q; exact ⟨e, hn, hL⟩) (F.know p)
    sep := fun p hp q hq => (List.mem_cons.mp hq).elim (fun z => by subst z; exact hU p hp) (F.sep p hp q) }
theorem Fn.newU (F : Fn h₀ L m U T C h) : New h₀ h U := fun p hp => ⟨(F.own p hp).1, (F.own p hp).2.1.nt, (F.own p hp).2.2.1⟩
end
end Mine

end

section
open PySem PySem.W PySem.Calls PyProof.Rows
open PySem PySem.W PySem.Calls PyProof.Rows
namespace Mine
variable [Base]
set_option maxRecDepth 100000

/-! ### what the top laid -/
structure Gl (mg mb : Str → Option Value) (h : Heap) : Prop where
  g : h.Ns mainGlobals mg
  b : h.Ns builtinsNs mb
  lim : h.NoLimit
  bm : ∃ bm o, mg "__builtins__" = some (.ref bm) ∧ bm ≠ builtinsNs ∧ h.get? bm = some o ∧ o.cls = .type "module" ∧ o.dict = some builtinsNs ∧ o.data = .plain
  big : ∃ b o, h.get? b = some o ∧ Base.lo ≤ b + 1

theorem Keep.ns {h h' : Heap} {a : Addr} {m : Str → Option Value} (k : Keep h h') (x : h.Ns a m) : h'.Ns a m := by
  obtain ⟨o, es, ep, e, d, r⟩ := x
  exact ⟨o, es, ep, k.obj _ _ e (NF.nt fun vs q => by rw [d] at q; cases q), d, r⟩
theorem Keep.lim {h h' : Heap} (k : Keep h h') (x : h.NoLimit) : h'.NoLimit := let ⟨mc, a, b⟩ := x; ⟨mc, k.ns a, b⟩
theorem Gl.kept {mg mb : Str → Option Value} {h h' : Heap} (x : Gl mg mb h) (k : Keep h h') : Gl mg mb h' :=
  ⟨k.ns x.g, k.ns x.b, k.lim x.lim, let ⟨bm, o, a, b, c, d, e, f⟩ := x.bm; ⟨bm, o, a, b, k.obj _ _ c (NF.nt fun vs q => by rw [f] at q; cases q), d, e, f⟩, let ⟨b, o, e, hb⟩ := x.big; let ⟨o', e'⟩ := k.live _ _ e; ⟨b, o', e', hb⟩⟩

abbrev St (s₀ : Shared) (h : Heap) (t : Nat) : Shared := { s₀ with heap := h, toks := t }
abbrev NoE : Value → Shared → Prop := fun _ _ => False

structure Room (A : Around) (d : Nat) : Prop where
  handled : A.handled = none
  depth : A.depth + d < recursionLimit
  units : A.units + 10 * d < cLine

/-- the def or lambda at f, called, ends with a value and a heap as told -/
def Calls (prog : Program) (w : World) (d : Nat) (f : Value) (args : Args) (h : Heap) (P : Value → Heap → Prop) : Prop :=
  ∀ (A : Around) (s₀ : Shared) (t : Nat) (R : Result → Shared → Prop), Room A d →
    (∀ v h' t', Keep h h' → P v h' → R (.ok (.ret v)) (St s₀ h' t')) → codeAny (model prog w) A (.call f args) R (St s₀ h t)

theorem Calls.mono {prog : Program} {w : World} {d : Nat} {f : Value} {args : Args} {h : Heap} {P P' : Value → Heap → Prop} (x : Calls prog w d f args h P) (k : ∀ v h', Keep h h' → P v h' → P' v h') : Calls prog w d f args h P' :=
  fun A s₀ t R hr z => x A s₀ t R hr fun v h' t' kk p => z v h' t' kk (k v h' kk p)
theorem Room.less {A : Around} {d d' : Nat} (x : Room A d) (h : d' ≤ d) : Room A d' := ⟨x.handled, by have := x.depth; omega, by have := x.units; omega⟩

/-! ### function creation -/
section
variable {M : Model} {A : Around} {E : Value → Shared → Prop} {s : Shared} {name qual : Str} {params : Arguments} {body : FuncBody} {scope : Scope} {env : Env} {c : Addr} {pos : Pos} {firstLine : Nat} {mg mb : Str → Option Value}
  {clos : List (Str × Addr)} {Q : Value → Shared → Prop}

theorem codeN_new {h : Heap} {c P : Addr} {q : Str} (hr : h.CodeRec (.ref c) q) (hc : h.IsCode c P #[]) (ht : h.TableAt c P #[]) (hg : grow P) : CodeG h c := CodeG.new ⟨q, hr⟩ (CodeHd.of hc ht) ht.2 hg

theorem makeTail_G {dV : Value} (hcl : closureFor scope env = pure clos) (hge0 : env.globals = mainGlobals) (G : Gl mg mb s.heap) (hcode : env.code = .ref c) (C : CodeG s.heap c)
    (h : ∀ f c' ctv doc h' tk, Keep s.heap h' → s.heap.get? f = none → h'.get? f = some (kdv_obj name qual params body scope clos dV doc ((mg "__name__").getD .none) c' ctv) → CodeG h' c' →
      Q (.ref f) { s with heap := h', toks := tk }) :
    wpAny M A (makeTail name qual params body scope env dV .none none pos firstLine) Q E s := by
  obtain ⟨P, ps, C1, hP, ht, hall, hgrP⟩ := C.open
  obtain ⟨bm, ob, hbm, hne0, hbo, hcls, hdict, hdata⟩ := G.bm
  have hgP : mainGlobals ≠ P := fun q => by
    obtain ⟨o, es, ep, e, hd, _⟩ := G.g
    rw [q, hP] at e; cases e; cases hd
  have hbP : bm ≠ P := fun q => by rw [q, hP] at hbo; cases hbo; cases hcls
  have hbG : bm ≠ mainGlobals := fun q => by
    obtain ⟨o, es, ep, e, hd, _⟩ := G.g
    rw [q, e] at hbo; cases hbo; rw [hd] at hdata; cases hdata
  cases hf : codeAmong pos ps.toList with
  | some cv =>
    obtain ⟨c', rfl, hc'⟩ := hall pos cv hf
    refine kdv_makeTailHit (mg := mg) hcl hge0 G.g hcode C1 hP ht hf ⟨bm, ob, hbm, hne0, hbG, hbP, hbo, hcls, hdict, hdata⟩ fun ctv doc h' tk hk hsz => ?_
    have K1 : Keep s.heap h' := .ext hk
    refine h _ c' ctv doc _ tk (K1.trans (.push _ _)) (K1.gone (get_size h')) (Heap.get?_push_size _ rfl) (Keep.code (K1.trans (.push _ _)) c' hc')
  | none =>
    have go : ∀ (s₁ : Shared) (ctv : Value), (∀ b o, s.heap.get? b = some o → s₁.heap.get? b = some o) → s₁.gens = s.gens → s₁.drawn = s.drawn → s₁.os = s.os →
        wpAny M A (functionCode env pos firstLine name qual params scope body) (fun cv s₂ => wpAny M A (do
          let b ← builtinsFor env.globals env.builtins
          let nm ← nsGet env.globals "__name__"
          match body with
          | .stmts bb => do
            let dc ← (match docOf bb with | some s => mkText s | none => pure .none)
            newObj (.type "function") (.func { name := name, qualname := qual, params := params, body := body, scope := scope, globals := env.globals, closure := clos, closureTuple := ctv, code := cv, builtins := b, defaults := dV, kwdefaults := .none, annotations := none, pyModule := nm.getD .none, doc := dc })
          | .expr _ => do
            let dc ← pure .none
            newObj (.type "function") (.func { name := name, qualname := qual, params := params, body := body, scope := scope, globals := env.globals, closure := clos, closureTuple := ctv, code := cv, builtins := b, defaults := dV, kwdefaults := .none, annotations := none, pyModule := nm.getD .none, doc := dc })) Q E s₂) E s₁ := by
      intro s₁ ctv hk hg hdr hos
      have K0 : Keep s.heap s₁.heap := .ext hk
      have P1 := hk _ _ hP
      refine wpAny_functionCodeX hcode ((C1.keeps hk).code P1 ht) ((C1.keeps hk).tab P1) hf fun c' h' tk hx hge hlt hok hrec htb hnew => ?_
      obtain ⟨P', hP', hi', ht'⟩ := hnew
      have CG : CodeG h' c' := codeN_new hrec hi' ht' (.inr (by obtain ⟨bz, oz, ez, hz⟩ := G.big; obtain ⟨oz', ez'⟩ := K0.live _ _ ez; have hlt := Heap.lt_size ez'; exact Nat.le_trans hz (Nat.le_trans hlt hP')))
      have K1 : Keep s₁.heap h' := Keep.table hx P1 htb.2 CG hgrP
      have K2 := K0.trans K1
      have hbo' : h'.get? bm = some ob := K2.obj _ _ hbo (NF.nt fun vs q => by rw [hdata] at q; cases q)
      have hg' : h'.Ns env.globals mg := by rw [hge0]; exact K2.ns G.g
      refine wpAny_bind (wpAny_builtinsFor hg' hbm hne0 hbo' hcls hdict hdata ?_)
      refine wpAny_bind (wpAny_nsGet hg' ?_)
      have fin : ∀ (dc : Value) (tk' : Nat), Q (.ref h'.objs.size) { s₁ with heap := h'.push (kdv_obj name qual params body scope clos dV dc ((mg "__name__").getD .none) c' ctv), toks := tk' } := fun dc tk' => by
        have z := h h'.objs.size c' ctv dc (h'.push (kdv_obj name qual params body scope clos dV dc ((mg "__name__").getD .none) c' ctv)) tk' (K2.trans (.push _ _)) (K2.gone (get_size h')) (Heap.get?_push_size _ rfl) (Keep.code (.push _ _) c' CG)
        have e : ({ s₁ with heap := h'.push (kdv_obj name qual params body scope clos dV dc ((mg "__name__").getD .none) c' ctv), toks := tk' } : Shared) = { s with heap := h'.push (kdv_obj name qual params body scope clos dV dc ((mg "__name__").getD .none) c' ctv), toks := tk' } := by
          cases s; cases s₁; simp only at hg hdr hos; subst hg hdr hos; rfl
        rw [e]; exact z
      rw [hge0]
      cases body with
      | expr e => exact wpAny_bind (wpAny_pure (wpAny_newObj_type (fin .none tk) (by size_fits)))
      | stmts b =>
        cases hdoc : docOf b with
        | none => exact wpAny_bind (by simp only [hdoc]; exact wpAny_pure (wpAny_newObj_type (fin .none tk) (by size_fits)))
        | some t => exact wpAny_bind (by simp only [hdoc]; exact wpAny_mkText (wpAny_newObj_type (fin _ _) (by size_fits)))
    unfold makeTail
    rw [hcl]
    refine wpAny_bind (wpAny_pure ?_)
    cases clos with
    | nil =>
      simp only [List.isEmpty_nil, if_true]
      refine wpAny_bind (wpAny_pure ?_)
      exact wpAny_bind (go s .none (fun _ _ e => e) rfl rfl rfl)
    | cons q r =>
      simp only [List.isEmpty_cons, Bool.false_eq_true, if_false]
      refine wpAny_bind (wpAny_newTextTuple ?_)
      exact wpAny_bind (go _ _ (fun b o e => Heap.get?_push_of_some _ e) rfl rfl rfl)

/-- a lambda without defaults -/
theorem lambda_G {e : Expr} (hdef : defaultsOf params env = ([], [])) (hcl : closureFor scope env = pure clos) (hge0 : env.globals = mainGlobals) (G : Gl mg mb s.heap) (hcode : env.code = .ref c) (C : CodeG s.heap c)
    (h : ∀ f c' ctv doc h' tk, Keep s.heap h' → s.heap.get? f = none → h'.get? f = some (kdv_obj "<lambda>" (env.qual ++ "<lambda>") params (.expr e) scope clos .none doc ((mg "__name__").getD .none) c' ctv) → CodeG h' c' →
      Q (.ref f) { s with heap := h', toks := tk }) :
    wpAny M A (eval (.Lambda params e scope pos) env) Q E s := by
  refine kla_eval hdef ?_
  rw [makeFunction_eq]
  simp only [List.zip_nil_right, List.filterMap_nil, List.isEmpty_nil, if_true, pure_bind]
  exact makeTail_G hcl hge0 G hcode C h
/-- a def with plain constants as defaults -/
theorem def_G {b : List Stmt} {Q : Flow → Shared → Prop} (hk0 : params.kw_defaults = []) (ha : annTrees params none env = []) (hcl : closureFor scope env = pure clos) (hge0 : env.globals = mainGlobals)
    (hdv : params.defaults.isEmpty = false)
    (h : wpAny M A (evalAll (evalEach params.defaults env)) (fun dv s₁ => ∃ (_ : dv.isEmpty = false) (_ : Gl mg mb s₁.heap) (c : Addr) (_ : env.code = .ref c) (_ : CodeG s₁.heap c),
      ∀ f d c' ctv doc h' tk, Keep s₁.heap h' → s₁.heap.get? f = none → s₁.heap.get? d = none → h'.get? d = some (kdv_tup dv) → h'.get? f = some (kdv_obj name (qualnameIn env name name) params (.stmts b) scope clos (.ref d) doc ((mg "__name__").getD .none) c' ctv) → CodeG h' c' →
      wpAny M A (storeName env name (.ref f)) (fun _ s'' => Q .next s'') E { s₁ with heap := h', toks := tk }) E s) :
    wpAny M A (exec (.FunctionDef name params b [] none [] scope none name pos) env) Q E s := by
  refine kdv_def hdv hk0 ha (wpAny_mono h (fun dv s₁ h₁ => ?_) fun _ _ x => x)
  obtain ⟨hne, G, c, hcode, C, h₁⟩ := h₁
  rw [makeFunction_eq]
  simp only [List.zip_nil_right, List.filterMap_nil, List.isEmpty_nil, if_true, pure_bind, hne, Bool.false_eq_true, if_false]
  refine wpAny_bind (wpAny_newTextTuple ?_)
  have K0 : Keep s₁.heap (s₁.heap.push (kdv_tup dv)) := .push _ _
  refine makeTail_G hcl hge0 (G.kept K0) hcode (K0.code _ C) fun f c' ctv doc h' tk k hf hf' hc' => ?_
  exact h₁ f s₁.heap.objs.size c' ctv doc h' tk (K0.trans k) (K0.gone hf) (get_size _) (k.obj _ _ (Heap.get?_push_size _ rfl) (NF.nt nofun)) hf' hc'
end
end Mine

end

section
open PySem PySem.W PySem.Calls PyProof.Rows
open PySem PySem.W PySem.Calls PyProof.Rows
namespace Mine
variable [Base]
set_option maxRecDepth 100000

/-- what a call hands back -/
def Ret (s₀ : Shared) (h : Heap) (P : Value → Heap → Prop) (f : Flow) (s' : Shared) : Prop :=
  ∃ h' t', s' = St s₀ h' t' ∧ Keep h h' ∧ P (match f with | .ret v => v | _ => .none) h'
theorem Ret.mk {s₀ : Shared} {h h' : Heap} {t : Nat} {P : Value → Heap → Prop} {v : Value} (k : Keep h h') (p : P v h') : Ret s₀ h P (.ret v) (St s₀ h' t) := ⟨h', t, rfl, k, p⟩

section
variable {prog : Program} {w : World} {A : Around} {R : Result → Shared → Prop} {s : Shared}

theorem callQ {a : Addr} {args : Args} {o : Obj} {fd : FuncData} {q : Str} (hroom : A.depth < recursionLimit) (ho : s.heap.get? a = some o)
    (hd' : o.data = .func fd) (hco : fd.scope.isCoroutine = false) (hgen : fd.scope.isGenerator = false) (hcd : s.heap.CodeRec fd.code q)
    (h : wpAny (model prog w) A.in1 (bindArgs fd args) (fun binds s₁ =>
      wpAny (model prog w) A.in1 (newFunctionEnv fd.scope fd.globals fd.closure binds (q ++ ".<locals>.") (some a) fd.code none fd.builtins)
        (fun env s₂ => s₂.heap.NoLimit ∧ codeAny (model prog w) A (match fd.body with | .stmts b => .func b env | .expr e => .expr e env) R s₂) (fun e s' => R (.error e) s') s₁) (fun e s' => R (.error e) s') s) :
    codeAny (model prog w) A (.call (.ref a) args) R s := by
  refine codeAny_of_tree ?_
  show wpAny _ A.in1 (callAny (.ref a) args) _ _ s
  simp only [callAny]
  refine wpAny_bind (wpAny_load ho ?_)
  obtain ⟨c, oc, vs, tq, hc, hoc, hdc, hq⟩ := hcd
  simp only [hd', callFunction, hco, hgen, hc]
  rw [hc] at h
  refine wpAny_bind (m := field (.ref c) 1) (wpAny_field hoc hdc hq (wpAny_bind (wpAny_pure ?_)))
  refine wpAny_bind (wpAny_mono h (fun binds s₁ h₁ => wpAny_bind (wpAny_mono h₁ (fun env s₂ h₂ => wpAny_bind (wpAny_enterFrame h₂.1 hroom ?_)) fun _ _ h' => h')) fun _ _ h' => h')
  have h₃ := h₂.2
  cases hb : fd.body with
  | stmts b => rw [hb] at h₃; exact wpAny_pure (And.intro rfl h₃)
  | expr e => rw [hb] at h₃; exact wpAny_pure (And.intro rfl h₃)
end

def BindAll (M : Model) (A : Around) (env : Env) (E : Value → Shared → Prop) (K : Shared → Prop) : List (Str × Value) → Shared → Prop
  | [], s => K s
  | (n, v) :: r, s => wpAny M A (storeName env n v) (fun _ s' => BindAll M A env E K r s') E s

abbrev cellObj (v : Option Value) : Obj := { cls := .type "cell", data := .cell v }
abbrev cellsU (l : List (Str × Addr)) : List (Addr × Obj) := l.map fun x => (x.2, cellObj none)

theorem cellsFrom_app : ∀ (names : List (Str × NameKind)) (n : Nat) (acc acc' : List (Str × Addr)), cellsFrom n names (acc ++ acc') = cellsFrom n names acc ++ acc'
  | [], _, _, _ => rfl
  | (x, k) :: r, n, acc, acc' => by
    unfold cellsFrom
    split
    · exact cellsFrom_app r (n + 1) ((x, n) :: acc) acc'
    · exact cellsFrom_app r n acc acc'

theorem Fn.cells {h₀ : Heap} {L : Addr} {m : Str → Option Value} {T : List (Addr × Obj)} {C : List Addr} : ∀ (names : List (Str × NameKind)) {acc : List (Str × Addr)} {h : Heap}, Fn h₀ L m (cellsU acc) T C h →
    Fn h₀ L m (cellsU (cellsFrom h.objs.size names acc)) T C (pushCells h names)
  | [], _, _, F => F
  | (x, k) :: r, acc, h, F => by
    unfold cellsFrom pushCells
    split
    · have z := Fn.cells r (acc := (x, h.objs.size) :: acc) (F.pushU (cellObj none) rfl nofun)
      rw [Heap.size_push] at z
      exact z
    · exact Fn.cells r F

theorem Fn.start (h : Heap) : Fn h h.objs.size (fun _ => none) [] [] [] (h.push { cls := .type "frame", data := .dict #[] }) where
  keep := .push _ _
  ns := Heap.Ns.new h (.type "frame")
  above := get_size h
  own := fun _ hp => nomatch hp
  know := fun _ hp => nomatch hp
  sep := fun _ hp => nomatch hp
  nodup := List.nodup_nil
  codes := fun _ hp => nomatch hp

theorem forIn_binds {M : Model} {A : Around} {E : Value → Shared → Prop} {env : Env} {Q : PUnit → Shared → Prop} (f : Str × Value → PUnit → Sem (ForInStep PUnit)) (hf : ∀ n v u, f (n, v) u = (do storeName env n v; pure (.yield ⟨⟩))) :
    ∀ (l : List (Str × Value)) (s : Shared), BindAll M A env E (fun s' => Q ⟨⟩ s') l s → wpAny M A (forIn l ⟨⟩ f) Q E s
  | [], s, h => by rw [List.forIn_nil]; exact wpAny_pure h
  | (n, v) :: r, s, h => by
    rw [List.forIn_cons, hf]
    refine wpAny_bind (wpAny_bind ?_)
    exact wpAny_mono h (fun _ s' z => wpAny_pure (forIn_binds f hf r s' z)) fun _ _ x => x

theorem newEnv_G {M : Model} {A : Around} {E : Value → Shared → Prop} {s : Shared} {scope : Scope} {closure : List (Str × Addr)} {binds : List (Str × Value)} {q : Str} {a : Addr} {code : Value} {Q : Env → Shared → Prop}
    (h : ∀ h₁, Fn s.heap s.heap.objs.size (fun _ => none) (cellsU (cellsFrom (s.heap.objs.size + 1) scope.names [])) [] [] h₁ →
      BindAll M A (envX q scope s.heap.objs.size a code (cellsFrom (s.heap.objs.size + 1) scope.names [] ++ closure)) E (fun s' => Q (envX q scope s.heap.objs.size a code (cellsFrom (s.heap.objs.size + 1) scope.names [] ++ closure)) s') binds { s with heap := h₁ }) :
    wpAny M A (newFunctionEnv scope mainGlobals closure binds (q ++ ".<locals>.") (some a) code none builtinsNs) Q E s := by
  simp only [newFunctionEnv, Option.isSome_none, Bool.false_eq_true, if_false]
  refine wpAny_bind (wpAny_alloc ?_)
  refine wpAny_bind (wpAny_layCells _ (fun name kind cells => by cases hkc : kind == NameKind.cell <;> simp [hkc]) _ _ _ _ ?_)
  have F := Fn.cells scope.names (acc := []) (Fn.start s.heap)
  rw [Heap.size_push] at F
  rw [show ({ s with heap := s.heap.push { cls := .type "frame", data := .dict #[] } } : Shared).heap.objs.size = s.heap.objs.size + 1 from Heap.size_push ..]
  have e := cellsFrom_app scope.names (s.heap.objs.size + 1) [] closure
  rw [List.nil_append] at e
  rw [e]
  refine wpAny_bind (forIn_binds (env := envX q scope s.heap.objs.size a code (cellsFrom (s.heap.objs.size + 1) scope.names [] ++ closure)) _ (fun _ _ _ => rfl) binds _ ?_)
  have z := h _ F
  have mono : ∀ (K K' : Shared → Prop) (l : List (Str × Value)) (s' : Shared), (∀ s, K s → K' s) → BindAll M A (envX q scope s.heap.objs.size a code (cellsFrom (s.heap.objs.size + 1) scope.names [] ++ closure)) E K l s' → BindAll M A (envX q scope s.heap.objs.size a code (cellsFrom (s.heap.objs.size + 1) scope.names [] ++ closure)) E K' l s' := by
    intro K K' l
    induction l with
    | nil => intro s' k x; exact k s' x
    | cons y r ih => intro s' k x; exact wpAny_mono x (fun _ s'' z => ih s'' k z) fun _ _ x => x
  exact mono _ _ binds _ (fun s' z => wpAny_pure z) z

/-- entering a def or a lambda: the parameters are still to be bound -/
theorem Calls.enter {prog : Program} {w : World} {d : Nat} {a : Addr} {args : Args} {h : Heap} {P : Value → Heap → Prop} {o : Obj} {fd : FuncData} {binds : List (Str × Value)}
    (ho : h.get? a = some o) (hd : o.data = .func fd) (hc : ∃ q, h.CodeRec fd.code q) (lim : h.NoLimit) (hb : ∀ s₀ t, BindsTo (St s₀ h t) fd args binds)
    (run : ∀ (A : Around) (s₀ : Shared) (t : Nat) (q : Str) (L : Addr) (h₁ : Heap), Room A d → Fn h L (fun _ => none) (cellsU (cellsFrom (L + 1) fd.scope.names [])) [] [] h₁ →
      BindAll (model prog w) A (envX q fd.scope L a fd.code (cellsFrom (L + 1) fd.scope.names [] ++ fd.closure)) NoE (fun s' => ∃ h₂ t₂, s' = St s₀ h₂ t₂ ∧ Keep h h₂ ∧
        ∀ A, Room A d → match fd.body with
          | .stmts b => wpAny (model prog w) A (execs b (envX q fd.scope L a fd.code (cellsFrom (L + 1) fd.scope.names [] ++ fd.closure))) (Ret s₀ h P) NoE s'
          | .expr e => wpAny (model prog w) A (eval e (envX q fd.scope L a fd.code (cellsFrom (L + 1) fd.scope.names [] ++ fd.closure))) (fun v => Ret s₀ h P (.ret v)) NoE s') binds (St s₀ h₁ t))
    (hg : fd.globals = mainGlobals := by rfl) (hbn : fd.builtins = builtinsNs := by rfl) (hco : fd.scope.isCoroutine = false := by rfl) (hgen : fd.scope.isGenerator = false := by rfl) :
    Calls prog w (d + 1) (.ref a) args h P := by
  intro A s₀ t R hr z
  obtain ⟨q, hq⟩ := hc
  have hroom : A.depth < recursionLimit := by have := hr.depth; omega
  have hr1 : Room A.in1 d := ⟨hr.handled, by show A.depth + d < _; have := hr.depth; omega, by show A.units + 1 + 10 * d < _; have := hr.units; omega⟩
  have hr2 : ∀ env, Room (A.deeper env) d := fun env => ⟨hr.handled, by show A.depth + 1 + d < _; have := hr.depth; omega, by show A.units + 3 + 10 * d < _; have := hr.units; omega⟩
  refine callQ hroom ho hd hco hgen hq (hb s₀ t _ _ _ _ ?_)
  rw [hg, hbn]
  refine newEnv_G fun h₁ F => ?_
  have y := run A.in1 s₀ t q _ h₁ hr1 F
  have mono : ∀ (K K' : Shared → Prop) (env : Env) (E' : Value → Shared → Prop) (l : List (Str × Value)) (s' : Shared), (∀ s, K s → K' s) → BindAll (model prog w) A.in1 env NoE K l s' → BindAll (model prog w) A.in1 env E' K' l s' := by
    intro K K' env E' l
    induction l with
    | nil => intro s' k x; exact k s' x
    | cons y r ih => intro s' k x; exact wpAny_mono x (fun _ s'' z => ih s'' k z) fun _ _ x => x.elim
  refine mono _ _ _ _ binds _ (fun s' z' => ?_) y
  obtain ⟨h₂, t₂, rfl, k₂, z'⟩ := z'
  refine ⟨k₂.lim lim, ?_⟩
  cases hbd : fd.body with
  | stmts b =>
    have z'' := z' (A.deeper (envX q fd.scope h.objs.size a fd.code (cellsFrom (h.objs.size + 1) fd.scope.names [] ++ fd.closure))) (hr2 _)
    rw [hbd] at z''
    refine codeAny_func (wpAny_mono z'' (fun f s' x => ?_) fun _ _ x => x.elim)
    obtain ⟨h', t', rfl, k, p⟩ := x
    exact z _ h' t' k p
  | expr e =>
    have z'' := z' (A.deeper (envX q fd.scope h.objs.size a fd.code (cellsFrom (h.objs.size + 1) fd.scope.names [] ++ fd.closure))) (hr2 _)
    rw [hbd] at z''
    refine kla_codeExpr (wpAny_mono z'' (fun f s' x => ?_) fun _ _ x => x.elim)
    obtain ⟨h', t', rfl, k, p⟩ := x
    exact z _ h' t' k p
end Mine

end

section
open PySem PySem.W PySem.Calls PyProof.Rows
open PySem PySem.W PySem.Calls PyProof.Rows
namespace Mine
variable [Base]
set_option maxRecDepth 100000

section
variable {M : Model} {A : Around} {E : Value → Shared → Prop} {s : Shared} {h₀ : Heap} {L a : Addr} {m : Str → Option Value} {U T : List (Addr × Obj)} {C : List Addr} {q : Str} {sc : Scope} {cd : Value} {cl : List (Str × Addr)}
  {x : Str} {pos : Pos} {v : Value} {Q : Value → Shared → Prop} {mg mb : Str → Option Value}
theorem ldL (F : Fn h₀ L m U T C s.heap) (hv : m x = some v) (h : Q v s)
    (hk : sc.kind = .function := by rfl) (hx : (envX q sc L a cd cl).kindOf x = some .local := by rfl) (hd : (x == ("__debug__" : Str)) = false := by decide) :
    wpAny M A (eval (.Name x pos) (envX q sc L a cd cl)) Q E s := wpAny_Name (wpAny_loadName_local hk hx F.ns hv h) hd
theorem ldnL (F : Fn h₀ L m U T C s.heap) (hv : m x = some v) (h : Q v s)
    (hk : sc.kind = .function := by rfl) (hx : (envX q sc L a cd cl).kindOf x = some .local := by rfl) :
    wpAny M A (loadName (envX q sc L a cd cl) x) Q E s := wpAny_loadName_local hk hx F.ns hv h
theorem ldG (F : Fn h₀ L m U T C s.heap) (G : Gl mg mb h₀) (hv : mg x = some v) (h : Q v s)
    (hk : sc.kind = .function := by rfl) (hx : (envX q sc L a cd cl).kindOf x = some .globalImplicit := by rfl) (hd : (x == ("__debug__" : Str)) = false := by decide) :
    wpAny M A (eval (.Name x pos) (envX q sc L a cd cl)) Q E s := Name_function_global hk hx (loadGlobal_global (env := envX q sc L a cd cl) (G.kept F.keep).g hv h) hd
theorem ldB (F : Fn h₀ L m U T C s.heap) (G : Gl mg mb h₀) (hn : mg x = none) (hv : mb x = some v) (h : Q v s)
    (hk : sc.kind = .function := by rfl) (hx : (envX q sc L a cd cl).kindOf x = some .globalImplicit := by rfl) (hd : (x == ("__debug__" : Str)) = false := by decide) :
    wpAny M A (eval (.Name x pos) (envX q sc L a cd cl)) Q E s := Name_function_global hk hx (loadGlobal_builtin (env := envX q sc L a cd cl) (G.kept F.keep).g hn (G.kept F.keep).b hv h) hd
theorem ldC {c : Addr} {o : Obj} (hc : cl.lookup x = some c) (ho : s.heap.get? c = some o) (hd : o.data = .cell (some v)) (h : Q v s)
    (hk : sc.kind = .function := by rfl) (hx : (envX q sc L a cd cl).kindOf x = some .cell := by rfl) (hb : (x == ("__debug__" : Str)) = false := by decide) :
    wpAny M A (eval (.Name x pos) (envX q sc L a cd cl)) Q E s := wpAny_Name (wpAny_loadName_cell hk hx hc ⟨o, ho, hd⟩ h) hb
theorem ldF {c : Addr} {o : Obj} (hc : cl.lookup x = some c) (ho : s.heap.get? c = some o) (hd : o.data = .cell (some v)) (h : Q v s)
    (hk : sc.kind = .function := by rfl) (hx : (envX q sc L a cd cl).kindOf x = some .free := by rfl) (hb : (x == ("__debug__" : Str)) = false := by decide) (hn : (x == ("__classdict__" : Str)) = false := by decide) :
    wpAny M A (eval (.Name x pos) (envX q sc L a cd cl)) Q E s := wpAny_Name (wpAny_loadName_free hk hx hc ⟨o, ho, hd⟩ h hn) hb
end
section
variable {M : Model} {A : Around} {E : Value → Shared → Prop} {hp : Heap} {g : Array GenState} {dr : Drawn} {tk : Nat} {os : OsState} {h₀ : Heap} {L a : Addr} {m : Str → Option Value} {U T : List (Addr × Obj)} {C : List Addr} {q : Str} {sc : Scope} {cd : Value} {cl : List (Str × Addr)}
  {x : Str} {v : Value} {Q : Unit → Shared → Prop}
theorem stL (F : Fn h₀ L m U T C hp) (h : ∀ h' t, Fn h₀ L (fun y => if y = x then some v else m y) U T C h' → Q () ⟨h', g, dr, t, os⟩)
    (hk : sc.kind = .function := by rfl) (hx : (envX q sc L a cd cl).kindOf x = some .local := by rfl) : wpAny M A (storeName (envX q sc L a cd cl) x v) Q E ⟨hp, g, dr, tk, os⟩ :=
  wpAny_storeName_local (s := ⟨hp, g, dr, tk, os⟩) hx F.ns (fun h' hn hs => h h' _ (F.set hn hs)) (by show (sc.kind == .class || (sc.kind == .module && L != mainGlobals)) = false; rw [hk]; rfl)
theorem stC {c : Addr} {o : Obj} {v₀ : Option Value} (F : Fn h₀ L m ((c, o) :: U) T C hp) (hc : cl.lookup x = some c) (hd : o.data = .cell v₀)
    (h : ∀ h' o', o'.data = .cell (some v) → Fn h₀ L m ((c, o') :: U) T C h' → Q () ⟨h', g, dr, tk, os⟩)
    (hk : sc.kind = .function := by rfl) (hx : (envX q sc L a cd cl).kindOf x = some .cell := by rfl) : wpAny M A (storeName (envX q sc L a cd cl) x v) Q E ⟨hp, g, dr, tk, os⟩ := by
  refine wpAny_storeName_cell (s := ⟨hp, g, dr, tk, os⟩) hk hx hc ⟨o, F.getU (.head _), hd⟩ fun h' hv hs => ?_
  obtain ⟨o', ho', hd'⟩ := hv
  exact h h' o' hd' (F.upd hs ho' fun vs e => by rw [hd'] at e; cases e)
end

/-! ### calls -/
section
variable {prog : Program} {w : World} {A : Around} {E : Value → Shared → Prop} {hp : Heap} {g : Array GenState} {dr : Drawn} {tk : Nat} {os : OsState} {Q : Value → Shared → Prop}
theorem callG {d : Nat} {f : Value} {pos : List Value} {kw : List (Str × Value)} {P : Value → Heap → Prop} (X : Mine.Calls prog w d f ⟨pos, kw⟩ hp P) (hr : Room A d)
    (k : ∀ v h' t', Keep hp h' → P v h' → Q v ⟨h', g, dr, t', os⟩) : wpAny (model prog w) A (call f pos kw) Q E ⟨hp, g, dr, tk, os⟩ :=
  wpAny_call (X A ⟨hp, g, dr, tk, os⟩ tk _ hr fun v h' t' kk p => k v h' t' kk p)
end

def FD (p : Program) (i : Nat) : Arguments × List Stmt × Scope := match p.main.body[i]? with
  | some (.FunctionDef _ a b _ _ _ sc _ _ _) => (a, b, sc)
  | _ => (⟨[], [], none, [], [], none, []⟩, [], { kind := .function, names := [], isGenerator := false, isCoroutine := false })

/-- a code object that a def may be entered by -/
def CodeP (h : Heap) (c : Addr) : Prop := ∃ o vs q t, h.get? c = some o ∧ NT o ∧ o.data = .fields vs ∧ vs[1]? = some (.str q t)
theorem CodeP.rec' {h : Heap} {c : Addr} (x : CodeP h c) : ∃ q, h.CodeRec (.ref c) q := let ⟨o, vs, q, t, e, _, d, r⟩ := x; ⟨q, c, o, vs, t, rfl, e, d, r⟩
theorem CodeP.kept {h h' : Heap} {c : Addr} (x : CodeP h c) (k : Keep h h') : CodeP h' c := let ⟨o, vs, q, t, e, n, r⟩ := x; ⟨o, vs, q, t, k.obj _ _ e n, n, r⟩

/-- the def number i of the text stands at a -/
def IsDef (p : Program) (i : Nat) (h : Heap) (a : Addr) (dV kV : Value) (c : Addr) : Prop :=
  ∃ name qual doc pm an ct oc od osl, h.get? a = some ⟨oc, od, .func (fnX name qual (FD p i).1 (FD p i).2.1 (FD p i).2.2 [] dV kV doc pm an (.ref c) ct), osl⟩
theorem IsDef.kept {p : Program} {i : Nat} {h h' : Heap} {a : Addr} {dV kV : Value} {c : Addr} (x : IsDef p i h a dV kV c) (k : Keep h h') : IsDef p i h' a dV kV c :=
  by
    obtain ⟨name, qual, doc, pm, an, ct, oc, od, osl, e⟩ := x
    exact ⟨name, qual, doc, pm, an, ct, oc, od, osl, k.obj _ _ e (NF.nt nofun)⟩

/-- a def whose parameters are all plain locals -/
theorem IsDef.calls {prog p : Program} {w : World} {i : Nat} {h : Heap} {a : Addr} {dV kV : Value} {c : Addr} {args : Args} {binds : List (Str × Value)} {d : Nat} {P : Value → Heap → Prop}
    (x : IsDef p i h a dV kV c) (hc : ∃ q, h.CodeRec (.ref c) q) (lim : h.NoLimit)
    (hb : ∀ name qual doc pm an ct s₀ t, BindsTo (St s₀ h t) (fnX name qual (FD p i).1 (FD p i).2.1 (FD p i).2.2 [] dV kV doc pm an (.ref c) ct) args binds)
    (hcells : cellsFrom 0 (FD p i).2.2.names [] = []) (hl : ∀ b ∈ binds, (FD p i).2.2.names.lookup b.1 = some .local)
    (run : ∀ (A : Around) (s₀ : Shared) (t : Nat) (q : Str) (L : Addr) (h₁ : Heap), Room A d → Fn h L (fun y => binds.reverse.lookup y) [] [] [] h₁ →
      wpAny (model prog w) A (execs (FD p i).2.1 (envX q (FD p i).2.2 L a (.ref c) [])) (Ret s₀ h P) NoE (St s₀ h₁ t))
    (hk : (FD p i).2.2.kind = .function := by rfl) (hco : (FD p i).2.2.isCoroutine = false := by rfl) (hgen : (FD p i).2.2.isGenerator = false := by rfl) :
    Mine.Calls prog w (d + 1) (.ref a) args h P := by
  obtain ⟨name, qual, doc, pm, an, ct, oc, od, osl, e⟩ := x
  refine Calls.enter e rfl hc lim (hb name qual doc pm an ct) ?_ rfl rfl hco hgen
  intro A s₀ t q L h₁ hr F
  have nocell : ∀ (names : List (Str × NameKind)) (n n' : Nat) (acc : List (Str × Addr)), cellsFrom n names [] = [] → cellsFrom n' names [] = [] := by
    intro names
    have len : ∀ (names : List (Str × NameKind)) (n n' : Nat) (acc acc' : List (Str × Addr)), acc.length = acc'.length → (cellsFrom n names acc).length = (cellsFrom n' names acc').length := by
      intro names
      induction names with
      | nil => intro n n' acc acc' e; exact e
      | cons x r ih =>
        intro n n' acc acc' e
        unfold cellsFrom
        split
        · exact ih _ _ _ _ (by simp [e])
        · exact ih _ _ _ _ e
    intro n n' _ e
    have := len names n n' [] [] rfl
    rw [e] at this
    exact List.length_eq_zero_iff.mp this.symm
  have e0 : cellsFrom (L + 1) (FD p i).2.2.names [] = [] := nocell _ 0 _ [] hcells
  simp only [e0, List.nil_append] at F ⊢
  have go : ∀ (r done : List (Str × Value)) (t : Nat) (h₂ : Heap), (∀ b ∈ r, (FD p i).2.2.names.lookup b.1 = some .local) → binds = done ++ r → Fn h L (fun y => done.reverse.lookup y) [] [] [] h₂ →
      BindAll (model prog w) A (envX q (FD p i).2.2 L a (.ref c) []) NoE (fun s' => ∃ h₂ t₂, s' = St s₀ h₂ t₂ ∧ Keep h h₂ ∧ ∀ A, Room A d → wpAny (model prog w) A (execs (FD p i).2.1 (envX q (FD p i).2.2 L a (.ref c) [])) (Ret s₀ h P) NoE s') r (St s₀ h₂ t) := by
    intro r
    induction r with
    | nil =>
      intro done t h₂ _ hb F
      rw [List.append_nil] at hb
      subst hb
      exact ⟨h₂, t, rfl, F.keep, fun A hr => run A s₀ t q L h₂ hr F⟩
    | cons y r ih =>
      obtain ⟨n, v⟩ := y
      intro done t h₂ hl hb F
      refine stL (hp := h₂) F (fun h' t' F' => ?_) hk (hl (n, v) (.head _))
      refine ih (done ++ [(n, v)]) t' h' (fun b hb => hl b (.tail _ hb)) (by rw [hb]; simp) ?_
      have e : (fun y => (done ++ [(n, v)]).reverse.lookup y) = fun y => if y = n then some v else done.reverse.lookup y := by
        funext y
        rw [List.reverse_append, List.reverse_singleton, List.singleton_append, List.lookup_cons]
        by_cases hy : y = n
        · subst hy; simp
        · have : (y == n) = false := by simpa using hy
          simp [this, hy]
      rw [e]; exact F'
  exact go binds [] t h₁ hl rfl F
end Mine

end

section
open PySem PySem.W PySem.Calls PyProof.Rows
open PySem PySem.W PySem.Calls PyProof.Rows
namespace Mine
variable [Base]
set_option maxRecDepth 100000

theorem notedBy_false {M : Model} {A : Around} {env : Env} {E : Value → Shared → Prop} {e : Value} {s : Shared} (h : False) : notedBy M A env E e s := h.elim

section
variable {prog : Program} {w : World} {A : Around} {E : Value → Shared → Prop} {s : Shared}
/-- a while by an invariant and a measure -/
theorem while_G {test : Expr} {body : List Stmt} {env : Env} {pos : Pos} {Q : Flow → Shared → Prop} (I : Nat → Shared → Prop) (n : Nat) (h : I n s)
    (turn : ∀ n s, I n s → wpAny (model prog w) A (isTrue test env (eval test env)) (fun b s₂ =>
      if b = true then wpAny (model prog w) A (execs body env) (fun f s₃ => match f with
            | .next | .cont => ∃ m, m < n ∧ I m s₃
            | .brk => Q .next s₃
            | .ret v => Q (.ret v) s₃) NoE s₂
      else Q .next s₂) NoE s) :
    wpAny (model prog w) A (exec (.While test body [] pos) env) Q E s := by
  refine wpAny_While (codeAny_whileLoop I (fun n s hI => ?_) n h)
  refine wpAny_mono (turn n s hI) (fun b s₂ h₂ => ?_) fun _ _ x => x.elim
  cases b with
  | false => exact wpAny_execs_nil h₂
  | true =>
    refine wpAny_mono h₂ (fun f s₃ h₃ => ?_) fun _ _ x => x.elim
    cases f <;> exact h₃

inductive FlI (s : Shared) (h₀ : Heap) (L I : Addr) (T : List (Addr × Obj)) (C : List Addr) (n : Nat) (St' : Nat → Heap → Prop) (J : Nat → (Str → Option Value) → List (Addr × Obj) → Prop) (k : Nat) (s' : Shared) : Prop
  | mk (h : Heap) (t : Nat) (m : Str → Option Value) (U : List (Addr × Obj)) (o : Obj) (i : Nat) (e : s' = { s with heap := h, toks := t }) (st : St' i h) (F : Fn h₀ L m U ((I, o) :: T) C h) (hJ : J i m U) (hi : i ≤ n) (hk : k = n + 1 - i)
/-- a for over an iterator that walks n items -/
theorem forLoop_G {body : List Stmt} {env : Env} {I : Addr} {fp : List Addr} {n : Nat} {P : Nat → Value → Prop} {St' : Nat → Heap → Prop} {h₀ : Heap} {L : Addr} {m : Str → Option Value} {U T : List (Addr × Obj)} {C : List Addr}
    {R : Result → Shared → Prop} {o : Obj} (target : Expr) (hlet : ∀ i j v s Q, P j v → St' i s.heap → Q () s → wpAny (model prog w) A (letOwnedTupleGo target (.ref I) v) Q NoE s)
    (W : Walks prog w A I fp [I] n P St') (hobj : ∀ i h, St' i h → ∃ o, h.get? I = some o ∧ NT o ∧ o.cls ≠ .type "code") (hfp : ∀ b ∈ fp, b = I ∨ ∃ o, (b, o) ∈ T)
    (hI : h₀.get? I = none) (hT : ∀ p ∈ T, p.1 ≠ I) (st : St' 0 s.heap) (F : Fn h₀ L m U ((I, o) :: T) C s.heap)
    (J : Nat → (Str → Option Value) → List (Addr × Obj) → Prop) (h0 : J 0 m U)
    (turn : ∀ i v m U h o t, i < n → P i v → J i m U → Fn h₀ L m U ((I, o) :: T) C h →
      wpAny (model prog w) A (assign target env v) (fun _ s₂ => wpAny (model prog w) A (execs body env) (fun f s₃ => match f with
            | .next | .cont => ∃ m' U' h' t', s₃ = { s with heap := h', toks := t' } ∧ Fn h₀ L m' U' ((I, o) :: T) C h' ∧ J (i + 1) m' U'
            | .brk => R (.ok .next) s₃
            | .ret v => R (.ok (.ret v)) s₃) NoE s₂) NoE { s with heap := h, toks := t })
    (done : ∀ m U h t, J n m U → Fn h₀ L m U T C h → R (.ok .next) { s with heap := h, toks := t }) :
    codeAny (model prog w) A (.forLoop target (.ref I) body [] env) R s := by
  refine codeAny_forLoop_any (FlI s h₀ L I T C n St' J) ?_ (n + 1)
    ⟨s.heap, s.toks, m, U, o, 0, rfl, st, F, h0, Nat.zero_le _, rfl⟩
  rintro k s' ⟨h, t, m, U, o, i, rfl, st, F, hJ, hi, rfl⟩
  obtain ⟨o₁, e₁, n₁, c₁⟩ := hobj _ _ st
  have eo : o₁ = o := Option.some.inj (e₁.symm.trans (F.get (.head _)))
  subst eo
  by_cases hlt : i < n
  · refine W.item i _ _ _ hlt st fun v h' t' hP st' hk => ?_
    obtain ⟨o₂, e₂, n₂, c₂⟩ := hobj _ _ st'
    have hx : Heap.ExtBut I h h' := fun b ob hb e => hk b ob (fun q => hb (List.mem_singleton.mp q)) e
    have F' := (F.other hI c₁ hx hT).addT e₂ n₂ (F.know _ (.head _)).2.2 (fun p hp => F.sep p hp _ (.head _))
    refine wpAny_mono (hlet _ i v _ (fun _ s' => s' = { s with heap := h', toks := t' }) hP st' rfl) (fun _ s₁ e => ?_) fun _ _ x => x.elim
    subst e
    refine wpAny_mono (turn i v m U h' o₂ t' hlt hP hJ F') (fun _ s₂ h₂ => wpAny_mono h₂ (fun f s₃ h₃ => ?_) fun _ _ x => x.elim) fun _ _ x => x.elim
    have nxt : (∃ m' U' h'' t'', s₃ = { s with heap := h'', toks := t'' } ∧ Fn h₀ L m' U' ((I, o₂) :: T) C h'' ∧ J (i + 1) m' U') → ∃ k, k < n + 1 - i ∧ FlI s h₀ L I T C n St' J k s₃ := by
      rintro ⟨m', U', h'', t'', rfl, F'', hJ'⟩
      refine ⟨n + 1 - (i + 1), by omega, h'', t'', m', U', o₂, i + 1, rfl, ?_, F'', hJ', hlt, rfl⟩
      refine W.frame _ _ _ st' fun b hb ob e => ?_
      rcases hfp b hb with rfl | ⟨ob', hm⟩
      · rw [e₂] at e; cases e; exact F''.get (.head _)
      · have z := F'.get (.tail _ hm)
        rw [e] at z; cases z
        exact F''.get (.tail _ hm)
    cases f with
    | next => exact nxt h₃
    | cont => exact nxt h₃
    | brk => exact h₃
    | ret v => exact h₃
  · have hin : i = n := by omega
    subst hin
    refine W.done _ _ _ st fun h' t' hk => wpAny_execs_nil ?_
    have hx : Heap.ExtBut I h h' := fun b ob hb e => hk b ob (fun q => hb (List.mem_singleton.mp q)) e
    exact done m U h' t' hJ (F.other hI c₁ hx hT)
end
end Mine

end

section
open PySem PySem.W PySem.Calls PyProof.Rows
open PySem PySem.W PySem.Calls PyProof.Rows
namespace Mine
variable [Base]
set_option maxRecDepth 100000

section
variable {prog : Program} {w : World} {A : Around} {E : Value → Shared → Prop} {s : Shared} {h₀ : Heap} {L fa : Addr} {m : Str → Option Value} {U T : List (Addr × Obj)} {C : List Addr} {q : Str} {sc : Scope} {cd : Value} {cl : List (Str × Addr)}
  {x : Str} {px : Pos} {body : List Stmt} {Q : Flow → Shared → Prop}

/-- what a turn of a loop must end in -/
def TurnPost (s : Shared) (h₀ : Heap) (L : Addr) (T : List (Addr × Obj)) (C : List Addr) (J : (Str → Option Value) → List (Addr × Obj) → Prop) (Q : Flow → Shared → Prop) (f : Flow) (s₃ : Shared) : Prop :=
  match f with
  | .next | .cont => ∃ m' U' h' t', s₃ = { s with heap := h', toks := t' } ∧ Fn h₀ L m' U' T C h' ∧ J m' U'
  | .brk => Q .next s₃
  | .ret v => Q (.ret v) s₃
theorem TurnPost.next {J : (Str → Option Value) → List (Addr × Obj) → Prop} {h : Heap} {t : Nat} (F : Fn h₀ L m U T C h) (hJ : J m U) : TurnPost s h₀ L T C J Q .next { s with heap := h, toks := t } := ⟨m, U, h, t, rfl, F, hJ⟩

theorem iter_range {R : Addr} {a b : Int} {t u v : Tok} (F : Fn h₀ L m U T C s.heap) (hh : A.handled = none) (hR : IsRange s.heap R a b 1 t u v) (ha : -(2 ^ 62) ≤ a) (ha' : a < 2 ^ 62) (hb : -(2 ^ 62) ≤ b) (hb' : b < 2 ^ 62)
    (J : Nat → (Str → Option Value) → List (Addr × Obj) → Prop) (h0 : J 0 m U)
    (turn : ∀ (i : Nat) t m U h I o tk, a + (i : Int) < b → J i m U → Fn h₀ L (fun y => if y = x then some (.int (a + i) t) else m y) U ((I, o) :: T) C h →
      wpAny (model prog w) A (execs body (envX q sc L fa cd cl)) (TurnPost s h₀ L ((I, o) :: T) C (J (i + 1)) Q) NoE { s with heap := h, toks := tk })
    (done : ∀ m U h t, J (b - a).toNat m U → Fn h₀ L m U T C h → Q .next { s with heap := h, toks := t })
    (hk : sc.kind = .function := by rfl) (hx : (envX q sc L fa cd cl).kindOf x = some .local := by rfl) :
    wpAny (model prog w) A (pyIter (.ref R)) (fun it s₂ => codeAny (model prog w) A (.forLoop (.Name x px) it body [] (envX q sc L fa cd cl)) (fun r s' => match r with | .ok f => Q f s' | .error e => cameBackBy (model prog w) A (envX q sc L fa cd cl) E e s') s₂) E s := by
  refine wpAny_pyIter_range hR (small_one ha ha' hb hb') ?_
  have hsz : Builtin.Range.rangeSize a b 1 = ((b - a).toNat : Int) := by rw [rangeSize_one]; split <;> omega
  rw [hsz]
  have W := Walks.range (prog := prog) (w := w) hh s.heap.objs.size a 1 (b - a).toNat
  have F' := F.pushT { cls := .type "range_iterator", dict := none, data := .fields #[rawInt a, rawInt ((b - a).toNat : Int), rawInt 1], slots := #[] } rfl (fun ps e => by cases e)
  have hg : ∀ b o, s.heap.get? b = some o → b ≠ s.heap.objs.size := fun b o e => ne_of_get e (get_size _)
  refine forLoop_G (s := { s with heap := _ }) (T := T) (fp := [s.heap.objs.size]) (.Name x px) (fun i j v s Q _ _ hq => wpAny_pure hq) W (fun i h st => ⟨_, st, fun ps e => (by cases e), by simp⟩) (fun b hb => .inl (List.mem_singleton.mp hb)) (F.keep.gone (get_size _)) (fun p hp => hg _ _ (F.know p hp).1) ?_ F' J h0 ?_ ?_
  · have e1 : (a + ((0 : Nat) : Int) * 1) = a := by simp
    have e2 : (((b - a).toNat : Int) - ((0 : Nat) : Int)) = ((b - a).toNat : Int) := by simp
    rw [e1, e2]
    exact Heap.get?_push_size _ rfl
  · rintro i v m U h o tk hi ⟨t, rfl⟩ hJ F
    refine wpAny_assign_Name (stL F (fun h' t' F' => ?_) hk hx)
    have e : a + (i : Int) * 1 = a + i := by omega
    rw [e] at F'
    refine wpAny_mono (turn i t m U h' _ o t' (by omega) hJ F') (fun f s₃ h₃ => ?_) fun _ _ x => x
    cases f <;> exact h₃
  · intro m U h t hJ F
    exact done m U h t hJ F

theorem iter_list {l : Addr} {vs : List Value} {n : Nat} (target : Expr) (F : Fn h₀ L m U T C s.heap) (hh : A.handled = none) (hl : (l, listOf vs.toArray n) ∈ T) (hlet : ∀ I i v s Q, s.heap.IsListIter I l i → v ∈ vs → Q () s → wpAny (model prog w) A (letOwnedTupleGo target (.ref I) v) Q NoE s)
    (J : Nat → (Str → Option Value) → List (Addr × Obj) → Prop) (h0 : J 0 m U)
    (turn : ∀ (i : Nat) v m U h I o tk, vs[i]? = some v → J i m U → Fn h₀ L m U ((I, o) :: T) C h →
      wpAny (model prog w) A (assign target (envX q sc L fa cd cl) v) (fun _ s₂ => wpAny (model prog w) A (execs body (envX q sc L fa cd cl)) (TurnPost s h₀ L ((I, o) :: T) C (J (i + 1)) Q) NoE s₂) NoE { s with heap := h, toks := tk })
    (done : ∀ m U h t, J vs.length m U → Fn h₀ L m U T C h → Q .next { s with heap := h, toks := t }) :
    wpAny (model prog w) A (pyIter (.ref l)) (fun it s₂ => codeAny (model prog w) A (.forLoop target it body [] (envX q sc L fa cd cl)) (fun r s' => match r with | .ok f => Q f s' | .error e => cameBackBy (model prog w) A (envX q sc L fa cd cl) E e s') s₂) E s := by
  have hls : s.heap.IsList l vs.toArray := ⟨_, F.get hl, rfl, n, rfl⟩
  refine wpAny_pyIter_list hls ?_
  have hg : ∀ b o, s.heap.get? b = some o → b ≠ s.heap.objs.size := fun b o e => ne_of_get e (get_size _)
  have W := Walks.list (prog := prog) (w := w) hh s.heap.objs.size l (hg _ _ (F.get hl)) vs.toArray
  have F' := F.pushT { cls := .type "list_iterator", data := .fields #[.ref l, .int 0 0] } rfl (fun ps e => by cases e)
  refine forLoop_G (s := { s with heap := _ }) (T := T) (fp := [s.heap.objs.size, l]) target (fun i j v s Q hv st hq => hlet _ _ v s Q st.1 (List.mem_of_getElem? (by simpa using hv)) hq) W (fun i h st => ?_) (fun b hb => ?_) (F.keep.gone (get_size _)) (fun p hp => hg _ _ (F.know p hp).1)
    ⟨⟨_, Heap.get?_push_size _ rfl, rfl, rfl⟩, ⟨_, Heap.get?_push_of_some _ (F.get hl), rfl, n, rfl⟩⟩ F' J h0 ?_ ?_
  · obtain ⟨⟨o, ho, hc, hd⟩, _⟩ := st
    exact ⟨o, ho, (fun ps e => by rw [e] at hc; cases hc), by rw [hc]; simp⟩
  · rcases List.mem_cons.mp hb with e | hb
    · exact .inl e
    · rw [List.mem_singleton.mp hb]; exact .inr ⟨_, hl⟩
  · intro i v m U h o tk hi hP hJ F
    refine wpAny_mono (turn i v m U h _ o tk (by simpa using hP) hJ F) (fun _ s₂ h₂ => wpAny_mono h₂ (fun f s₃ h₃ => ?_) fun _ _ x => x) fun _ _ x => x
    cases f <;> exact h₃
  · intro m U h t hJ F
    rw [show vs.toArray.size = vs.length from List.size_toArray ..] at hJ
    exact done m U h t hJ F
end
end Mine

end

section
open PySem PySem.W PySem.Calls PyProof.Rows
open PySem PySem.W PySem.Calls PyProof.Rows
namespace Mine
variable [Base]
set_option maxRecDepth 100000

section
variable {prog : Program} {w : World} {A : Around} {E : Value → Shared → Prop} {s : Shared} {Q : Value → Shared → Prop}

theorem ints_at {vs : List Value} {xs : List Int} (hi : IntsAre vs xs) {j : Nat} (h : j < xs.length) : ∃ t, vs[j]? = some (.int (xs.getD j 0) t) := by
  obtain ⟨t, e⟩ := hi.get j xs[j] (by simp [h])
  refine ⟨t, ?_⟩
  rw [e]; simp [List.getD, h]

/-- an item of a list of ints -/
theorem itemI {value slice : Expr} {l : Addr} {vs : List Value} {n : Nat} {xs : List Int} {k : Int} {u : Tok} (ho : s.heap.get? l = some (listOf vs.toArray n)) (hi : IntsAre vs xs) (h0 : 0 ≤ k) (h1 : k < xs.length) (hb : xs.length < 2 ^ 62)
    (h : ∀ t, Q (.int (xs.getD k.toNat 0) t) s)
    (hs : subscripted slice false (.ref l) (.int k u) = operate [.ref l, .int k u] (getItem (.ref l) (.int k u)) := by with_unfolding_all rfl) (ht : ∀ r, letTemporaryGo value (.ref l) r = pure () := by intro _; with_unfolding_all rfl) :
    wpAny (model prog w) A (subscriptTail value slice (.ref l) (.int k u)) Q E s := by
  have hl : s.heap.IsList l vs.toArray := ⟨_, ho, rfl, n, rfl⟩
  obtain ⟨t, e⟩ := ints_at hi (j := k.toNat) (by omega)
  exact subscriptTail_builtin hl.typeIs slot_list_getitem.lookup (wpAny_getItem_list hl h0 (by omega) (by simpa using e) (h t)) hs ht
/-- an item of a list -/
theorem itemV {value slice : Expr} {l : Addr} {vs : List Value} {n : Nat} {k : Int} {u : Tok} (ho : s.heap.get? l = some (listOf vs.toArray n)) (h0 : 0 ≤ k) (h1 : k < vs.length) (hb : vs.length < 2 ^ 62)
    (h : ∀ v, vs[k.toNat]? = some v → Q v s)
    (hs : subscripted slice false (.ref l) (.int k u) = operate [.ref l, .int k u] (getItem (.ref l) (.int k u)) := by with_unfolding_all rfl) (ht : ∀ r, letTemporaryGo value (.ref l) r = pure () := by intro _; with_unfolding_all rfl) :
    wpAny (model prog w) A (subscriptTail value slice (.ref l) (.int k u)) Q E s := by
  have hl : s.heap.IsList l vs.toArray := ⟨_, ho, rfl, n, rfl⟩
  obtain ⟨v, e⟩ : ∃ v, vs[k.toNat]? = some v := ⟨vs[k.toNat]'(by omega), by simp⟩
  exact subscriptTail_builtin hl.typeIs slot_list_getitem.lookup (wpAny_getItem_list hl h0 (by omega) (by simpa using e) (h v e)) hs ht
/-- the last item of a list of ints -/
theorem itemLast {value slice : Expr} {l : Addr} {vs : List Value} {n : Nat} {xs : List Int} {u : Tok} (ho : s.heap.get? l = some (listOf vs.toArray n)) (hi : IntsAre vs xs) (h1 : 0 < xs.length) (hb : xs.length < 2 ^ 62)
    (h : ∀ t, Q (.int (xs.getD (xs.length - 1) 0) t) s)
    (hs : subscripted slice false (.ref l) (.int (-1) u) = operate [.ref l, .int (-1) u] (getItem (.ref l) (.int (-1) u)) := by with_unfolding_all rfl) (ht : ∀ r, letTemporaryGo value (.ref l) r = pure () := by intro _; with_unfolding_all rfl) :
    wpAny (model prog w) A (subscriptTail value slice (.ref l) (.int (-1) u)) Q E s := by
  have hl : s.heap.IsList l vs.toArray := ⟨_, ho, rfl, n, rfl⟩
  obtain ⟨t, e⟩ := ints_at hi (j := xs.length - 1) (by omega)
  have hlen : vs.length = xs.length := hi.length
  refine subscriptTail_builtin hl.typeIs slot_list_getitem.lookup (wpAny_getItem_list_neg hl (by decide) ?_ (by decide) ?_ (h t)) hs ht
  · simp only [List.size_toArray]; omega
  · simp only [List.size_toArray]
    have : (-1 + (vs.length : Int)).toNat = xs.length - 1 := by omega
    rw [this]; simpa using e

end
section
variable {prog : Program} {w : World} {A : Around} {E : Value → Shared → Prop} {hp : Heap} {g : Array GenState} {dr : Drawn} {tk : Nat} {os : OsState} {Q : Value → Shared → Prop} {a b : Int} {t u : Tok}
theorem lenL {l : Addr} {vs : List Value} {n : Nat} (ho : hp.get? l = some (listOf vs.toArray n)) (hb : vs.length < 2 ^ 62) (h : ∀ t u, Q (.int vs.length t) ⟨hp, g, dr, u, os⟩) :
    wpAny (model prog w) A (call (.builtin "len") [.ref l]) Q E ⟨hp, g, dr, tk, os⟩ := by
  have hl : hp.IsList l vs.toArray := ⟨_, ho, rfl, n, rfl⟩
  exact PyProof.Rows.len_list (s := ⟨hp, g, dr, tk, os⟩) hl (by simp only [List.size_toArray]; omega) (by simpa using h (tk + 1) (tk + 1 + 1))
theorem cInt {M : Model} {i : Int} {k : Nat} {pos : Pos} {env : Env} (h : ∀ t u, Q (.int i t) ⟨hp, g, dr, u, os⟩) : wpAny M A (eval (.Constant (.int i) k pos) env) Q E ⟨hp, g, dr, tk, os⟩ := wpAny_Constant_int (h _ _)
theorem cStr {M : Model} {x : Str} {k : Nat} {pos : Pos} {env : Env} (h : ∀ t u, Q (.str x t) ⟨hp, g, dr, u, os⟩) : wpAny M A (eval (.Constant (.str x) k pos) env) Q E ⟨hp, g, dr, tk, os⟩ := by
  rw [eval_Constant]; exact wpAny_mkText (h _ _)
theorem addI (h : ∀ t u, Q (.int (a + b) t) ⟨hp, g, dr, u, os⟩) : wpAny (model prog w) A (binaryOp .Add (.int a t) (.int b u)) Q E ⟨hp, g, dr, tk, os⟩ := PyProof.Rows.add_int (h _ _)
theorem subI (h : ∀ t u, Q (.int (a - b) t) ⟨hp, g, dr, u, os⟩) : wpAny (model prog w) A (binaryOp .Sub (.int a t) (.int b u)) Q E ⟨hp, g, dr, tk, os⟩ := PyProof.Rows.sub_int (h _ _)
theorem fdivI (hb : b ≠ 0) (hs : b.natAbs < 1073741824) (h : ∀ t u, Q (.int (a.fdiv b) t) ⟨hp, g, dr, u, os⟩) : wpAny (model prog w) A (binaryOp .FloorDiv (.int a t) (.int b u)) Q E ⟨hp, g, dr, tk, os⟩ := PyProof.Rows.floordiv_int hb (h _ _) (.inl (PyProof.noPylong_small hs))
theorem modI (hb : b ≠ 0) (h : ∀ t u, Q (.int (a.fmod b) t) ⟨hp, g, dr, u, os⟩) : wpAny (model prog w) A (binaryOp .Mod (.int a t) (.int b u)) Q E ⟨hp, g, dr, tk, os⟩ := PyProof.Rows.mod_int hb (h _ _)
theorem negI (h : ∀ t u, Q (.int (-a) t) ⟨hp, g, dr, u, os⟩) : wpAny (model prog w) A (unaryOp .USub (.int a t)) Q E ⟨hp, g, dr, tk, os⟩ := PyProof.Rows.neg_int (h _ _)
theorem iaddI (h : ∀ t u, Q (.int (a + b) t) ⟨hp, g, dr, u, os⟩) : wpAny (model prog w) A (inplaceOp .Add (.int a t) (.int b u)) Q E ⟨hp, g, dr, tk, os⟩ := PyProof.Rows.iadd_int (h _ _)
theorem ite_t {b : Bool} {X Y : Prop} (h : b = true) (x : X) : if b = true then X else Y := by rw [h]; exact x
theorem ite_f {b : Bool} {X Y : Prop} (h : b = false) (y : Y) : if b = true then X else Y := by rw [h]; exact y
end
end Mine

end

section
open PySem PySem.W PySem.Calls PyProof.Rows
open PySem PySem.W PySem.Calls PyProof.Rows
namespace Mine
variable [Base]
set_option maxRecDepth 100000
open PySem.Builtin PySem.Builtin.ObjectAttr

theorem fn_set : Slot "function" "__setattr__" "object.__setattr__" :=
  .of (owner := "object") (n := "__setattr__") (by rw [typeLookup_type, builtinLookup_eq_fast]; kernel_rfl) (by decide +kernel) (by decide +kernel) (by decide +kernel)
    (by first | exact .inl (by decide +kernel) | exact .inr (by decide +kernel)) (by rw [isSubtype_type]; kernel_rfl)
theorem fn_ga : Slot "function" "__getattribute__" "object.__getattribute__" :=
  .of (owner := "object") (n := "__getattribute__") (by rw [typeLookup_type, builtinLookup_eq_fast]; kernel_rfl) (by decide +kernel) (by decide +kernel) (by decide +kernel)
    (by first | exact .inl (by decide +kernel) | exact .inr (by decide +kernel)) (by rw [isSubtype_type]; kernel_rfl)
theorem entry_set : entryFor table "object.__setattr__" = some Builtin.«object.__setattr__» := entryFor_of_tree (by kernel_rfl)
theorem entry_ga : entryFor table "object.__getattribute__" = some Builtin.«object.__getattribute__» := entryFor_of_tree (by kernel_rfl)
theorem args_set (a b c : Value) : argsOk "object.__setattr__" ⟨[a, b, c], []⟩ := by unfold argsOk; kernel_rfl
theorem args_ga (a b : Value) : argsOk "object.__getattribute__" ⟨[a, b], []⟩ := by unfold argsOk; kernel_rfl
theorem fn_span : typeLookup (.type "function") "span" = pure none := by rw [typeLookup_type, builtinLookup_eq_fast]; kernel_rfl
theorem fn_search : typeLookup (.type "function") "search" = pure none := by rw [typeLookup_type, builtinLookup_eq_fast]; kernel_rfl
theorem fn_getattr : typeLookup (.type "function") "__getattr__" = pure none := by rw [typeLookup_type, builtinLookup_eq_fast]; kernel_rfl
theorem fn_bool : typeLookup (.type "function") "__bool__" = pure none := by rw [typeLookup_type, builtinLookup_eq_fast]; kernel_rfl
theorem fn_len : typeLookup (.type "function") "__len__" = pure none := by rw [typeLookup_type, builtinLookup_eq_fast]; kernel_rfl

theorem fn_mro : mroOf (.type "function") = pure [.type "function", .type "object"] := by rw [mroOf_type]; kernel_rfl
theorem fn_refuse (self : Value) : refuseLoop self "__setattr__" [.type "function", .type "object"] = pure () := by kernel_rfl
theorem fn_hasDict : typeHasDict (.type "function") = true := by kernel_rfl
theorem fn_fin : finalisedInACycleAlone "function" = false := by kernel_rfl

/-- the attributes' dict of a function object -/
def DictIs (o : Obj) (m : Str → Option Value) : Prop := ∃ es ep, o.data = .dict es ep ∧ StrKeys es ∧ ∀ n, nsFind es n = m n
theorem DictIs.ns {h : Heap} {a : Addr} {o : Obj} {m : Str → Option Value} (x : DictIs o m) (e : h.get? a = some o) : h.Ns a m := let ⟨es, ep, d, r⟩ := x; ⟨o, es, ep, e, d, r⟩
theorem DictIs.nf {o : Obj} {m : Str → Option Value} (x : DictIs o m) : NF o := let ⟨es, ep, d, _⟩ := x; fun vs e => by rw [d] at e; cases e

section
variable {prog : Program} {w : World} {A : Around} {E : Value → Shared → Prop} {hp : Heap} {g : Array GenState} {dr : Drawn} {tk : Nat} {os : OsState} {h₀ : Heap} {L : Addr} {m : Str → Option Value} {U T : List (Addr × Obj)} {C : List Addr}

/-- f.name = v, f a function object without attributes -/
theorem fn_setattr {f : Addr} {fd : FuncData} {name : Str} {v : Value} {Q : Unit → Shared → Prop} (F : Fn h₀ L m ((f, { cls := .type "function", data := .func fd }) :: U) T C hp) (hl : typeLookup (.type "function") name = pure none)
    (h : ∀ d od h' t', DictIs od (fun x => if x = name then some v else none) → Fn h₀ L m ((f, { cls := .type "function", dict := some d, data := .func fd }) :: (d, od) :: U) T C h' → Q () ⟨h', g, dr, t', os⟩) :
    wpAny (model prog w) A (setAttr (.ref f) name v) Q E ⟨hp, g, dr, tk, os⟩ := by
  unfold setAttr
  refine wpAny_bind (wpAny_mkText ?_)
  have ho : hp.get? f = some { cls := .type "function", data := .func fd } := F.getU (.head _)
  have hT : (⟨hp, g, dr, tk + 1, os⟩ : Shared).TypeIs (.ref f) "function" := ⟨_, ho, rfl⟩
  refine wpAny_bind (wpAny_callSpecial?_slot hT fn_set (wpAny_call_entry fn_set hT entry_set ?_ (args_set _ _ _)))
  rw [osa_eq, refuse_eq]
  refine wpAny_bind (wpAny_bind (wpAny_typeOf hT (wpAny_bind ?_)))
  rw [fn_mro]
  refine wpAny_pure ?_
  rw [fn_refuse]
  refine wpAny_pure (wpAny_bind (wpAny_typeOf hT (wpAny_bind ?_)))
  rw [hl]
  refine wpAny_pure (wpAny_bind (wpAny_pure ?_))
  show wpAny _ _ (storeInOwnDict _ _ _ _ _ _) _ _ _
  unfold storeInOwnDict
  refine wpAny_bind (m := ownStreamTells _ _) (wpAny_pure ?_)
  show wpAny _ _ (ownDictForStores (.ref f) >>= _) _ _ _
  refine wpAny_bind ?_
  unfold ownDictForStores instanceDict
  refine wpAny_bind (wpAny_loadPart ho ?_)
  dsimp only
  rw [fn_hasDict]
  refine wpAny_bind (wpAny_alloc (wpAny_bind (wpAny_update (Heap.get?_push_of_some _ ho) ?_)))
  unfold dictMade
  dsimp only
  rw [fn_fin]
  refine wpAny_pure ?_
  have F1 := (F.pushU { cls := .type "dict", data := .dict #[] } rfl nofun).swap
  have F2 := F1.upd (o' := { cls := .type "function", dict := some hp.objs.size, data := .func fd }) (Heap.SameBut.update (hp.push { cls := .type "dict", data := .dict #[] }) f fun o => { o with dict := some hp.objs.size }) (Heap.get?_update_self _ (Heap.get?_push_of_some _ ho) rfl) nofun
  have F3 := F2.swap
  have hns : (Heap.update (hp.push { cls := .type "dict", data := .dict #[] }) f fun o => { o with dict := some hp.objs.size }).Ns hp.objs.size (fun _ => none) :=
    ⟨_, #[], 0, F3.getU (.head _), rfl, fun _ he => by simp at he, fun _ => rfl⟩
  show wpAny _ _ (storeInDict _ _ _ _) _ _ _
  unfold storeInDict
  refine wpAny_bind (m := newKeyGuard _ _ _) (wpAny_pure ?_)
  refine wpAny_bind (wpAny_nsSet1 (Heap.Ns1.of_empty hns) fun h' hn1 hs => ?_)
  obtain ⟨od, es, ep, eo, ed, ek, ef⟩ := hn1.ns
  have F4 := (F3.upd hs eo (fun vs e => by rw [ed] at e; cases e)).swap
  have hsize : es.size ≤ sizeLine + 1 := by
    obtain ⟨o2, es2, ep2, e2, d2, l2⟩ := hn1.count (ns := [name]) (fun y hy => by
      by_cases q : y = name
      · subst q; exact .head _
      · simp [q] at hy)
    rw [eo] at e2; cases e2
    rw [ed] at d2; cases d2
    exact Nat.le_trans l2 (by rw [sizeLine_eq]; simp)
  refine wpAny_bind (wpAny_lookBehind eo (by rw [ed]; exact pastItsLine_dict hsize) ?_)
  refine wpAny_pure ⟨_, rfl, ?_⟩
  exact wpAny_pure (h _ od h' _ ⟨es, ep, ed, ek, ef⟩ F4)

theorem ga_eq (self : Value) (name : Str) (tk : Tok) : Builtin.«object.__getattribute__» ⟨[self, .str name tk], []⟩ = (typeOf self >>= fun tp => find self tp name >>= fun r => (match r with
  | .value v => ret v
  | .bind g a => bindTo g a self tp
  | .missing => do
    if tp == .type "module" then
      if ← isOpaqueModuleObj self then
        let byTheModulesOwnEntry := match (← stack).drop 1 with
          | (.builtin "module.__getattribute__" ⟨m :: _, _⟩, _) :: _ => m == self
          | _ => false
        if !byTheModulesOwnEntry then unsupported "thirdparty:object.__getattribute__:a-miss-on-an-opaque-module"
    if tp == .type "type" then
      if let some key ← opaqueClassAbove self then unsupported s!"thirdparty:{key.toString}.{name.toString}:object.__getattribute__-misses-on-an-opaque-class"
    noSuchAttribute self name : Sem Fin)) := rfl

/-- f.name, f a function object with that attribute -/
theorem fn_getattr' {s : Shared} {f d : Addr} {fd : FuncData} {name : Str} {fa : Addr} {mm : Str → Option Value} {ex : Bool} {Q : Value → Shared → Prop} (ho : s.heap.get? f = some { cls := .type "function", dict := some d, data := .func fd }) (hd : s.heap.Ns d mm)
    (hv : mm name = some (.ref fa)) (hl : typeLookup (.type "function") name = pure none) (h : ∀ t, Q (.ref fa) { s with toks := t }) : wpAny (model prog w) A (getAttr (.ref f) name ex) Q E s := by
  unfold getAttr
  refine wpAny_bind (wpAny_mkText ?_)
  have hT : ({ s with toks := s.toks + 1 } : Shared).TypeIs (.ref f) "function" := ⟨_, ho, rfl⟩
  unfold getAttrBy
  refine wpAny_holding (wpAny_bind (wpAny_typeOf hT (wpAny_bind ?_)))
  rw [fn_ga.lookup]
  refine wpAny_pure ?_
  show wpAny _ _ (getAttrByItsOwn _ _ _ _ _ _) _ _ _
  unfold getAttrByItsOwn
  refine wpAny_bind (m := hookBefore _) (wpAny_pure ?_)
  refine wpAny_bind (wpAny_attempt (wpAny_holding ?_))
  unfold callGetattribute
  show wpAny _ _ (if (ex && false) = true then _ else _) _ _ _
  rw [Bool.and_false, if_neg Bool.false_ne_true]
  unfold boundAndCalled
  rw [fn_ga.bind]
  refine wpAny_bind (wpAny_pure ?_)
  refine wpAny_call_entry fn_ga hT entry_ga ?_ (args_ga _ _)
  show wpAny _ _ (Builtin.«object.__getattribute__» ⟨[.ref f, .str name s.toks], []⟩) _ _ _
  rw [ga_eq]
  refine wpAny_bind (wpAny_typeOf hT (wpAny_bind ?_))
  unfold find
  rw [hl]
  refine wpAny_bind (wpAny_pure (wpAny_bind (m := getOf none) (wpAny_pure (wpAny_bind (m := dataDescriptor? none none) (wpAny_pure ?_)))))
  unfold ownThenClass
  refine wpAny_bind ?_
  unfold inOwnDict ObjectAttr.ownDict
  refine wpAny_bind (wpAny_bind (wpAny_loadPart ho ?_))
  dsimp only
  unfold instanceDict
  refine wpAny_bind (wpAny_loadPart ho ?_)
  dsimp only
  refine wpAny_pure ?_
  unfold inDict
  refine wpAny_nsGet hd ?_
  rw [hv]
  refine wpAny_bind (wpAny_rule (wpAny_pure ?_))
  refine wpAny_pure ⟨_, rfl, ?_⟩
  exact wpAny_pure (h _)

theorem fn_getMethod {s : Shared} {f d : Addr} {fd : FuncData} {name : Str} {fa : Addr} {mm : Str → Option Value} {pl : Sem Bool} {Q : Value × List Value → Shared → Prop} (ho : s.heap.get? f = some { cls := .type "function", dict := some d, data := .func fd }) (hd : s.heap.Ns d mm)
    (hv : mm name = some (.ref fa)) (hl : typeLookup (.type "function") name = pure none) (h : ∀ t, Q (.ref fa, []) { s with toks := t }) : wpAny (model prog w) A (getMethod (.ref f) name pl) Q E s := by
  have hT : s.TypeIs (.ref f) "function" := ⟨_, ho, rfl⟩
  unfold getMethod
  refine wpAny_bind (wpAny_specialOf hT fn_ga.lookup ?_)
  show wpAny _ _ (if (Manifest.canonical "object.__getattribute__" != "object.__getattribute__") = true then _ else _) Q E s
  rw [PySem.F.canon_object_ga, if_neg Bool.false_ne_true]
  refine wpAny_bind (wpAny_specialOf hT fn_getattr ?_)
  refine wpAny_bind (wpAny_specialOf hT hl ?_)
  exact wpAny_bind (fn_getattr' ho hd hv hl fun t => wpAny_pure (h t))

/-- the truth of a function object -/
theorem fn_truthy {s : Shared} {f : Addr} {o : Obj} {Q : Bool → Shared → Prop} (ho : s.heap.get? f = some o) (hc : o.cls = .type "function") (h : Q true s) : wpAny (model prog w) A (truthy (.ref f)) Q E s := by
  have hT : s.TypeIs (.ref f) "function" := ⟨_, ho, hc⟩
  unfold truthy
  refine wpAny_bind (wpAny_callSpecial?_none hT fn_bool ?_)
  refine wpAny_bind (wpAny_specialOf hT fn_len ?_)
  exact wpAny_pure h
end
end Mine

end

section
open PySem PySem.W PySem.Calls PyProof.Rows
open PySem PySem.W PySem.Calls PyProof.Rows
namespace Mine
variable [Base]
set_option maxRecDepth 100000

section
variable {prog : Program} {w : World} {A : Around} {E : Value → Shared → Prop} {hp : Heap} {g : Array GenState} {dr : Drawn} {tk : Nat} {os : OsState} {h₀ : Heap} {L a : Addr} {m : Str → Option Value} {U T : List (Addr × Obj)} {C : List Addr} {q : Str} {sc : Scope} {cd : Value} {cl : List (Str × Addr)}

theorem tupG {vs : List Value} {Q : Value → Shared → Prop} (F : Fn h₀ L m U T C hp) (h : ∀ b h', hp.get? b = none → Keep hp h' → h'.get? b = some (kdv_tup vs) → Fn h₀ L m U ((b, kdv_tup vs) :: T) C h' → Q (.ref b) ⟨h', g, dr, tk, os⟩) (hsz : vs.length ≤ sizeLine := by size_fits) :
    wpAny (model prog w) A (newTuple vs) Q E ⟨hp, g, dr, tk, os⟩ :=
  wpAny_newObj_type (s := ⟨hp, g, dr, tk, os⟩) (h _ _ (get_size _) (.push _ _) (Heap.get?_push_size _ rfl) (F.pushT _ rfl (NF.nt nofun))) (by show vs.toArray.size ≤ sizeLine; rw [List.size_toArray]; exact hsz)
theorem listG {vs : List Value} {Q : Value → Shared → Prop} (F : Fn h₀ L m U T C hp) (h : ∀ b h', hp.get? b = none → Fn h₀ L m ((b, listOf vs.toArray 0) :: U) T C h' → Q (.ref b) ⟨h', g, dr, tk, os⟩) (hsz : vs.length ≤ sizeLine := by size_fits) :
    wpAny (model prog w) A (newList vs) Q E ⟨hp, g, dr, tk, os⟩ :=
  wpAny_newObj_type (s := ⟨hp, g, dr, tk, os⟩) (h _ _ (get_size _) (F.pushU _ rfl nofun)) (by show vs.toArray.size ≤ sizeLine; rw [List.size_toArray]; exact hsz)
/-- xs.append(v), xs the first object that may change -/
theorem appendG {l : Addr} {vs : List Value} {n : Nat} {v : Value} {Q : Value → Shared → Prop} (F : Fn h₀ L m ((l, listOf vs.toArray n) :: U) T C hp)
    (h : ∀ h', Fn h₀ L m ((l, listOf (vs ++ [v]).toArray (n + 1)) :: U) T C h' → Q .none ⟨h', g, dr, tk, os⟩) (hsz : vs.length ≤ sizeLine) :
    wpAny (model prog w) A (call (.builtin "list.append") [.ref l, v]) Q E ⟨hp, g, dr, tk, os⟩ :=
  append_at (s := ⟨hp, g, dr, tk, os⟩) (F.getU (.head _)) (fun h' hs ho => by
    refine h h' (F.upd hs ?_ nofun)
    rw [ho]; simp) (by rw [List.size_toArray]; exact hsz)
theorem appendM {l : Addr} {o : Obj} {pl : Sem Bool} {Q : Value × List Value → Shared → Prop} {s : Shared} (ho : s.heap.get? l = some o) (hc : o.cls = .type "list") (hd : o.dict = none) (h : Q (.builtin "list.append", [.ref l]) s) :
    wpAny (model prog w) A (getMethod (.ref l) "append" pl) Q E s := Calls.getMethod_list_append ho hc hd h

/-- x, y = t, t a tuple of two -/
theorem unpack2 {x y : Str} {p1 p2 pos : Pos} {k : Nat} {t : Addr} {v1 v2 : Value} {Q : Unit → Shared → Prop} (F : Fn h₀ L m U T C hp) (hh : A.handled = none) (ht : (t, kdv_tup [v1, v2]) ∈ T)
    (h : ∀ h' t', Fn h₀ L (fun z => if z = y then some v2 else if z = x then some v1 else m z) U T C h' → Q () ⟨h', g, dr, t', os⟩)
    (hk : sc.kind = .function := by rfl) (hx : (envX q sc L a cd cl).kindOf x = some .local := by rfl) (hy : (envX q sc L a cd cl).kindOf y = some .local := by rfl) :
    wpAny (model prog w) A (assign (.Tuple [.Name x p1, .Name y p2] k pos) (envX q sc L a cd cl) (.ref t)) Q E ⟨hp, g, dr, tk, os⟩ := by
  refine assign_Tuple_tuple (items := #[v1, v2]) hh ⟨_, F.get ht, rfl, 0, rfl⟩ rfl rfl fun h' hx' => ?_
  have F' := F.kept (Keep.ext fun b o e => hx' b o (Nat.ne_of_lt (Heap.lt_size e)) e)
  show wpAny _ _ (do holding [v2] (assign (.Name x p1) (envX q sc L a cd cl) v1); do holding [] (assign (.Name y p2) (envX q sc L a cd cl) v2); pure ()) _ _ _
  refine wpAny_bind (wpAny_holding (wpAny_assign_Name (stL F' (fun h₂ t₂ F₂ => ?_) hk hx)))
  refine wpAny_bind (wpAny_holding (wpAny_assign_Name (stL F₂ (fun h₃ t₃ F₃ => ?_) hk hy)))
  exact wpAny_pure (h h₃ t₃ F₃)
end

/-! ### match objects and programs of the law's making -/
/-- every object and code of T and C is there -/
structure Has (T : List (Addr × Obj)) (C : List Addr) (h : Heap) : Prop where
  obj : ∀ p ∈ T, h.get? p.1 = some p.2
  code : ∀ c ∈ C, CodeG h c
theorem Fn.has {h₀ h : Heap} {L : Addr} {m : Str → Option Value} {U T : List (Addr × Obj)} {C : List Addr} (F : Fn h₀ L m U T C h) : Has T C h := ⟨fun p hp => (F.know p hp).1, F.codes⟩

/-- what a call of m.span() gives -/
def SpanPost (i j : Int) (h : Heap) (v : Value) (h' : Heap) : Prop := ∃ a t u, v = .ref a ∧ h.get? a = none ∧ h'.get? a = some (kdv_tup [.int i t, .int j u])

/-- at f stands a match object of the span (i, j) -/
structure Hit (prog : Program) (w : World) (f : Addr) (i j : Int) (T : List (Addr × Obj)) (C : List Addr) : Prop where
  obj : ∃ d fd od mm g fg, (f, ({ cls := .type "function", dict := some d, data := .func fd } : Obj)) ∈ T ∧ (d, od) ∈ T ∧ DictIs od mm ∧ mm "span" = some (.ref g) ∧ (g, ({ cls := .type "function", data := .func fg } : Obj)) ∈ T ∧
    ∀ h, Has T C h → h.NoLimit → Mine.Calls prog w 2 (.ref g) ⟨[], []⟩ h (SpanPost i j h)
theorem Hit.mono {prog : Program} {w : World} {f : Addr} {i j : Int} {T T' : List (Addr × Obj)} {C C' : List Addr} (x : Hit prog w f i j T C) (hT : ∀ p ∈ T, p ∈ T') (hC : ∀ c ∈ C, c ∈ C') : Hit prog w f i j T' C' :=
  by
    obtain ⟨d, fd, od, mm, g, fg, a, b, c, e, k, l⟩ := x.obj
    exact ⟨d, fd, od, mm, g, fg, hT _ a, hT _ b, c, e, hT _ k, fun h H => l h ⟨fun p hp => H.obj p (hT p hp), fun c hc => H.code c (hC c hc)⟩⟩

/-- what a search gives: None or a match object -/
def SearchPost (prog : Program) (w : World) (r : Option (Int × Int)) (h : Heap) (v : Value) (h' : Heap) : Prop := match r with
  | none => v = .none
  | some (i, j) => ∃ f N Cs, v = .ref f ∧ New h h' N ∧ (∀ c ∈ Cs, CodeG h' c) ∧ Hit prog w f i j N Cs

/-- at p stands an object whose search answers by S on the text x, under the facts G of the heap -/
structure Prog (prog : Program) (w : World) (G : Heap → Prop) (d : Nat) (x : Value) (S : Int → Option (Int × Int)) (p : Addr) (T : List (Addr × Obj)) (C : List Addr) : Prop where
  obj : ∃ dd fd od mm g fg, (p, ({ cls := .type "function", dict := some dd, data := .func fd } : Obj)) ∈ T ∧ (dd, od) ∈ T ∧ DictIs od mm ∧ mm "search" = some (.ref g) ∧ (g, ({ cls := .type "function", data := .func fg } : Obj)) ∈ T ∧
    (∀ h, Has T C h → G h → Mine.Calls prog w d (.ref g) ⟨[x], []⟩ h (SearchPost prog w (S 0) h)) ∧
    ∀ k t h, 0 ≤ k → Has T C h → G h → Mine.Calls prog w d (.ref g) ⟨[x, .int k t], []⟩ h (SearchPost prog w (S k) h)

/-- the loop of search_reverse -/
def nextAt (i j : Int) : Int := if i = j then j + 1 else j
inductive SR (S : Int → Option (Int × Int)) (col : Int) : Nat → Int → Int → Option (Int × Int) → Option (Int × Int) → Prop
  | stop {n i j found} : ¬ (i < col ∧ j ≤ col) → SR S col n i j found found
  | last {n i j found} : i < col → j ≤ col → S (nextAt i j) = none → SR S col n i j found (some (i, j))
  | step {n i j i' j' found res} : i < col → j ≤ col → S (nextAt i j) = some (i', j') → SR S col n i' j' (some (i, j)) res → SR S col (n + 1) i j found res

section
variable {prog : Program} {w : World} {A : Around} {E : Value → Shared → Prop} {hp : Heap} {g : Array GenState} {dr : Drawn} {tk : Nat} {os : OsState} {h₀ : Heap} {L : Addr} {m : Str → Option Value} {U T : List (Addr × Obj)} {C : List Addr} {env : Env}
theorem getM {f d : Addr} {fd : FuncData} {name : Str} {fa : Addr} {mm : Str → Option Value} {od : Obj} {pl : Sem Bool} {Q : Value × List Value → Shared → Prop} (ho : hp.get? f = some { cls := .type "function", dict := some d, data := .func fd }) (hd : hp.get? d = some od) (hm : DictIs od mm)
    (hv : mm name = some (.ref fa)) (hl : typeLookup (.type "function") name = pure none) (h : ∀ t, Q (.ref fa, []) ⟨hp, g, dr, t, os⟩) : wpAny (model prog w) A (getMethod (.ref f) name pl) Q E ⟨hp, g, dr, tk, os⟩ :=
  fn_getMethod (s := ⟨hp, g, dr, tk, os⟩) ho (hm.ns hd) hv hl h
/-- f.span(), f evaluated -/
theorem spanG {f : Addr} {i j : Int} {pl : Sem Bool} {pos : Pos} {Q : Value → Shared → Prop} (F : Fn h₀ L m U T C hp) (lim : h₀.NoLimit) (hr : Room A 2) (H : Hit prog w f i j T C)
    (h : ∀ a t u h' t', hp.get? a = none → Fn h₀ L m U ((a, kdv_tup [.int i t, .int j u]) :: T) C h' → Q (.ref a) ⟨h', g, dr, t', os⟩) :
    wpAny (model prog w) A (getMethod (.ref f) "span" pl) (fun fx s₂ => wpAny (model prog w) A (callWith pos fx.1 fx.2 (backTo pos (starEach [] env)) []) Q E s₂) E ⟨hp, g, dr, tk, os⟩ := by
  obtain ⟨d, fd, od, mm, gg, fg, a1, a2, a3, a4, a5, a6⟩ := H.obj
  refine getM (F.get a1) (F.get a2) a3 a4 fn_span fun t => ?_
  refine callWith_meth0 (o := { cls := .type "function", data := .func fg }) rfl (F.get a5) ?_
  refine callG (a6 hp F.has (F.keep.lim lim)) hr fun v h' t' k P => ?_
  obtain ⟨b, t1, u1, rfl, e1, e2⟩ := P
  exact h b t1 u1 h' t' e1 (F.learn (N := [(b, _)]) k fun p hp => by rw [List.mem_singleton.mp hp]; exact ⟨e2, NF.nt nofun, e1⟩)
end
end Mine

end

section
open PySem PySem.W PySem.Calls PyProof.Rows
open PySem PySem.W PySem.Calls PyProof.Rows
namespace Mine
variable [Base]
set_option maxRecDepth 100000
section
variable {prog : Program} {w : World} {A : Around} {E : Value → Shared → Prop} {hp : Heap} {g : Array GenState} {dr : Drawn} {tk : Nat} {os : OsState} {h₀ : Heap} {L : Addr} {m : Str → Option Value} {U T : List (Addr × Obj)} {C : List Addr} {Q : Value → Shared → Prop} {a b : Int} {t u : Tok}
theorem rng2 (F : Fn h₀ L m U T C hp) (h : ∀ R t u v h' t', IsRange h' R a b 1 t u v → Fn h₀ L m U T C h' → Q (.ref R) ⟨h', g, dr, t', os⟩) : wpAny (model prog w) A (call (.type "range") [.int a t, .int b u]) Q E ⟨hp, g, dr, tk, os⟩ :=
  call_range_2 (s := ⟨hp, g, dr, tk, os⟩) (h _ _ _ _ _ _ (IsRange.new ..) (F.push _))
theorem rng1 (F : Fn h₀ L m U T C hp) (h : ∀ R t u v h' t', IsRange h' R 0 b 1 t u v → Fn h₀ L m U T C h' → Q (.ref R) ⟨h', g, dr, t', os⟩) : wpAny (model prog w) A (call (.type "range") [.int b u]) Q E ⟨hp, g, dr, tk, os⟩ :=
  call_range_1 (s := ⟨hp, g, dr, tk, os⟩) (h _ _ _ _ _ _ (IsRange.new ..) (F.push _))
end
theorem getD_left {l m : List Int} {i : Nat} (h : i < l.length) : (l ++ m).getD i 0 = l.getD i 0 := by simp [List.getD, List.getElem?_append_left h]
theorem getD_last {l : List Int} {x : Int} {i : Nat} (h : i = l.length) : (l ++ [x]).getD i 0 = x := by subst h; simp [List.getD]
theorem IntsAre.snoc {vs : List Value} {xs : List Int} {x : Int} {t : Tok} (h : IntsAre vs xs) : IntsAre (vs ++ [.int x t]) (xs ++ [x]) := IntsAre.append h (.cons _ _ .nil)
end Mine

end

section
open PySem PySem.W PySem.Calls PyProof.Rows
open PySem PySem.W PySem.Calls PyProof.Rows
namespace Mine
variable [Base]
set_option maxRecDepth 100000

theorem pick_upto (vs : List Value) {y : Int} (h : 0 ≤ y) : slicePick vs.toArray none (some y) none = (vs.take y.toNat).toArray := by
  have e : sliceBounds none (some y) none vs.toArray.size = (((0 : Nat) : Int), ((min y.toNat vs.toArray.size : Nat) : Int), 1) := by
    simp only [sliceBounds, Option.getD_none, show (1 : Int) > 0 by decide, if_true, if_neg (show ¬ (y < 0) by omega)]
    congr 1
    congr 1
    omega
  rw [kmk_pick_nat _ e]
  show ((vs.drop 0).take (min y.toNat vs.toArray.size - 0)).toArray = _
  rw [List.drop_zero, Nat.sub_zero, List.size_toArray, kmk_take_min]

section
variable {prog : Program} {w : World} {A : Around} {E : Value → Shared → Prop} {hp : Heap} {g : Array GenState} {dr : Drawn} {tk : Nat} {os : OsState} {h₀ : Heap} {L : Addr} {m : Str → Option Value} {U T : List (Addr × Obj)} {C : List Addr} {Q : Value → Shared → Prop}
/-- a new slice object -/
theorem newSliceG {vl vu vs : Value} (F : Fn h₀ L m U T C hp) (h : ∀ sl h', hp.get? sl = none → Fn h₀ L m U ((sl, { cls := .type "slice", data := .fields #[vl, vu, vs] }) :: T) C h' → Q (.ref sl) ⟨h', g, dr, tk, os⟩) :
    wpAny (model prog w) A (newFields "slice" [vl, vu, vs]) Q E ⟨hp, g, dr, tk, os⟩ :=
  wpAny_newObj_type (s := ⟨hp, g, dr, tk, os⟩) (h _ _ (get_size _) (F.pushT _ rfl (fun ps e => by cases e))) (by size_fits)
theorem sliceG {value slice : Expr} {l sl : Addr} {vs : List Value} {n : Nat} {vl vu vst : Value} {lo hi st : Option Int} (F : Fn h₀ L m U ((sl, { cls := .type "slice", data := .fields #[vl, vu, vst] }) :: T) C hp) (ho : hp.get? l = some (listOf vs.toArray n)) (pl : IsPart vl lo) (pu : IsPart vu hi) (ps : IsPart vst st) (h0 : st ≠ some 0)
    (h : ∀ b h', hp.get? b = none → Fn h₀ L m U ((b, listOf (slicePick vs.toArray lo hi st) 0) :: T) C h' → Q (.ref b) ⟨h', g, dr, tk, os⟩) (hz : vs.length ≤ sizeLine)
    (hs : subscripted slice false (.ref l) (.ref sl) = operate [.ref sl, .ref l] (getItem (.ref l) (.ref sl)) := by with_unfolding_all rfl)
    (ht : ∀ r, letTemporaryGo value (.ref l) r = pure () := by intro _; with_unfolding_all rfl) :
    wpAny (model prog w) A (subscriptTail value slice (.ref l) (.ref sl)) Q E ⟨hp, g, dr, tk, os⟩ := by
  have hl : hp.IsList l vs.toArray := ⟨_, ho, rfl, n, rfl⟩
  refine subscriptTail_ops (Heap.IsList.typeIs (s := ⟨hp, g, dr, tk, os⟩) hl) list_getitem_lookup (wpAny_getItem_list_slice hl ⟨_, F.get (.head _), rfl, rfl⟩ pl pu ps h0 ?_ (by rw [List.size_toArray]; exact hz)) hs ht
  have F' := F.sub (T' := T) fun p hp => .tail _ hp
  exact h _ _ (get_size _) (F'.pushT _ rfl (NF.nt nofun))
theorem SliceG_ {M : Model} {s : Shared} {env : Env} {lower upper step : Option Expr} {p : Pos}
    (h : wpAny M A (evalPart lower env) (fun l s₁ => wpAny M A (evalPart upper env) (fun u s₂ => wpAny M A (evalPart step env) (fun st s₃ => wpAny M A (newFields "slice" [l, u, st]) Q E s₃) E s₂) E s₁) E s) :
    wpAny M A (eval (.Slice lower upper step p) env) Q E s := by
  rw [arm_eval_Slice]
  exact wpAny_bind (wpAny_mono h (fun l s₁ h₁ => wpAny_bind (wpAny_holding (wpAny_mono h₁ (fun u s₂ h₂ => wpAny_bind (wpAny_holding (wpAny_mono h₂ (fun st s₃ h₃ => h₃) fun _ _ x => x))) fun _ _ x => x))) fun _ _ x => x)
theorem evN {M : Model} {s : Shared} {env : Env} (h : Q .none s) : wpAny M A (evalPart none env) Q E s := wpAny_pure h
theorem evS {M : Model} {s : Shared} {env : Env} {e : Expr} (h : wpAny M A (eval e env) Q E s) : wpAny M A (evalPart (some e) env) Q E s := h

/-- a lambda, its object known from now on -/
theorem lambdaT {params : Arguments} {e : Expr} {scope : Scope} {pos : Pos} {env : Env} {c : Addr} {mg mb : Str → Option Value} {clos : List (Str × Addr)} (F : Fn h₀ L m U T C hp) (G : Gl mg mb h₀) (hcode : env.code = .ref c) (hC : c ∈ C)
    (hdef : defaultsOf params env = ([], [])) (hcl : closureFor scope env = pure clos) (hge0 : env.globals = mainGlobals)
    (h : ∀ f c' ctv doc pm h' t', hp.get? f = none → Keep hp h' → Fn h₀ L m U ((f, kdv_obj "<lambda>" (env.qual ++ "<lambda>") params (.expr e) scope clos .none doc pm c' ctv) :: T) (c' :: C) h' → Q (.ref f) ⟨h', g, dr, t', os⟩) :
    wpAny (model prog w) A (eval (.Lambda params e scope pos) env) Q E ⟨hp, g, dr, tk, os⟩ := by
  refine lambda_G (s := ⟨hp, g, dr, tk, os⟩) hdef hcl hge0 (G.kept F.keep) hcode (F.codes c hC) fun f c' ctv doc h' t' k hf hf' hc' => ?_
  exact h f c' ctv doc _ h' t' hf k ((F.learn (N := [(f, _)]) k fun p hp => by rw [List.mem_singleton.mp hp]; exact ⟨hf', NF.nt nofun, hf⟩).learnC hc')
/-- a lambda, its object may change -/
theorem lambdaU {params : Arguments} {e : Expr} {scope : Scope} {pos : Pos} {env : Env} {c : Addr} {mg mb : Str → Option Value} {clos : List (Str × Addr)} (F : Fn h₀ L m U T C hp) (G : Gl mg mb h₀) (hcode : env.code = .ref c) (hC : c ∈ C)
    (hdef : defaultsOf params env = ([], [])) (hcl : closureFor scope env = pure clos) (hge0 : env.globals = mainGlobals)
    (h : ∀ f c' ctv doc pm h' t', hp.get? f = none → Keep hp h' → Fn h₀ L m ((f, kdv_obj "<lambda>" (env.qual ++ "<lambda>") params (.expr e) scope clos .none doc pm c' ctv) :: U) T (c' :: C) h' → Q (.ref f) ⟨h', g, dr, t', os⟩) :
    wpAny (model prog w) A (eval (.Lambda params e scope pos) env) Q E ⟨hp, g, dr, tk, os⟩ := by
  refine lambda_G (s := ⟨hp, g, dr, tk, os⟩) hdef hcl hge0 (G.kept F.keep) hcode (F.codes c hC) fun f c' ctv doc h' t' k hf hf' hc' => ?_
  exact h f c' ctv doc _ h' t' hf k ((F.learnU k hf' nofun hf).learnC hc')
end
end Mine

end

section
open PySem PySem.W PySem.Calls PyProof.Rows
open PySem PySem.W PySem.Calls PyProof.Rows
namespace Mine
variable [Base]
set_option maxRecDepth 100000
section
variable {prog : Program} {w : World} {A : Around} {E : Value → Shared → Prop} {hp : Heap} {g : Array GenState} {dr : Drawn} {tk : Nat} {os : OsState} {h₀ : Heap} {L : Addr} {m : Str → Option Value} {U T : List (Addr × Obj)} {C : List Addr}
theorem lenS {x : Str} {t : Tok} {Q : Value → Shared → Prop} (hb : x.length < 2 ^ 62) (h : ∀ t u, Q (.int x.length t) ⟨hp, g, dr, u, os⟩) :
    wpAny (model prog w) A (call (.builtin "len") [.str x t]) Q E ⟨hp, g, dr, tk, os⟩ := len_str (s := ⟨hp, g, dr, tk, os⟩) (by omega) (h _ _)
/-- a nested def with one default, an int -/
theorem defT {name : Str} {args : List Arg} {i : Int} {k : Nat} {p pos : Pos} {b : List Stmt} {scope : Scope} {env : Env} {c : Addr} {mg mb : Str → Option Value} {clos : List (Str × Addr)} {Q : Flow → Shared → Prop} (F : Fn h₀ L m U T C hp) (G : Gl mg mb h₀) (hcode : env.code = .ref c) (hC : c ∈ C)
    (ha : annTrees ⟨[], args, none, [], [], none, [.Constant (.int i) k p]⟩ none env = []) (hcl : closureFor scope env = pure clos) (hge0 : env.globals = mainGlobals)
    (h : ∀ f d c' ctv doc pm td h' t', hp.get? f = none → hp.get? d = none → Keep hp h' → Fn h₀ L m U ((f, kdv_obj name (qualnameIn env name name) ⟨[], args, none, [], [], none, [.Constant (.int i) k p]⟩ (.stmts b) scope clos (.ref d) doc pm c' ctv) :: (d, kdv_tup [.int i td]) :: T) (c' :: C) h' →
      wpAny (model prog w) A (storeName env name (.ref f)) (fun _ s'' => Q .next s'') E ⟨h', g, dr, t', os⟩) :
    wpAny (model prog w) A (exec (.FunctionDef name ⟨[], args, none, [], [], none, [.Constant (.int i) k p]⟩ b [] none [] scope none name pos) env) Q E ⟨hp, g, dr, tk, os⟩ := by
  refine def_G (mg := mg) (mb := mb) rfl ha hcl hge0 rfl ?_
  show wpAny _ _ (evalAll [eval (.Constant (.int i) k p) env]) _ _ _
  refine wpAny_evalAll_cons (cInt fun t u => ?_)
  refine wpAny_evalAll_nil ?_
  refine ⟨rfl, G.kept F.keep, c, hcode, F.codes c hC, fun f d c' ctv doc h' tk k hf hd hd' hf' hc' => ?_⟩
  exact h f d c' ctv doc _ t h' tk hf hd k ((F.learn (N := [(f, _), (d, _)]) k fun p hp => by
    rcases List.mem_cons.mp hp with rfl | hp
    · exact ⟨hf', NF.nt nofun, hf⟩
    · rw [List.mem_singleton.mp hp]; exact ⟨hd', NF.nt nofun, hd⟩).learnC hc')
end
end Mine

end

section
open PySem PySem.W PySem.Calls PyProof.Rows
open PySem PySem.W PySem.Calls PyProof.Rows
namespace Mine
variable [Base]
set_option maxRecDepth 100000
set_option linter.unusedSectionVars false
/-! ### the same steps, their tokens written out: no new names, so less to carry -/
section
variable {prog : Program} {w : World} {A : Around} {E : Value → Shared → Prop} {hp : Heap} {g : Array GenState} {dr : Drawn} {tk : Nat} {os : OsState} {Q : Value → Shared → Prop} {a b : Int} {t u : Tok}
theorem cIntC {M : Model} {i : Int} {k : Nat} {pos : Pos} {env : Env} (h : Q (.int i tk) ⟨hp, g, dr, tk + 1, os⟩) : wpAny M A (eval (.Constant (.int i) k pos) env) Q E ⟨hp, g, dr, tk, os⟩ := wpAny_Constant_int h
theorem cStrC {M : Model} {x : Str} {k : Nat} {pos : Pos} {env : Env} (h : Q (.str x tk) ⟨hp, g, dr, tk + 1, os⟩) : wpAny M A (eval (.Constant (.str x) k pos) env) Q E ⟨hp, g, dr, tk, os⟩ := by
  rw [eval_Constant]; exact wpAny_mkText h
theorem addIC (h : Q (.int (a + b) tk) ⟨hp, g, dr, tk + 1, os⟩) : wpAny (model prog w) A (binaryOp .Add (.int a t) (.int b u)) Q E ⟨hp, g, dr, tk, os⟩ := PyProof.Rows.add_int h
theorem subIC (h : Q (.int (a - b) tk) ⟨hp, g, dr, tk + 1, os⟩) : wpAny (model prog w) A (binaryOp .Sub (.int a t) (.int b u)) Q E ⟨hp, g, dr, tk, os⟩ := PyProof.Rows.sub_int h
theorem fdivIC (hb : b ≠ 0) (hs : b.natAbs < 1073741824) (h : Q (.int (a.fdiv b) tk) ⟨hp, g, dr, tk + 1, os⟩) : wpAny (model prog w) A (binaryOp .FloorDiv (.int a t) (.int b u)) Q E ⟨hp, g, dr, tk, os⟩ := PyProof.Rows.floordiv_int hb h (.inl (PyProof.noPylong_small hs))
theorem modIC (hb : b ≠ 0) (h : Q (.int (a.fmod b) tk) ⟨hp, g, dr, tk + 1, os⟩) : wpAny (model prog w) A (binaryOp .Mod (.int a t) (.int b u)) Q E ⟨hp, g, dr, tk, os⟩ := PyProof.Rows.mod_int hb h
theorem negIC (h : Q (.int (-a) tk) ⟨hp, g, dr, tk + 1, os⟩) : wpAny (model prog w) A (unaryOp .USub (.int a t)) Q E ⟨hp, g, dr, tk, os⟩ := PyProof.Rows.neg_int h
theorem iaddIC (h : Q (.int (a + b) tk) ⟨hp, g, dr, tk + 1, os⟩) : wpAny (model prog w) A (inplaceOp .Add (.int a t) (.int b u)) Q E ⟨hp, g, dr, tk, os⟩ := PyProof.Rows.iadd_int h
theorem lenLC {l : Addr} {vs : List Value} {n : Nat} (ho : hp.get? l = some (listOf vs.toArray n)) (hb : vs.length < 2 ^ 62) (h : Q (.int vs.length (tk + 1)) ⟨hp, g, dr, tk + 1 + 1, os⟩) :
    wpAny (model prog w) A (call (.builtin "len") [.ref l]) Q E ⟨hp, g, dr, tk, os⟩ := by
  have hl : hp.IsList l vs.toArray := ⟨_, ho, rfl, n, rfl⟩
  exact PyProof.Rows.len_list (s := ⟨hp, g, dr, tk, os⟩) hl (by simp only [List.size_toArray]; omega) (by simpa using h)
end
end Mine

end

section
open PySem PySem.W PySem.Calls PyProof.Rows
namespace Mine
abbrev pw2 : PySem.Program := PySem.Challenge.pw_pg0091_02
end Mine

end

section
open PySem PySem.W PySem.Calls PyProof.Rows
namespace Mine
/-! ### full stretches (Ruzzo and Tompa), plain -/
def Full (s : Nat → Int) (a b : Nat) : Prop := a < b ∧ (∀ c, a < c → c ≤ b → s a < s c) ∧ ∀ c, a ≤ c → c < b → s c < s b
theorem Full.one {s : Nat → Int} {a : Nat} (h : s a < s (a + 1)) : Full s a (a + 1) :=
  ⟨Nat.lt_succ_self _, fun c h1 h2 => by have : c = a + 1 := by omega
                                         subst this; exact h, fun c h1 h2 => by have : c = a := by omega
                                                                                subst this; exact h⟩
theorem Full.le1 {s : Nat → Int} {a b c : Nat} (x : Full s a b) (h1 : a ≤ c) (h2 : c ≤ b) : s a ≤ s c := by
  by_cases e : a = c
  · subst e; exact Int.le_refl _
  · exact Int.le_of_lt (x.2.1 c (by omega) h2)
theorem Full.le2 {s : Nat → Int} {a b c : Nat} (x : Full s a b) (h1 : a ≤ c) (h2 : c ≤ b) : s c ≤ s b := by
  by_cases e : c = b
  · subst e; exact Int.le_refl _
  · exact Int.le_of_lt (x.2.2 c h1 (by omega))
theorem Full.union {s : Nat → Int} {a b c d : Nat} (x : Full s a b) (y : Full s c d) (h1 : a ≤ c) (h2 : c ≤ b) (h3 : b ≤ d) : Full s a d := by
  refine ⟨by have := x.1; omega, fun z hz1 hz2 => ?_, fun z hz1 hz2 => ?_⟩
  · by_cases e : z ≤ b
    · exact x.2.1 z hz1 e
    · exact Int.lt_of_le_of_lt (x.le1 h1 h2) (y.2.1 z (by omega) hz2)
  · by_cases e : c ≤ z
    · exact y.2.2 z e hz2
    · exact Int.lt_of_lt_of_le (x.2.2 z hz1 (by omega)) (y.le2 h2 h3)

abbrev lo (K : List (Nat × Nat)) (p : Nat) : Nat := (K.getD p (0, 0)).1
abbrev hi (K : List (Nat × Nat)) (p : Nat) : Nat := (K.getD p (0, 0)).2
structure MaxF (s : Nat → Int) (k : Nat) (K : List (Nat × Nat)) : Prop where
  full : ∀ p, p < K.length → Full s (lo K p) (hi K p)
  le : ∀ p, p < K.length → hi K p ≤ k
  gap : ∀ p q, p < q → q < K.length → hi K p < lo K q
  all : ∀ a b, Full s a b → b ≤ k → ∃ p, p < K.length ∧ lo K p ≤ a ∧ b ≤ hi K p

section
variable {s : Nat → Int} {k : Nat} {K : List (Nat × Nat)}
theorem MaxF.start (s : Nat → Int) : MaxF s 0 [] := ⟨fun p h => by simp at h, fun p h => by simp at h, fun p q _ h => by simp at h, fun a b x h => by have := x.1; omega⟩
theorem MaxF.skip (M : MaxF s k K) (h : s (k + 1) ≤ s k) : MaxF s (k + 1) K :=
  ⟨M.full, fun p hp => Nat.le_succ_of_le (M.le p hp), M.gap, fun a b x hb => by
    by_cases e : b = k + 1
    · subst e
      have := x.2.2 k (by have := x.1; omega) (by omega)
      omega
    · exact M.all a b x (by omega)⟩
theorem MaxF.len (M : MaxF s k K) : ∀ p, p < K.length → p < hi K p
  | 0, h => by have := (M.full 0 h).1; omega
  | p + 1, h => by
    have h1 := M.len p (by omega)
    have h2 := M.gap p (p + 1) (by omega) h
    have h3 := (M.full (p + 1) h).1
    omega
theorem MaxF.small (M : MaxF s k K) : K.length ≤ k := by
  by_cases e : K.length = 0
  · omega
  · have h1 := M.len (K.length - 1) (by omega)
    have h2 := M.le (K.length - 1) (by omega)
    omega
/-- the place at which the stretch that is growing stands -/
structure Grow (s : Nat → Int) (k : Nat) (K : List (Nat × Nat)) (first col : Nat) : Prop where
  full : Full s first (k + 1)
  cle : col ≤ K.length
  right : ∀ p, col ≤ p → p < K.length → first ≤ lo K p
  left : ∀ p, p < col → hi K p ≤ first
theorem Grow.start (M : MaxF s k K) (h : s k < s (k + 1)) : Grow s k K k K.length := ⟨.one h, Nat.le_refl _, fun p h1 h2 => by omega, fun p h => M.le p h⟩

/-- the two that are next to each other: which one it is -/
theorem MaxF.after (M : MaxF s k K) {p q x : Nat} (hp : p < K.length) (h1 : hi K p < x) (h2 : x ≤ hi K q) (hq : q < K.length) : p < q := by
  by_cases e : p < q
  · exact e
  · exfalso
    by_cases e' : q = p
    · subst e'; omega
    · have := M.gap q p (by omega) hp
      have := (M.full p hp).1
      omega

theorem Grow.above (M : MaxF s k K) {first col p0 : Nat} (G : Grow s k K first col) (hp : p0 < col) (hL : s (lo K p0) < s first) (hmax : ∀ q, p0 < q → q < col → s first ≤ s (lo K q)) :
    ∀ j, hi K p0 < first - j → s (lo K p0) < s (first - j)
  | 0, _ => hL
  | j + 1, h => by
    have ih := G.above M hp hL hmax j (by omega)
    have hf := G.full.1
    have hc := G.cle
    have ex : first - j = (first - (j + 1)) + 1 := by omega
    rw [ex] at ih
    generalize hx : first - (j + 1) = x at *
    by_cases e : s (x + 1) ≤ s x
    · omega
    · obtain ⟨q, hq, hq1, hq2⟩ := M.all x (x + 1) (.one (by omega)) (by omega)
      have hqc : q < col := by
        by_cases e : q < col
        · exact e
        · have := G.right q (by omega) hq; omega
      have hpq := M.after (by omega : p0 < K.length) (by omega : hi K p0 < x + 1) hq2 hq
      have h1 := hmax q hpq hqc
      have h2 := (M.full q hq).le1 hq1 (by omega)
      omega

theorem Grow.merge (M : MaxF s k K) {first col p0 : Nat} (G : Grow s k K first col) (hp : p0 < col) (hL : s (lo K p0) < s first) (hmax : ∀ q, p0 < q → q < col → s first ≤ s (lo K q)) (hR : s (hi K p0) < s (k + 1)) :
    Grow s k K (lo K p0) p0 := by
  have hc := G.cle
  have hp' : p0 < K.length := by omega
  have hf := G.full.1
  have f0 := M.full p0 hp'
  have hl := G.left p0 hp
  have ab : ∀ c, lo K p0 < c → c ≤ k + 1 → s (lo K p0) < s c := fun c h1 h2 => by
    by_cases e1 : c ≤ hi K p0
    · exact f0.2.1 c h1 e1
    · by_cases e2 : c ≤ first
      · have := G.above M hp hL hmax (first - c) (by omega)
        rwa [show first - (first - c) = c by omega] at this
      · have := G.full.2.1 c (by omega) h2
        omega
  have be : ∀ c, hi K p0 ≤ c → c < first → s c < s (k + 1) := by
    intro c
    induction c using Nat.strongRecOn with
    | ind c ih =>
      intro h1 h2
      by_cases e : s c < s (k + 1)
      · exact e
      · exfalso
        have hne : c ≠ hi K p0 := fun q => by subst q; omega
        have F : Full s (lo K p0) c := by
          refine ⟨by have := f0.1; omega, fun x hx1 hx2 => ab x hx1 (by omega), fun x hx1 hx2 => ?_⟩
          by_cases e1 : x ≤ hi K p0
          · have := f0.le2 hx1 e1; omega
          · have := ih x hx2 (by omega) (by omega); omega
        obtain ⟨q, hq, hq1, hq2⟩ := M.all _ _ F (by omega)
        have hpq := M.after hp' (by omega : hi K p0 < c) hq2 hq
        have h3 := M.gap p0 q hpq hq
        have h4 := f0.1
        omega
  refine ⟨⟨by have := f0.1; omega, ab, fun c h1 h2 => ?_⟩, by omega, fun p h1 h2 => ?_, fun p h1 => ?_⟩
  · by_cases e1 : c ≤ hi K p0
    · have := f0.le2 h1 e1; omega
    · by_cases e2 : c < first
      · exact be c (by omega) e2
      · exact G.full.2.2 c (by omega) h2
  · by_cases e : p = p0
    · subst e; exact Nat.le_refl _
    · have h3 := M.gap p0 p (by omega) h2
      have h4 := f0.1
      omega
  · have := M.gap p p0 h1 hp'
    omega

theorem Grow.least (M : MaxF s k K) {first col : Nat} (G : Grow s k K first col)
    (hst : (∀ p, p < col → s first ≤ s (lo K p)) ∨ ∃ p0, p0 < col ∧ (∀ q, p0 < q → q < col → s first ≤ s (lo K q)) ∧ s (k + 1) ≤ s (hi K p0)) {a : Nat} (F : Full s a (k + 1)) : first ≤ a := by
  by_cases e : first ≤ a
  · exact e
  · exfalso
    have hf := G.full.1
    have hc := G.cle
    obtain ⟨p, hp, hp1, hp2⟩ := M.all a (a + 1) (.one (F.2.1 (a + 1) (by omega) (by omega))) (by omega)
    have hpc : p < col := by
      by_cases e : p < col
      · exact e
      · have := G.right p (by omega) hp; omega
    have h1 := (M.full p hp).le1 hp1 (by omega)
    have h2 := F.2.1 first (by omega) (by omega)
    rcases hst with hst | ⟨p0, hp0, hmax, hR⟩
    · have := hst p hpc; omega
    · have hle : p ≤ p0 := by
        by_cases e : p ≤ p0
        · exact e
        · have := hmax p (by omega) hpc; omega
      have h3 : a < hi K p0 := by
        by_cases e : p = p0
        · subst e; omega
        · have := M.gap p p0 (by omega) (by omega)
          have := (M.full p0 (by omega)).1
          omega
      have h4 := G.left p0 hp0
      have := F.2.2 (hi K p0) (by omega) (by omega)
      omega

theorem getD_takeP {K : List (Nat × Nat)} {col p : Nat} {x : Nat × Nat} (h : p < col) (h' : col ≤ K.length) : (K.take col ++ [x]).getD p (0, 0) = K.getD p (0, 0) := by
  have hp : p < K.length := by omega
  simp [List.getD, List.getElem?_append, h, hp, Nat.min_eq_left h']
theorem getD_lastP {K : List (Nat × Nat)} {col : Nat} {x : Nat × Nat} (h' : col ≤ K.length) : (K.take col ++ [x]).getD col (0, 0) = x := by
  simp [List.getD, List.getElem?_append, Nat.min_eq_left h']

theorem Grow.stop (M : MaxF s k K) {first col : Nat} (G : Grow s k K first col)
    (hst : (∀ p, p < col → s first ≤ s (lo K p)) ∨ ∃ p0, p0 < col ∧ (∀ q, p0 < q → q < col → s first ≤ s (lo K q)) ∧ s (k + 1) ≤ s (hi K p0)) : MaxF s (k + 1) (K.take col ++ [(first, k + 1)]) := by
  have hc := G.cle
  have len : (K.take col ++ [(first, k + 1)]).length = col + 1 := by simp; omega
  have hmin : ∀ {a}, Full s a (k + 1) → first ≤ a := fun F => G.least M hst F
  have hl : ∀ {p}, p < col → (K.take col ++ [(first, k + 1)]).getD p (0, 0) = K.getD p (0, 0) := fun h => getD_takeP h hc
  have hlast : (K.take col ++ [(first, k + 1)]).getD col (0, 0) = (first, k + 1) := getD_lastP hc
  refine ⟨fun p hp => ?_, fun p hp => ?_, fun p q hpq hq => ?_, fun a b F hb => ?_⟩
  · rw [len] at hp
    by_cases e : p = col
    · subst e; unfold lo hi; rw [hlast]; exact G.full
    · unfold lo hi; rw [hl (by omega)]; exact M.full p (by omega)
  · rw [len] at hp
    by_cases e : p = col
    · subst e; unfold hi; rw [hlast]; exact Nat.le_refl _
    · unfold hi; rw [hl (by omega)]; exact Nat.le_succ_of_le (M.le p (by omega))
  · rw [len] at hq
    by_cases e : q = col
    · subst e
      unfold lo hi
      rw [hlast, hl hpq]
      have h1 := G.left p hpq
      have h2 := M.full p (by omega)
      by_cases e : hi K p = first
      · have := hmin (h2.union G.full (by have := h2.1; omega) (by omega) (by have := G.full.1; omega))
        have := h2.1
        omega
      · show hi K p < first; omega
    · unfold lo hi
      rw [hl (by omega), hl (by omega)]
      exact M.gap p q hpq (by omega)
  · rw [len]
    have hin : first ≤ a → ∃ p, p < col + 1 ∧ lo (K.take col ++ [(first, k + 1)]) p ≤ a ∧ b ≤ hi (K.take col ++ [(first, k + 1)]) p := fun h => ⟨col, by omega, by unfold lo; rw [hlast]; exact h, by unfold hi; rw [hlast]; exact hb⟩
    by_cases e : b = k + 1
    · subst e; exact hin (hmin F)
    · obtain ⟨p, hp, hp1, hp2⟩ := M.all a b F (by omega)
      by_cases e : p < col
      · exact ⟨p, by omega, by unfold lo; rw [hl e]; exact hp1, by unfold hi; rw [hl e]; exact hp2⟩
      · have := G.right p (by omega) hp
        exact hin (by omega)
end

/-! ### there is but one such list -/
theorem inc_ext2 : ∀ {l l' : List (Nat × Nat)}, l.Pairwise (fun x y => x.1 < y.1) → l'.Pairwise (fun x y => x.1 < y.1) → (∀ x, x ∈ l ↔ x ∈ l') → l = l'
  | [], [], _, _, _ => rfl
  | [], b :: l', _, _, h => absurd ((h b).mpr List.mem_cons_self) (by simp)
  | a :: l, [], _, _, h => absurd ((h a).mp List.mem_cons_self) (by simp)
  | a :: l, b :: l', p, p', h => by
    have p1 := List.pairwise_cons.mp p
    have p2 := List.pairwise_cons.mp p'
    have e : a = b := by
      have h1 := (h a).mp List.mem_cons_self
      have h2 := (h b).mpr List.mem_cons_self
      rcases List.mem_cons.mp h1 with h1 | h1
      · exact h1
      · rcases List.mem_cons.mp h2 with h2 | h2
        · exact h2.symm
        · have := p1.1 b h2; have := p2.1 a h1; omega
    subst e
    refine congrArg (a :: ·) (inc_ext2 p1.2 p2.2 fun x => ?_)
    constructor
    · intro hx
      rcases List.mem_cons.mp ((h x).mp (List.mem_cons_of_mem _ hx)) with rfl | hx'
      · have := p1.1 x hx; omega
      · exact hx'
    · intro hx
      rcases List.mem_cons.mp ((h x).mpr (List.mem_cons_of_mem _ hx)) with rfl | hx'
      · have := p2.1 x hx; omega
      · exact hx'

/-- the same, by members -/
structure MaxM (s : Nat → Int) (n : Nat) (K : List (Nat × Nat)) : Prop where
  full : ∀ x ∈ K, Full s x.1 x.2 ∧ x.2 ≤ n
  gap : K.Pairwise fun x y => x.2 < y.1
  all : ∀ a b, Full s a b → b ≤ n → ∃ x ∈ K, x.1 ≤ a ∧ b ≤ x.2
theorem getD_mem {K : List (Nat × Nat)} {p : Nat} (h : p < K.length) : K.getD p (0, 0) ∈ K := by
  have : K.getD p (0, 0) = K[p] := by simp [List.getD, h]
  rw [this]; exact List.getElem_mem h
theorem mem_getD {K : List (Nat × Nat)} {x : Nat × Nat} (h : x ∈ K) : ∃ p, p < K.length ∧ K.getD p (0, 0) = x := by
  obtain ⟨p, hp, e⟩ := List.mem_iff_getElem.mp h
  exact ⟨p, hp, by simp [List.getD, hp, e]⟩
theorem MaxF.mem {s : Nat → Int} {n : Nat} {K : List (Nat × Nat)} (M : MaxF s n K) : MaxM s n K where
  full := fun x hx => by obtain ⟨p, hp, rfl⟩ := mem_getD hx; exact ⟨M.full p hp, M.le p hp⟩
  gap := by
    rw [List.pairwise_iff_getElem]
    intro i j hi hj hij
    have := M.gap i j hij hj
    simpa [lo, Mine.hi, List.getD, hi, hj] using this
  all := fun a b F hb => by obtain ⟨p, hp, h1, h2⟩ := M.all a b F hb; exact ⟨_, getD_mem hp, h1, h2⟩
theorem MaxM.same {s : Nat → Int} {n : Nat} {K : List (Nat × Nat)} (M : MaxM s n K) {x y : Nat × Nat} (hx : x ∈ K) (hy : y ∈ K) (h1 : x.1 ≤ y.2) (h2 : y.1 ≤ x.2) : x = y := by
  obtain ⟨i, hi, rfl⟩ := List.mem_iff_getElem.mp hx
  obtain ⟨j, hj, rfl⟩ := List.mem_iff_getElem.mp hy
  have g := List.pairwise_iff_getElem.mp M.gap
  rcases Nat.lt_trichotomy i j with h | h | h
  · have := g i j hi hj h; omega
  · subst h; rfl
  · have := g j i hj hi h; omega
theorem MaxM.sub {s : Nat → Int} {n : Nat} {K K' : List (Nat × Nat)} (M : MaxM s n K) (M' : MaxM s n K') {x : Nat × Nat} (hx : x ∈ K) : x ∈ K' := by
  obtain ⟨hf, hn⟩ := M.full x hx
  obtain ⟨y, hy, h1, h2⟩ := M'.all _ _ hf hn
  obtain ⟨hf', hn'⟩ := M'.full y hy
  obtain ⟨z, hz, h3, h4⟩ := M.all _ _ hf' hn'
  have hlt := hf.1
  have e := M.same hx hz (by omega) (by omega)
  subst e
  have : x = y := Prod.ext (by omega) (by omega)
  subst this; exact hy
theorem MaxM.uniq {s : Nat → Int} {n : Nat} {K K' : List (Nat × Nat)} (M : MaxM s n K) (M' : MaxM s n K') : K = K' := by
  have inc : ∀ {K}, MaxM s n K → K.Pairwise (fun x y => x.1 < y.1) := fun {K} M => by
    rw [List.pairwise_iff_getElem]
    intro i j hi hj hij
    have := (List.pairwise_iff_getElem.mp M.gap) i j hi hj hij
    have := (M.full _ (List.getElem_mem hi)).1.1
    omega
  exact inc_ext2 (inc M) (inc M') fun x => ⟨fun h => M.sub M' h, fun h => M'.sub M h⟩
/-- the row turned round -/
theorem Full.turn {s t : Nat → Int} {n a b : Nat} {c : Int} (e : ∀ j, j ≤ n → t j = c - s (n - j)) (hb : b ≤ n) (F : Full s a b) : Full t (n - b) (n - a) := by
  have h := F.1
  refine ⟨by omega, fun z h1 h2 => ?_, fun z h1 h2 => ?_⟩
  · rw [e _ (by omega), e _ (by omega)]
    have := F.2.2 (n - z) (by omega) (by omega)
    rw [show n - (n - b) = b by omega]
    omega
  · rw [e _ (by omega), e _ (by omega)]
    have := F.2.1 (n - z) (by omega) (by omega)
    rw [show n - (n - a) = a by omega]
    omega
theorem MaxM.turn {s t : Nat → Int} {n : Nat} {c : Int} {K : List (Nat × Nat)} (e : ∀ j, j ≤ n → t j = c - s (n - j)) (M : MaxM t n K) : MaxM s n (K.reverse.map fun x => (n - x.2, n - x.1)) := by
  have e' : ∀ j, j ≤ n → s j = c - t (n - j) := fun j hj => by rw [e _ (by omega), show n - (n - j) = j by omega]; omega
  refine ⟨fun x hx => ?_, ?_, fun a b F hb => ?_⟩
  · obtain ⟨y, hy, rfl⟩ := List.mem_map.mp hx
    obtain ⟨hf, hn⟩ := M.full y (List.mem_reverse.mp hy)
    exact ⟨hf.turn e' hn, by show n - y.1 ≤ n; omega⟩
  · rw [List.pairwise_map, List.pairwise_reverse]
    refine (List.pairwise_iff_getElem.mpr fun i j hi hj hij => ?_)
    have := (List.pairwise_iff_getElem.mp M.gap) i j hi hj hij
    have h1 := M.full _ (List.getElem_mem hi)
    have h2 := M.full _ (List.getElem_mem hj)
    have h3 := h2.1.1
    show n - K[j].1 < n - K[i].2
    omega
  · have h := F.1
    obtain ⟨x, hx, h1, h2⟩ := M.all _ _ (F.turn e hb) (by omega)
    have := M.full x hx
    exact ⟨_, List.mem_map.mpr ⟨x, List.mem_reverse.mpr hx, rfl⟩, by show n - x.2 ≤ a; omega, by show b ≤ n - x.1; omega⟩
end Mine

end

section
open PySem PySem.W PySem.Calls PyProof.Rows
namespace Mine
variable [Base]
set_option maxRecDepth 100000
set_option maxHeartbeats 4000000
set_option linter.unusedSectionVars false
set_option linter.unusedVariables false
set_option linter.unusedSimpArgs false
local macro_rules | `(tactic| walk_at "hv") => `(tactic| first | rfl | assumption)
local macro_rules | `(tactic| walk_at "dec") => `(tactic| first | rfl | assumption | exact decide_eq_true (by omega) | exact decide_eq_false (by omega))
local macro_rules | `(tactic| walk_at "go0") => `(tactic| first
  | with_reducible refine wpAny_execs_nil ?_
  | with_reducible refine wpAny_If ?_
  | ((with_reducible refine ite_f ?hdec ?_); (case hdec => walk_at "dec"))
  | ((with_reducible refine ite_t ?hdec ?_); (case hdec => walk_at "dec"))
  | ((with_reducible refine wpAny_isTrue_Compare1 ?_ ?hm); (case hm => with_unfolding_all rfl))
  | with_reducible refine isTrue_and ?_
  | with_reducible refine isTrue_and_nil ?_
  | with_reducible refine isTrue_or ?_
  | with_reducible refine isTrue_or_nil ?_
  | with_reducible refine isTrue_not ?_
  | ((with_reducible refine isTrue_plain ?_ ?he); (case he => rfl))
  | ((with_reducible refine wpAny_Assign_Name ?_ ?hs); (case hs => rfl))
  | with_reducible refine wpAny_AugAssign_Name ?_
  | with_reducible refine wpAny_Return_some ?_
  | with_reducible refine wpAny_BinOp ?_
  | ((with_reducible refine wpAny_Compare1 ?_ ?hm); (case hm => with_unfolding_all rfl))
  | with_reducible refine IfExp_ ?_
  | with_reducible refine UnaryOp_ ?_
  | with_reducible refine Subscript_ ?_
  | ((with_reducible refine' ldL ?F ?hv ?_ ?hk ?hx ?hd); (case F => assumption); (case hk => rfl); (case hx => rfl); (case hd => decide); (case hv => walk_at "hv"))
  | ((with_reducible refine' ldnL ?F ?hv ?_ ?hk ?hx); (case F => assumption); (case hk => rfl); (case hx => rfl); (case hv => walk_at "hv"))
  | ((with_reducible refine' stL ?F ?_ ?hk ?hx); (case F => assumption); (case hk => rfl); (case hx => rfl); intro h' t' F')
  | ((with_reducible refine' ldG ?F ?G ?hv ?_ ?hk ?hx ?hd); (case F => assumption); (case G => assumption); (case hk => rfl); (case hx => rfl); (case hd => decide); (case hv => assumption))
  | ((with_reducible refine' ldB ?F ?G ?hn ?hv ?_ ?hk ?hx ?hd); (case F => assumption); (case G => assumption); (case hk => rfl); (case hx => rfl); (case hd => decide); (case hn => assumption); (case hv => assumption))
  | with_reducible refine cIntC ?_
  | with_reducible refine cStrC ?_
  | with_reducible refine Constant_none ?_
  | with_reducible refine Constant_bool ?_
  | with_reducible refine addIC ?_
  | with_reducible refine subIC ?_
  | ((with_reducible refine modIC ?hb ?_); (case hb => decide))
  | ((with_reducible refine fdivIC ?hb ?hs ?_); (case hb => decide); (case hs => decide))
  | with_reducible refine PyProof.Rows.lt_int ?_
  | with_reducible refine PyProof.Rows.le_int ?_
  | with_reducible refine PyProof.Rows.gt_int ?_
  | with_reducible refine PyProof.Rows.ge_int ?_
  | with_reducible refine PyProof.Rows.eq_int ?_
  | with_reducible refine iaddIC ?_
  | with_reducible refine negIC ?_
  | with_reducible refine SliceG_ ?_
  | with_reducible refine evN ?_
  | with_reducible refine evS ?_
  | ((with_reducible refine' newSliceG ?F ?_); (case F => assumption); intro sl' hs' _ Fs')
  | with_reducible refine wpAny_truthy_bool ?_
  | with_reducible refine is_none_none ?_
  | with_reducible refine is_ref_none ?_
  | with_reducible refine is_int_none ?_
  | with_reducible refine isnot_none_none ?_
  | with_reducible refine isnot_ref_none ?_
  | ((with_reducible refine' MethodCall_ ?_ ?he); (case he => rfl))
  | ((with_reducible refine Call_ ?_ ?he); (case he => rfl))
  | with_reducible refine wpAny_Call_Name_kw ?_
  | ((with_reducible refine Assign_Tuple ?_ ?hs ?hw); (case hs => rfl); (case hw => rfl))
  | ((with_reducible refine plainObj_wpAny_Assign_Attribute ?_ ?hs); (case hs => rfl))
  | with_reducible refine truthy_none ?_
  | with_reducible refine wpAny_Break ?_
  | ((with_reducible refine callWith_builtin1 ?_ ?he ?hp); (case he => rfl); (case hp => rfl))
  | ((with_reducible refine args_cons ?_ ?he); (case he => rfl))
  | with_reducible refine args_nil ?_
  | ((with_reducible refine callWith_type1 ?_ ?he ?hp); (case he => rfl); (case hp => rfl))
  | ((with_reducible refine' rng2 ?F ?_); (case F => assumption); intro R' ta' tb' tc' h' t' hR' F')
  | ((with_reducible refine' rng1 ?F ?_); (case F => assumption); intro R' ta' tb' tc' h' t' hR' F')
  | ((with_reducible refine wpAny_For ?_ ?hs); (case hs => intro _; rfl))
  | ((with_reducible refine wpAny_Expr ?_ ?hi ?hs); (case hi => rfl); (case hs => rfl))
  | with_reducible refine List_ ?_
  | with_reducible refine Tuple_ ?_
  | ((with_reducible refine' appendM ?ho ?hc ?hd ?_); (case ho => walk_at "get"); (case hc => rfl); (case hd => rfl))
  | ((with_reducible refine callWith_method1 ?_ ?he ?hp); (case he => rfl); (case hp => rfl))
  | with_reducible refine PySem.EqNone.ne_none_none ?_
  | with_reducible refine BoolOp_and ?_
  | with_reducible refine BoolOp_one ?_
  | dsimp only)
local macro_rules | `(tactic| walk_at "go1") => `(tactic| first | with_reducible refine wpAny_execs_cons ?_ | walk_at "go0")
local macro_rules | `(tactic| walk_at "go") => `(tactic| repeat (walk_at "go1"))
local macro_rules | `(tactic| walk_at "gs") => `(tactic| repeat (walk_at "go0"))
local macro_rules | `(tactic| walk_at "mem") => `(tactic| ((repeat (first | exact List.Mem.head _ | assumption | refine List.Mem.tail _ ?_)); done))
local macro_rules | `(tactic| walk_at "get") => `(tactic| first | exact Fn.get (by assumption) (by walk_at "mem") | exact Fn.getU (by assumption) (by walk_at "mem"))
local macro_rules | `(tactic| walk_at "len") => `(tactic| ((with_reducible refine' lenLC ?ho ?hb ?_); (case ho => walk_at "get"); (case hb => first | assumption | omega)))
local macro_rules | `(tactic| walk_at "itemV") => `(tactic| ((with_reducible refine' itemV ?ho ?h0 ?h1 ?hb ?_ ?hs ?ht); (case ho => walk_at "get"); (case h0 => omega); (case h1 => omega); (case hb => first | assumption | omega); (case hs => with_unfolding_all rfl); (case ht => intro _; with_unfolding_all rfl)))
local macro_rules | `(tactic| walk_at "last") => `(tactic| ((with_reducible refine' itemLast ?ho ?hi ?h1 ?hb ?_ ?hs ?ht); (case ho => walk_at "get"); (case hi => assumption); (case h1 => omega); (case hb => omega); (case hs => with_unfolding_all rfl); (case ht => intro _; with_unfolding_all rfl); intro ti'))


theorem hitMake {prog : Program} {w : World} {fh dd fs cs c1 c2 : Addr} {fdh : FuncData} {od o1 o2 : Obj} {q' : Str} {sc : Scope} {clos : List (Str × Addr)} {doc pm ctv : Value} {x1 x2 : Str} {p1 p2 p3 : Pos} {kk : Nat} {i j : Int} {t u : Tok}
    (hod : DictIs od (fun x => if x = "span" then some (.ref fs) else none)) (h1 : o1.data = .cell (some (.int i t))) (h2 : o2.data = .cell (some (.int j u))) (l1 : clos.lookup x1 = some c1) (l2 : clos.lookup x2 = some c2)
    (hk : sc.kind = .function) (hco : sc.isCoroutine = false) (hgen : sc.isGenerator = false) (hcells : ∀ L, cellsFrom L sc.names [] = []) (k1 : ∀ q L a cd cl, (envX q sc L a cd cl).kindOf x1 = some .free) (k2 : ∀ q L a cd cl, (envX q sc L a cd cl).kindOf x2 = some .free)
    (d1 : (x1 == ("__debug__" : Str)) = false) (n1 : (x1 == ("__classdict__" : Str)) = false) (d2 : (x2 == ("__debug__" : Str)) = false) (n2 : (x2 == ("__classdict__" : Str)) = false) :
    Hit prog w fh i j [(fh, { cls := .type "function", dict := some dd, data := .func fdh }), (dd, od), (fs, kdv_obj "<lambda>" q' ⟨[], [], none, [], [], none, []⟩ (.expr (.Tuple [.Name x1 p1, .Name x2 p2] kk p3)) sc clos .none doc pm cs ctv), (c1, o1), (c2, o2)] [cs] := by
  refine ⟨dd, fdh, od, _, fs, _, .head _, .tail _ (.head _), hod, if_pos rfl, .tail _ (.tail _ (.head _)), fun g Hg lim => ?_⟩
  have N1 : NT o1 := NF.nt fun vs e => by rw [h1] at e; cases e
  have N2 : NT o2 := NF.nt fun vs e => by rw [h2] at e; cases e
  refine Calls.enter (binds := []) (Hg.obj _ (.tail _ (.tail _ (.head _)))) rfl (Hg.code _ (.head _)).rec' lim (fun s₀ t => BindsTo.of_eq rfl) ?_ rfl rfl hco hgen
  intro A s₀ t q L h₁ hr F
  rw [show cellsFrom (L + 1) (kdv_fn "<lambda>" q' ⟨[], [], none, [], [], none, []⟩ (.expr (.Tuple [.Name x1 p1, .Name x2 p2] kk p3)) sc clos .none doc pm (.ref cs) ctv).scope.names [] = [] from hcells _] at F ⊢
  refine ⟨h₁, t, rfl, F.keep, fun A hr => ?_⟩
  replace F := (F.recall (Hg.obj (c1, o1) (by walk_at "mem")) N1).recall (Hg.obj (c2, o2) (by walk_at "mem")) N2
  show wpAny _ _ (eval (.Tuple [.Name x1 p1, .Name x2 p2] kk p3) (envX q sc L fs (.ref cs) clos)) _ _ _
  refine Tuple_ ?_
  walk_at "go"
  refine ldF l1 (F.get (a := c1) (o := o1) (by walk_at "mem")) h1 ?_ hk (k1 ..) d1 n1
  walk_at "go"
  refine ldF l2 (F.get (a := c2) (o := o2) (by walk_at "mem")) h2 ?_ hk (k2 ..) d2 n2
  walk_at "go"
  refine tupG F fun b h' hb k' eb F' => ?_
  exact Ret.mk F'.keep ⟨b, _, _, rfl, F.keep.gone hb, eb⟩
theorem New.cons {h h' : Heap} {a : Addr} {o : Obj} {N : List (Addr × Obj)} (e : h'.get? a = some o) (n : NT o) (g : h.get? a = none) (x : New h h' N) : New h h' ((a, o) :: N) := fun p hp => by
  rcases List.mem_cons.mp hp with rfl | hp
  · exact ⟨e, n, g⟩
  · exact x p hp
theorem hitPost {prog : Program} {w : World} {h hp : Heap} {L : Addr} {m : Str → Option Value} {U T : List (Addr × Obj)} {C : List Addr} {fh dd fs cs c1 c2 : Addr} {fdh : FuncData} {od o1 o2 : Obj} {q' : Str} {sc : Scope} {clos : List (Str × Addr)} {doc pm ctv : Value} {x1 x2 : Str} {p1 p2 p3 : Pos} {kk : Nat} {i j : Int} {t u : Tok}
    (F : Fn h L m ((fh, { cls := .type "function", dict := some dd, data := .func fdh }) :: (dd, od) :: U) ((fs, kdv_obj "<lambda>" q' ⟨[], [], none, [], [], none, []⟩ (.expr (.Tuple [.Name x1 p1, .Name x2 p2] kk p3)) sc clos .none doc pm cs ctv) :: T) (cs :: C) hp)
    (hfs : h.get? fs = none) (m1 : (c1, o1) ∈ T) (z1 : h.get? c1 = none) (m2 : (c2, o2) ∈ T) (z2 : h.get? c2 = none)
    (hod : DictIs od (fun x => if x = "span" then some (.ref fs) else none)) (h1 : o1.data = .cell (some (.int i t))) (h2 : o2.data = .cell (some (.int j u))) (l1 : clos.lookup x1 = some c1) (l2 : clos.lookup x2 = some c2)
    (hk : sc.kind = .function) (hco : sc.isCoroutine = false) (hgen : sc.isGenerator = false) (hcells : ∀ L, cellsFrom L sc.names [] = []) (k1 : ∀ q L a cd cl, (envX q sc L a cd cl).kindOf x1 = some .free) (k2 : ∀ q L a cd cl, (envX q sc L a cd cl).kindOf x2 = some .free)
    (d1 : (x1 == ("__debug__" : Str)) = false) (n1 : (x1 == ("__classdict__" : Str)) = false) (d2 : (x2 == ("__debug__" : Str)) = false) (n2 : (x2 == ("__classdict__" : Str)) = false) :
    SearchPost prog w (some (i, j)) h (.ref fh) hp :=
  ⟨fh, _, [cs], rfl, New.cons (F.getU (.head _)) (NF.nt nofun) (F.newU _ (.head _)).2.2 (New.cons (F.getU (.tail _ (.head _))) hod.nf.nt (F.newU _ (.tail _ (.head _))).2.2
    (New.cons (F.get (.head _)) (NF.nt nofun) hfs (New.cons (F.get (.tail _ m1)) (NF.nt fun vs e => by rw [h1] at e; cases e) z1 (New.cons (F.get (.tail _ m2)) (NF.nt fun vs e => by rw [h2] at e; cases e) z2 (New.nil _ _))))),
    fun c hc => by rw [List.mem_singleton.mp hc]; exact F.codes _ (.head _), hitMake hod h1 h2 l1 l2 hk hco hgen hcells k1 k2 d1 n1 d2 n2⟩
theorem progFin {prog : Program} {w : World} {h hp : Heap} {L : Addr} {m : Str → Option Value} {U T N' : List (Addr × Obj)} {C Cs : List Addr} {fp dd f : Addr} {fdp fg : FuncData} {od : Obj}
    (F : Fn h L m ((fp, { cls := .type "function", dict := some dd, data := .func fdp }) :: (dd, od) :: U) T C hp) (hod : DictIs od (fun x => if x = "search" then some (.ref f) else none))
    (hN' : New h hp N') (hf : (f, ({ cls := .type "function", data := .func fg } : Obj)) ∈ N') :
    ∃ N, New h hp N ∧ (∀ q ∈ N', q ∈ N) ∧ ∀ {G : Heap → Prop} {d : Nat} {x : Value} {S : Int → Option (Int × Int)} {R : List (Addr × Obj)}, (∀ q ∈ N, q ∈ R) →
      (∀ g, Has R Cs g → G g → Mine.Calls prog w d (.ref f) ⟨[x], []⟩ g (SearchPost prog w (S 0) g)) → (∀ k t g, 0 ≤ k → Has R Cs g → G g → Mine.Calls prog w d (.ref f) ⟨[x, .int k t], []⟩ g (SearchPost prog w (S k) g)) → Prog prog w G d x S fp R Cs :=
  ⟨(fp, _) :: (dd, od) :: N', New.cons (F.getU (.head _)) (NF.nt nofun) (F.newU _ (.head _)).2.2 (New.cons (F.getU (.tail _ (.head _))) hod.nf.nt (F.newU _ (.tail _ (.head _))).2.2 hN'), fun q hq => .tail _ (.tail _ hq),
    fun hR h1 h2 => ⟨dd, fdp, od, _, f, fg, hR _ (.head _), hR _ (.tail _ (.head _)), hod, if_pos rfl, hR _ (.tail _ (.tail _ hf)), h1, h2⟩⟩


section
variable {prog : Program} {w : World} {A : Around} {E : Value → Shared → Prop} {hp : Heap} {g : Array GenState} {dr : Drawn} {tk : Nat} {os : OsState} {h₀ : Heap} {L : Addr} {m : Str → Option Value} {U T : List (Addr × Obj)} {C : List Addr}
theorem addL {l b : Addr} {vs ws : List Value} {n n2 : Nat} {Q : Value → Shared → Prop} (F : Fn h₀ L m U T C hp) (ho : hp.get? l = some (listOf vs.toArray n)) (ho2 : hp.get? b = some (listOf ws.toArray n2))
    (h : ∀ r h', hp.get? r = none → Fn h₀ L m U ((r, listOf (vs ++ ws).toArray 0) :: T) C h' → Q (.ref r) ⟨h', g, dr, tk, os⟩) (hsz : vs.length + ws.length ≤ sizeLine) :
    wpAny (model prog w) A (binaryOp .Add (.ref l) (.ref b)) Q E ⟨hp, g, dr, tk, os⟩ := by
  refine concat_meets ⟨_, ho, rfl⟩ ⟨_, ho2, rfl⟩ noFill_list_add seq_list_add PySem.F.slot_list_add PySem.F.entry_list_add (PySem.F.args_list_add_2 _ _) (list_addW l b vs.toArray ws.toArray n n2 none none #[] #[] (by simpa using hsz)) ⟨ho, ho2, ?_⟩
  have z := F.pushT (listOf (vs ++ ws).toArray 0) rfl (NF.nt nofun)
  rw [show vs.toArray ++ ws.toArray = (vs ++ ws).toArray by simp]
  exact h _ _ (get_size _) z
theorem rep_one (c : Nat) : ∀ (n : Nat) (acc : Array Nat), (List.replicate n #[c]).foldl (· ++ ·) acc = acc ++ (List.replicate n c).toArray
  | 0, acc => by simp
  | n + 1, acc => by
    rw [List.replicate_succ, List.foldl_cons, rep_one c n]
    apply Array.toList_inj.mp
    simp [List.replicate_succ]
/-- 'c' * n -/
theorem mulS {c : Nat} {n : Nat} {t u : Tok} {Q : Value → Shared → Prop} (hn : n ≤ 16777216) (h : ∀ t u, Q (.str ⟨(List.replicate n c).toArray⟩ t) ⟨hp, g, dr, u, os⟩) :
    wpAny (model prog w) A (binaryOp .Mult (.str ⟨#[c]⟩ t) (.int n u)) Q E ⟨hp, g, dr, tk, os⟩ := by
  have hlen : (⟨#[c]⟩ : Str).length = 1 := rfl
  refine P.mul_str (by rw [decide_eq_false (by omega), decide_eq_false (by omega)]; rfl) (fun h1 h2 => ?_) (fun h1 h2 => ?_) ?_
  · rw [hlen]
    have : (1 : Int) ≤ (2 ^ 63 - 1) / n := by
      rw [Int.le_ediv_iff_mul_le (by omega)]; omega
    omega
  · rw [hlen]
    show decide (_ > sizeLine) = false
    exact decide_eq_false (by show ¬ _ > 16777216; omega)
  · split
    · have : n = 0 := by omega
      subst this
      exact ⟨by decide, h _ _⟩
    · split
      · rename_i h1 h2
        have : (n : Int) = 1 := by simpa [hlen] using h2
        have : n = 1 := by omega
        subst this
        exact h _ _
      · have e := rep_one c n #[]
        rw [Array.empty_append] at e
        show (Made.str _).post Q _
        rw [show (List.foldl (fun x1 x2 => x1 ++ x2) #[] (List.replicate (n : Int).toNat #[c])) = (List.replicate n c).toArray from e]
        exact ⟨by show (List.replicate n c).toArray.size ≤ 16777216; simp; omega, h _ _⟩
theorem neTT {a b : Addr} {i j i' j' : Int} {t u t' u' : Tok} {s : Shared} {Q : Value → Shared → Prop} (ha : s.heap.get? a = some (kdv_tup [.int i t, .int j u])) (hb : s.heap.get? b = some (kdv_tup [.int i' t', .int j' u'])) (hu : A.units < cLine)
    (h : Q (.bool (!(i == i' && j == j'))) s) : wpAny (model prog w) A (compareOp .NotEq (.ref a) (.ref b)) Q E s := by
  refine EqBoolInt.of_rcne (SeqAt.RcNeAt.tuples (e := fun k => if k = 0 then i == i' else j == j') ⟨_, ha, rfl, 0, rfl⟩ ⟨_, hb, rfl, 0, rfl⟩ hu fun k h1 h2 => ?_) ?_
  · match k, h1, h2 with
    | 0, _, _ => exact SeqAt.EqAt.int_int i t i' t'
    | 1, _, _ => exact SeqAt.EqAt.int_int j u j' u'
  · simpa [List.range, List.range.loop] using h
theorem callDef {p : Program} {i : Nat} {f : Addr} {dV kV : Value} {c : Addr} {pos : Pos} {e : Expr} {rest : List Expr} {env : Env} {s : Shared} {Q : Value → Shared → Prop} (D : IsDef p i h₀ f dV kV c)
    (h : wpAny (model prog w) A (spliced (backTo pos (starEach (e :: rest) env))) (fun vs s₁ => Keep h₀ s₁.heap ∧ wpAny (model prog w) A (call (.ref f) vs) Q E s₁) E s)
    (he : starEach (e :: rest) env = (false, eval e env) :: starEach rest env := by rfl) :
    wpAny (model prog w) A (callWith pos (.ref f) [] (backTo pos (starEach (e :: rest) env)) []) Q E s := by
  obtain ⟨nb, qb, docb, pmb, anb, ctb, ocb, odb, oslb, eb⟩ := D
  exact callWith_def (o := ⟨ocb, odb, _, oslb⟩) rfl (wpAny_mono h (fun vs s₁ h₁ => ⟨h₁.1.obj _ _ eb (NF.nt nofun), h₁.2⟩) fun _ _ x => x) he
end


section
variable {prog : Program} {w : World} {A : Around} {E : Value → Shared → Prop} {s : Shared}
/-- the post by a name, so that the walk behind need not carry it -/
theorem hide {α : Type} {M : Model} {x : Sem α} {Q : α → Shared → Prop} (h : ∀ P : α → Shared → Prop, (∀ a s', Q a s' → P a s') → wpAny M A x P E s) : wpAny M A x Q E s := h Q fun _ _ q => q
/-- a while by an invariant and a measure, the posts by names -/
theorem while_H {test : Expr} {body : List Stmt} {env : Env} {pos : Pos} {Q : Flow → Shared → Prop} (I : Nat → Shared → Prop) (n : Nat) (h : I n s)
    (turn : ∀ n s (N : Shared → Prop) (D : Flow → Shared → Prop), (∀ s', (∃ m, m < n ∧ I m s') → N s') → (∀ f s', Q f s' → D f s') → I n s → wpAny (model prog w) A (isTrue test env (eval test env)) (fun b s₂ =>
      if b = true then wpAny (model prog w) A (execs body env) (fun f s₃ => match f with
            | .next | .cont => N s₃
            | .brk => D .next s₃
            | .ret v => D (.ret v) s₃) NoE s₂
      else D .next s₂) NoE s) :
    wpAny (model prog w) A (exec (.While test body [] pos) env) Q E s :=
  while_G I n h fun n s hI => turn n s _ Q (fun _ x => x) (fun _ _ x => x) hI
end
section
variable {prog : Program} {w : World} {A : Around} {E : Value → Shared → Prop} {s : Shared} {h₀ : Heap} {L fa : Addr} {m : Str → Option Value} {U T : List (Addr × Obj)} {C : List Addr} {q : Str} {sc : Scope} {cd : Value} {cl : List (Str × Addr)}
  {x : Str} {px : Pos} {body : List Stmt} {Q : Flow → Shared → Prop}
theorem iter_range_H {R : Addr} {a b : Int} {t u v : Tok} (F : Fn h₀ L m U T C s.heap) (hh : A.handled = none) (hR : IsRange s.heap R a b 1 t u v) (ha : -(2 ^ 62) ≤ a) (ha' : a < 2 ^ 62) (hb : -(2 ^ 62) ≤ b) (hb' : b < 2 ^ 62)
    (J : Nat → (Str → Option Value) → List (Addr × Obj) → Prop) (h0 : J 0 m U)
    (turn : ∀ (i : Nat) t m U h I o tk (P : Flow → Shared → Prop), (∀ f s₃, TurnPost s h₀ L ((I, o) :: T) C (J (i + 1)) Q f s₃ → P f s₃) → a + (i : Int) < b → J i m U → Fn h₀ L (fun y => if y = x then some (.int (a + i) t) else m y) U ((I, o) :: T) C h →
      wpAny (model prog w) A (execs body (envX q sc L fa cd cl)) P NoE { s with heap := h, toks := tk })
    (done : ∀ m U h t, J (b - a).toNat m U → Fn h₀ L m U T C h → Q .next { s with heap := h, toks := t })
    (hk : sc.kind = .function := by rfl) (hx : (envX q sc L fa cd cl).kindOf x = some .local := by rfl) :
    wpAny (model prog w) A (pyIter (.ref R)) (fun it s₂ => codeAny (model prog w) A (.forLoop (.Name x px) it body [] (envX q sc L fa cd cl)) (fun r s' => match r with | .ok f => Q f s' | .error e => cameBackBy (model prog w) A (envX q sc L fa cd cl) E e s') s₂) E s :=
  iter_range F hh hR ha ha' hb hb' J h0 (fun i t m U h I o tk h1 h2 h3 => turn i t m U h I o tk _ (fun _ _ x => x) h1 h2 h3) done hk hx
theorem iter_list_H {l : Addr} {vs : List Value} {n : Nat} (target : Expr) (F : Fn h₀ L m U T C s.heap) (hh : A.handled = none) (hl : (l, listOf vs.toArray n) ∈ T) (hlet : ∀ I i v s Q, s.heap.IsListIter I l i → v ∈ vs → Q () s → wpAny (model prog w) A (letOwnedTupleGo target (.ref I) v) Q NoE s)
    (J : Nat → (Str → Option Value) → List (Addr × Obj) → Prop) (h0 : J 0 m U)
    (turn : ∀ (i : Nat) v m U h I o tk (P : Flow → Shared → Prop), (∀ f s₃, TurnPost s h₀ L ((I, o) :: T) C (J (i + 1)) Q f s₃ → P f s₃) → vs[i]? = some v → J i m U → Fn h₀ L m U ((I, o) :: T) C h →
      wpAny (model prog w) A (assign target (envX q sc L fa cd cl) v) (fun _ s₂ => wpAny (model prog w) A (execs body (envX q sc L fa cd cl)) P NoE s₂) NoE { s with heap := h, toks := tk })
    (done : ∀ m U h t, J vs.length m U → Fn h₀ L m U T C h → Q .next { s with heap := h, toks := t }) :
    wpAny (model prog w) A (pyIter (.ref l)) (fun it s₂ => codeAny (model prog w) A (.forLoop target it body [] (envX q sc L fa cd cl)) (fun r s' => match r with | .ok f => Q f s' | .error e => cameBackBy (model prog w) A (envX q sc L fa cd cl) E e s') s₂) E s :=
  iter_list target F hh hl hlet J h0 (fun i v m U h I o tk h1 h2 h3 => turn i v m U h I o tk _ (fun _ _ x => x) h1 h2 h3) done
end
theorem let_name {prog : Program} {w : World} {A : Around} {l : Addr} {vs : List Value} {x : Str} {p : Pos} : ∀ I i v s Q, s.heap.IsListIter I l i → v ∈ vs → Q () s → wpAny (model prog w) A (letOwnedTupleGo (.Name x p) (.ref I) v) Q NoE s := fun _ _ _ _ _ _ _ hq => wpAny_pure hq


def Sorted (xs : List Int) : Prop := ∀ i j : Nat, i ≤ j → j < xs.length → xs.getD i 0 ≤ xs.getD j 0
/-- r is the place that bisect_left tells -/
def BlAt (xs : List Int) (x r : Int) : Prop := 0 ≤ r ∧ r ≤ xs.length ∧ (∀ i : Nat, (i : Int) < r → xs.getD i 0 < x) ∧ ∀ i : Nat, r ≤ i → i < xs.length → x ≤ xs.getD i 0
abbrev KDr (t t' : Tok) (hs : Int) : Frag := [(15, kdv_tup [.int 0 t, .none]), (16, { cls := .type "dict", data := .dict #[⟨hs, .str "key" t', .none⟩] 1 })]
abbrev KDl (t t' : Tok) (hs : Int) : Frag := [(24, kdv_tup [.int 0 t, .none]), (25, { cls := .type "dict", data := .dict #[⟨hs, .str "key" t', .none⟩] 1 })]

theorem blk_spec {prog : Program} {w : World} {h : Heap} {fa a c kf : Addr} {vs : List Value} {ks : List Int} {x hs : Int} {t t' tt : Tok} {n d : Nat} {mg mb : Str → Option Value} {ok : Obj} {fk : FuncData}
    (D : IsDef pw2 2 h fa (.ref 24) (.ref 25) c) (hc : CodeP h c) (G : Gl mg mb h) (X : (KDl t' tt hs).In h) (hlen : mg "len" = none) (hlen' : mb "len" = some (.builtin "len")) (hl : h.get? a = some (listOf vs.toArray n)) (hlv : vs.length = ks.length)
    (hsz' : vs.length < 2 ^ 62) (hso : Sorted ks) (hkf : h.get? kf = some ok) (hkd : ok.data = .func fk)
    (hkey : ∀ (i : Nat) v h', vs[i]? = some v → Keep h h' → Mine.Calls prog w d (.ref kf) ⟨[v], []⟩ h' (fun r _ => ∃ t, r = .int (ks.getD i 0) t)) :
    Mine.Calls prog w (d + 1) (.ref fa) ⟨[.ref a, .int x t], [("key", .ref kf)]⟩ h (fun v _ => ∃ r t, v = .int r t ∧ BlAt ks x r) := by
  refine IsDef.calls (binds := [("a", .ref a), ("x", .int x t), ("lo", .int 0 t'), ("hi", .none), ("key", .ref kf)]) D hc.rec' G.lim (fun name qual doc pm an ct s₀ t => kp_binds (s := St s₀ h t) X fun S => by rfl) rfl (locs rfl) ?_
  intro A s₀ t q L h₁ hr F
  replace F := (F.recall hl (NF.nt nofun)).recall hkf (NF.nt fun vs e => by rw [hkd] at e; cases e)
  show wpAny _ _ (execs (_ :: _) _) _ _ _
  walk_at "go"
  walk_at "len"
  walk_at "go"
  rename_i h₂ t₂ F₂
  refine while_H (fun k s => ∃ h' t' m lo hi tl th, s = St s₀ h' t' ∧ Fn h L m [] [(kf, ok), (a, listOf vs.toArray n)] [] h' ∧ m "a" = some (.ref a) ∧ m "key" = some (.ref kf) ∧ (∃ tx, m "x" = some (.int x tx)) ∧ m "lo" = some (.int lo tl) ∧ m "hi" = some (.int hi th) ∧ 0 ≤ lo ∧ lo ≤ hi ∧ hi ≤ ks.length ∧
    (∀ i : Nat, (i : Int) < lo → ks.getD i 0 < x) ∧ (∀ i : Nat, hi ≤ i → i < ks.length → x ≤ ks.getD i 0) ∧ k = (hi - lo).toNat) ks.length ⟨h₂, t₂, _, 0, vs.length, _, _, rfl, F₂, rfl, rfl, ⟨_, rfl⟩, rfl, rfl, ?_⟩ ?_
  · rw [hlv]
    exact ⟨by omega, by omega, by omega, fun i h => by omega, fun i h1 h2 => by omega, by omega⟩
  · rintro k s N D' hN hD ⟨h', t', m, lo, hi', tl, th, rfl, F, ma, mk, ⟨tx, mx⟩, mlo, mhi, h0, h1, h2, h3, h4, rfl⟩
    walk_at "go"
    refine split_dec (fun hlt => ?_) (fun hlt => ?_)
    · have hm1 : lo ≤ (lo + hi').fdiv 2 := by have := fdiv_fmod_facts (lo + hi') 2; omega
      have hm2 : (lo + hi').fdiv 2 < hi' := by have := fdiv_fmod_facts (lo + hi') 2; omega
      walk_at "go"
      rename_i F₃
      refine callWith_def hkd ?_
      walk_at "go"
      walk_at "itemV"
      intro v hv
      walk_at "go"
      refine ⟨F₃.get (.head _), callG (hkey _ v _ hv F₃.keep) hr fun r h₄ t₄ k₄ P₄ => ?_⟩
      obtain ⟨tr, rfl⟩ := P₄
      replace F₃ := F₃.kept k₄
      walk_at "go"
      generalize (lo + hi').fdiv 2 = mid at *
      refine split_dec (fun hx => ?_) (fun hx => ?_)
      · walk_at "go"
        rename_i F₅
        refine hN _ ⟨_, ?_, _, _, _, mid + 1, hi', _, th, rfl, F₅, ma, mk, ⟨_, mx⟩, rfl, mhi, by omega, by omega, h2, fun i hi1 => ?_, h4, rfl⟩
        · omega
        · exact Int.lt_of_le_of_lt (hso i mid.toNat (by omega) (by omega)) (by omega)
      · walk_at "go"
        rename_i F₅
        refine hN _ ⟨_, ?_, _, _, _, lo, mid, tl, _, rfl, F₅, ma, mk, ⟨_, mx⟩, mlo, rfl, h0, hm1, by omega, h3, fun i hi1 hi2 => ?_, rfl⟩
        · omega
        · exact Int.le_trans (by omega) (hso mid.toNat i (by omega) hi2)
    · walk_at "go"
      refine hD _ _ ?_
      walk_at "go"
      exact Ret.mk F.keep ⟨lo, _, rfl, h0, by omega, h3, fun i hi1 hi2 => h4 i (by omega) hi2⟩


/-- what is found so far, among the objects known -/
def FoundIs (prog : Program) (w : World) (h : Heap) (T : List (Addr × Obj)) (C : List Addr) (r : Option (Int × Int)) (v : Value) : Prop := match r with
  | none => v = .none
  | some (i, j) => ∃ f N Cs, v = .ref f ∧ (∀ p ∈ N, p ∈ T ∧ NT p.2 ∧ h.get? p.1 = none) ∧ (∀ c ∈ Cs, c ∈ C) ∧ Hit prog w f i j N Cs
theorem FoundIs.post {prog : Program} {w : World} {h₀ h : Heap} {L : Addr} {m : Str → Option Value} {U T : List (Addr × Obj)} {C : List Addr} {r : Option (Int × Int)} {v : Value} (F : Fn h₀ L m U T C h) (x : FoundIs prog w h₀ T C r v) : SearchPost prog w r h₀ v h := by
  cases r with
  | none => exact x
  | some ij => obtain ⟨f, N, Cs, e, a, b, c⟩ := x; exact ⟨f, N, Cs, e, fun p hp => ⟨F.get (a p hp).1, (a p hp).2⟩, fun c hc => F.codes c (b c hc), c⟩

def srBody : List Stmt := match ((FD pw2 4).2.1[4]? : Option Stmt) with
  | some (.While _ b _ _) => b
  | _ => []
inductive SrI (prog : Program) (w : World) (s₀ : Shared) (h : Heap) (L p : Addr) (x : Value) (col : Int) (T : List (Addr × Obj)) (C : List Addr) (S : Int → Option (Int × Int)) (res : Option (Int × Int)) (k : Nat) (s : Shared) : Prop
  | mk (h' : Heap) (t' : Nat) (m : Str → Option Value) (i j : Int) (f : Addr) (found : Option (Int × Int)) (fv : Value) (T' : List (Addr × Obj)) (C' : List Addr) (N : List (Addr × Obj)) (Cs : List Addr) (ti tj tc : Tok) (e : s = St s₀ h' t') (F : Fn h L m [] T' C' h') (hT : ∀ q ∈ T, q ∈ T') (hC : ∀ c ∈ C, c ∈ C')
    (mp : m "prog" = some (.ref p)) (mc : m "chars" = some x) (mcol : m "col" = some (.int col tc)) (mm : m "m" = some (.ref f)) (mf : m "found" = some fv) (mi : m "i" = some (.int i ti)) (mj : m "j" = some (.int j tj)) (hN : ∀ q ∈ N, q ∈ T' ∧ NT q.2 ∧ h.get? q.1 = none) (hCs : ∀ c ∈ Cs, c ∈ C')
    (hH : Hit prog w f i j N Cs) (hF : FoundIs prog w h T' C' found fv) (h0 : 0 ≤ i) (hij : i ≤ j) (hS : SR S col k i j found res)
theorem sr_spec {prog : Program} {w : World} {h : Heap} {fa p c : Addr} {x : Value} {col : Int} {t : Tok} {GF : Heap → Prop} {d : Nat} {S : Int → Option (Int × Int)} {T : List (Addr × Obj)} {C : List Addr} {res : Option (Int × Int)}
    (D : IsDef pw2 4 h fa .none .none c) (hc : CodeP h c) (lim : h.NoLimit) (hG : GF h) (hGk : ∀ h h', Keep h h' → GF h → GF h') (P : Prog prog w GF (d + 2) x S p T C) (H : Has T C h) (hNT : ∀ q ∈ T, NT q.2)
    (hres : match S 0 with | none => res = none | some (i, j) => 0 ≤ i ∧ i ≤ j ∧ ∃ n, SR S col n i j none res) (hS : ∀ k i j, 0 ≤ k → S k = some (i, j) → 0 ≤ i ∧ i ≤ j) :
    Mine.Calls prog w (d + 3) (.ref fa) ⟨[.ref p, x, .int col t], []⟩ h (SearchPost prog w res h) := by
  refine IsDef.calls (binds := [("prog", .ref p), ("chars", x), ("col", .int col t)]) D hc.rec' lim (fun name qual doc pm an ct s₀ t => BindsTo.of_eq rfl) rfl (locs rfl) ?_
  intro A s₀ t' q L h₁ hr F
  have hr' : Room A (d + 2) := hr
  obtain ⟨dd, fd, od, mm, gg, fg, a1, a2, a3, a4, a5, a6, a7⟩ := P.obj
  replace F := (F.recallAll (T' := T) fun q hq => ⟨H.obj q hq, hNT q hq⟩).recallAllC H.code
  rw [List.append_nil, List.append_nil] at F
  show wpAny _ _ (execs (_ :: _) _) _ _ _
  walk_at "go"
  refine getM (F.get a1) (F.get a2) a3 a4 fn_search fun t => ?_
  dsimp only
  refine callWith_def (o := { cls := .type "function", data := .func fg }) rfl ?_
  walk_at "go"
  refine ⟨F.get a5, ?_⟩
  refine callG (a6 _ F.has (hGk _ _ F.keep hG)) hr' fun v h₂ t₂ k₂ P₂ => ?_
  have memL : ∀ {N M : List (Addr × Obj)} {q : Addr × Obj}, q ∈ N → q ∈ N ++ M := fun h => List.mem_append.mpr (.inl h)
  have memR : ∀ {N M : List (Addr × Obj)} {q : Addr × Obj}, q ∈ M → q ∈ N ++ M := fun h => List.mem_append.mpr (.inr h)
  have memLc : ∀ {N M : List Addr} {q : Addr}, q ∈ N → q ∈ N ++ M := fun h => List.mem_append.mpr (.inl h)
  have memRc : ∀ {N M : List Addr} {q : Addr}, q ∈ M → q ∈ N ++ M := fun h => List.mem_append.mpr (.inr h)
  cases hS0 : S 0 with
  | none =>
    rw [hS0] at P₂ hres
    cases (show v = .none from P₂)
    cases (show res = none from hres)
    replace F := F.kept k₂
    walk_at "go"
    rename_i F₃
    exact Ret.mk F₃.keep rfl
  | some ij =>
    obtain ⟨i, j⟩ := ij
    rw [hS0] at P₂ hres
    obtain ⟨hi0, hij, n, hSR⟩ := hres
    obtain ⟨f, N, Cs, rfl, hN, hCs, hH⟩ := P₂
    have hNn : ∀ q ∈ N, NT q.2 ∧ h.get? q.1 = none := fun q hq => ⟨(hN q hq).2.1, F.keep.gone (hN q hq).2.2⟩
    replace F := (F.learn k₂ hN).learnAllC hCs
    walk_at "go"
    obtain ⟨d1, fd1, od1, mm1, g1, fg1, b1, b2, b3, b4, b5, b6⟩ := hH.obj
    rename_i F₃
    refine fn_truthy (F₃.get (memL b1)) rfl ?_
    walk_at "go"
    rename_i F₄
    refine spanG F₄ lim (hr'.less (by omega)) (hH.mono (fun _ => memL) fun _ => memLc) fun a ta tb h₅ t₅ _ F₅ => ?_
    refine unpack2 F₅ hr'.handled (.head _) (fun h₆ t₆ F₆ => ?_) rfl rfl rfl
    walk_at "go"
    refine while_H (SrI prog w s₀ h L p x col T C S res) n
      ⟨h₆, t₆, _, i, j, f, none, .none, _, _, N, Cs, _, _, _, rfl, F₆, fun q hq => .tail _ (memR hq), fun c hc => memRc hc, rfl, rfl, rfl, rfl, rfl, rfl, rfl, fun q hq => ⟨.tail _ (memL hq), hNn q hq⟩, fun c hc => memLc hc, hH, rfl, hi0, hij, hSR⟩ ?_
    rintro k s N₀ D₀ hN₀ hD₀ ⟨h', t', m, i, j, f, found, fv, T', C', N, Cs, ti, tj, tc, rfl, F, hT, hC, mp, mc, mcol, mm', mf, mi, mj, hN, hCs, hH, hfo, hi0, hij, hSR⟩
    walk_at "go"
    refine split_dec (fun hic => ?_) (fun hic => ?_)
    · walk_at "go"
      refine split_dec (fun hjc => ?_) (fun hjc => ?_)
      · have hn0 : 0 ≤ nextAt i j := by unfold nextAt; split <;> omega
        walk_at "gs"
        refine hide fun Pb hPb => ?_
        have rest : ∀ (h' : Heap) (t' : Nat) (m : Str → Option Value) (tj : Tok), Fn h L m [] T' C' h' → m "prog" = some (.ref p) → m "chars" = some x → m "col" = some (.int col tc) → m "found" = some (.ref f) → m "i" = some (.int i ti) → m "j" = some (.int (nextAt i j) tj) →
            wpAny (model prog w) A (execs (srBody.drop 2) (envX q (FD pw2 4).2.2 L fa (.ref c) [])) Pb NoE (St s₀ h' t') := by
          clear F mp mc mcol mm' mf mi mj
          intro h' t' m tj F₁ mp mc mcol mf mi mj
          show wpAny _ _ (execs (_ :: _) _) _ _ _
          walk_at "go"
          refine getM (F₁.get (hT _ a1)) (F₁.get (hT _ a2)) a3 a4 fn_search fun t => ?_
          dsimp only
          refine callWith_def (o := { cls := .type "function", data := .func fg }) rfl ?_
          walk_at "go"
          refine ⟨F₁.get (hT _ a5), ?_⟩
          have hH' : Has T C _ := ⟨fun q hq => F₁.get (hT _ hq), fun c hc => F₁.codes _ (hC _ hc)⟩
          refine callG (a7 _ _ _ hn0 hH' (hGk _ _ F₁.keep hG)) hr' fun v h₂ t₂ k₂ P₂ => ?_
          cases hSn : S (nextAt i j) with
          | none =>
            rw [hSn] at P₂
            cases (show v = .none from P₂)
            have F₂ := F₁.kept k₂
            walk_at "go"
            rename Fn _ _ _ _ _ _ _ => F₃
            have : res = some (i, j) := by
              cases hSR with
              | stop hh => exact absurd ⟨hic, hjc⟩ hh
              | last _ _ _ => rfl
              | step _ _ hh _ => rw [hSn] at hh; cases hh
            subst this
            refine hPb _ _ (hD₀ _ _ ?_)
            walk_at "go"
            exact Ret.mk F₃.keep (FoundIs.post F₃ (show FoundIs prog w h T' C' (some (i, j)) (.ref f) from ⟨f, N, Cs, rfl, hN, hCs, hH⟩))
          | some ij' =>
            obtain ⟨i', j'⟩ := ij'
            rw [hSn] at P₂
            obtain ⟨f', N', Cs', rfl, hN', hCs', hH''⟩ := P₂
            have hNn' : ∀ q ∈ N', NT q.2 ∧ h.get? q.1 = none := fun q hq => ⟨(hN' q hq).2.1, F₁.keep.gone (hN' q hq).2.2⟩
            have F₂ := (F₁.learn k₂ hN').learnAllC hCs'
            have hSR' : ∃ k', k' < k ∧ SR S col k' i' j' (some (i, j)) res := by
              cases hSR with
              | stop hh => exact absurd ⟨hic, hjc⟩ hh
              | last _ _ hh => rw [hSn] at hh; cases hh
              | step _ _ hh z => rw [hSn] at hh; cases hh; exact ⟨_, Nat.lt_succ_self _, z⟩
            obtain ⟨k', hk', hSR'⟩ := hSR'
            have hpos := hS _ _ _ hn0 hSn
            walk_at "go"
            rename Fn _ _ _ _ _ _ _ => F₃
            obtain ⟨d1, fd1, od1, mm1, g1, fg1, b1, b2, b3, b4, b5, b6⟩ := hH''.obj
            refine fn_truthy (F₃.get (memL b1)) rfl ?_
            walk_at "go"
            refine spanG F₃ lim (hr'.less (by omega)) (hH''.mono (fun _ => memL) fun _ => memLc) fun a ta tb h₅ t₅ _ F₅ => ?_
            refine unpack2 F₅ hr'.handled (.head _) (fun h₆ t₆ F₆ => ?_) rfl rfl rfl
            walk_at "go"
            refine hPb _ _ (hN₀ _ ⟨k', hk', h₆, t₆, _, i', j', f', some (i, j), .ref f, _, _, N', Cs', _, _, _, rfl, F₆, fun q hq => .tail _ (memR (hT q hq)), fun c hc => memRc (hC c hc), mp, mc, mcol, rfl, mf, rfl, rfl, fun q hq => ⟨.tail _ (memL hq), hNn' q hq⟩, fun c hc => memLc hc, hH'', ⟨f, N, Cs, rfl, fun q hq => ⟨.tail _ (memR (hN q hq).1), (hN q hq).2⟩, fun c hc => memRc (hCs c hc), hH⟩, hpos.1, hpos.2, hSR'⟩)
        have hnx : nextAt i j = (if i == j then j + 1 else j) := by unfold nextAt; simp only [beq_iff_eq]
        clear hS hSR hH hfo hN hCs hNn
        refine wpAny_execs_cons ?_
        walk_at "gs"
        refine wpAny_execs_cons ?_
        walk_at "gs"
        refine split_bool (fun hb => ?_) (fun hb => ?_)
        · rw [hb] at hnx
          simp only [if_true] at hnx
          walk_at "gs"
          refine wpAny_execs_cons ?_
          walk_at "gs"
          rename Fn _ _ _ _ _ _ _ => F₁
          rw [← hnx] at F₁
          exact rest _ _ _ _ F₁ mp mc mcol rfl mi rfl
        · rw [hb] at hnx
          simp only [if_false, Bool.false_eq_true] at hnx
          walk_at "gs"
          rename Fn _ _ _ _ _ _ _ => F₁
          exact rest _ _ _ _ F₁ mp mc mcol rfl mi (by rw [hnx]; exact mj)
      · walk_at "go"
        refine hD₀ _ _ ?_
        walk_at "go"
        have : res = found := by
          cases hSR with
          | stop _ => rfl
          | last _ hh _ => exact absurd hh hjc
          | step _ hh _ _ => exact absurd hh hjc
        subst this
        exact Ret.mk F.keep (FoundIs.post F hfo)
    · walk_at "go"
      refine hD₀ _ _ ?_
      walk_at "go"
      have : res = found := by
        cases hSR with
        | stop _ => rfl
        | last hh _ _ => exact absurd hh hic
        | step hh _ _ _ => exact absurd hh hic
      subst this
      exact Ret.mk F.keep (FoundIs.post F hfo)


/-! ### rows of ints as tuples -/
def Tab (T : List (Addr × Obj)) (vs : List Value) (rows : List (List Int)) : Prop :=
  vs.length = rows.length ∧ ∀ i : Nat, i < rows.length → ∃ a ws, vs[i]? = some (.ref a) ∧ (a, kdv_tup ws) ∈ T ∧ IntsAre ws (rows.getD i [])
theorem Tab.mono {T T' : List (Addr × Obj)} {vs : List Value} {rows : List (List Int)} (x : Tab T vs rows) (h : ∀ p ∈ T, p ∈ T') : Tab T' vs rows :=
  ⟨x.1, fun i hi => let ⟨a, ws, e, m, r⟩ := x.2 i hi; ⟨a, ws, e, h _ m, r⟩⟩
theorem Tab.nil {T : List (Addr × Obj)} : Tab T [] [] := ⟨rfl, fun i hi => by simp at hi⟩
theorem Tab.app {T : List (Addr × Obj)} {vs vs' : List Value} {rows rows' : List (List Int)} (x : Tab T vs rows) (y : Tab T vs' rows') : Tab T (vs ++ vs') (rows ++ rows') := by
  refine ⟨by simp [x.1, y.1], fun i hi => ?_⟩
  have hx := x.1
  by_cases e : i < rows.length
  · obtain ⟨a, ws, e1, m, r⟩ := x.2 i e
    refine ⟨a, ws, by rw [List.getElem?_append_left (by omega)]; exact e1, m, ?_⟩
    have : (rows ++ rows').getD i [] = rows.getD i [] := by simp [List.getD, List.getElem?_append_left e]
    rw [this]; exact r
  · rw [List.length_append] at hi
    obtain ⟨a, ws, e1, m, r⟩ := y.2 (i - rows.length) (by omega)
    refine ⟨a, ws, by rw [List.getElem?_append_right (by omega), hx]; exact e1, m, ?_⟩
    have : (rows ++ rows').getD i [] = rows'.getD (i - rows.length) [] := by simp only [List.getD]; rw [List.getElem?_append_right (by omega)]
    rw [this]; exact r
theorem Tab.one {T : List (Addr × Obj)} {a : Addr} {ws : List Value} {r : List Int} (h : (a, kdv_tup ws) ∈ T) (hi : IntsAre ws r) : Tab T [.ref a] [r] :=
  ⟨rfl, fun i h' => by
    have : i = 0 := by simp at h'; omega
    subst this; exact ⟨a, ws, rfl, h, hi⟩⟩
theorem Tab.take {T : List (Addr × Obj)} {vs : List Value} {rows : List (List Int)} (x : Tab T vs rows) (k : Nat) : Tab T (vs.take k) (rows.take k) := by
  refine ⟨by simp [x.1], fun i hi => ?_⟩
  rw [List.length_take] at hi
  obtain ⟨a, ws, e1, m, r⟩ := x.2 i (by omega)
  refine ⟨a, ws, by rw [List.getElem?_take_of_lt (by omega)]; exact e1, m, ?_⟩
  have : (rows.take k).getD i [] = rows.getD i [] := by simp only [List.getD]; rw [List.getElem?_take_of_lt (by omega)]
  rw [this]; exact r
theorem Tab.reverse {T : List (Addr × Obj)} {vs : List Value} {rows : List (List Int)} (x : Tab T vs rows) : Tab T vs.reverse rows.reverse := by
  refine ⟨by simp [x.1], fun i hi => ?_⟩
  rw [List.length_reverse] at hi
  have hx := x.1
  obtain ⟨a, ws, e1, m, r⟩ := x.2 (rows.length - 1 - i) (by omega)
  refine ⟨a, ws, by rw [List.getElem?_reverse (by omega), hx]; exact e1, m, ?_⟩
  have : rows.reverse.getD i [] = rows.getD (rows.length - 1 - i) [] := by simp only [List.getD]; rw [List.getElem?_reverse (by omega)]
  rw [this]; exact r
abbrev prs (K : List (Nat × Nat)) : List (List Int) := K.map fun x => [(x.1 : Int), (x.2 : Int)]
theorem prs_at {K : List (Nat × Nat)} {p : Nat} (h : p < K.length) : (prs K).getD p [] = [(lo K p : Int), (hi K p : Int)] := by
  simp [prs, lo, hi, List.getD, h]
theorem prs_len {K : List (Nat × Nat)} : (prs K).length = K.length := by simp
theorem ints2 {ws : List Value} {a b : Int} (h : IntsAre ws [a, b]) : ∃ t u, ws = [.int a t, .int b u] := by
  cases h with
  | cons _ t h => cases h with
    | cons _ u h => cases h with
      | nil => exact ⟨t, u, rfl⟩
theorem tab_pair {T : List (Addr × Obj)} {vs : List Value} {K : List (Nat × Nat)} (x : Tab T vs (prs K)) {p : Nat} (h : p < K.length) : ∃ a t u, vs[p]? = some (.ref a) ∧ (a, kdv_tup [.int (lo K p) t, .int (hi K p) u]) ∈ T := by
  obtain ⟨a, ws, e, m, r⟩ := x.2 p (by rw [prs_len]; exact h)
  rw [prs_at h] at r
  obtain ⟨t, u, rfl⟩ := ints2 r
  exact ⟨a, t, u, e, m⟩
theorem prs_take {K : List (Nat × Nat)} {k : Nat} : (prs K).take k = prs (K.take k) := by simp [prs, List.map_take]


section
variable {prog : Program} {w : World} {A : Around} {E : Value → Shared → Prop} {s : Shared} {Q : Value → Shared → Prop}
theorem anyBase {value slice : Expr} {o i : Value} (h : wpAny (model prog w) A (subscriptTail (.Name (Str.ofString "_") ⟨0, 0, 0, 0⟩) slice o i) Q E s) : wpAny (model prog w) A (subscriptTail value slice o i) Q E s :=
  kba_turn (value' := .Name (Str.ofString "_") ⟨0, 0, 0, 0⟩) (fun _ => rfl) h
/-- an item of a tuple of ints -/
theorem itemTT {value slice : Expr} {a : Addr} {ws : List Value} {row : List Int} {k : Int} {u : Tok} (ho : s.heap.get? a = some (kdv_tup ws)) (hi : IntsAre ws row) (h0 : 0 ≤ k) (h1 : k < row.length) (hb : row.length < 100)
    (h : ∀ t, Q (.int (row.getD k.toNat 0) t) s)
    (hs : subscripted slice false (.ref a) (.int k u) = operate [.ref a, .int k u] (getItem (.ref a) (.int k u)) := by with_unfolding_all rfl) :
    wpAny (model prog w) A (subscriptTail value slice (.ref a) (.int k u)) Q E s :=
  anyBase (item_tuple_ints (vs := ws) (ns := row) ⟨_, ho, rfl, 0, rfl⟩ hi h0 h1 (by omega) h hs (fun _ => rfl))
/-- an item of a list of ints, whatever the base -/
theorem itemJ {value slice : Expr} {l : Addr} {vs : List Value} {n : Nat} {xs : List Int} {k : Int} {u : Tok} (ho : s.heap.get? l = some (listOf vs.toArray n)) (hi : IntsAre vs xs) (h0 : 0 ≤ k) (h1 : k < xs.length) (hb : xs.length < 2 ^ 62)
    (h : ∀ t, Q (.int (xs.getD k.toNat 0) t) s)
    (hs : subscripted slice false (.ref l) (.int k u) = operate [.ref l, .int k u] (getItem (.ref l) (.int k u)) := by with_unfolding_all rfl) :
    wpAny (model prog w) A (subscriptTail value slice (.ref l) (.int k u)) Q E s := anyBase (itemI ho hi h0 h1 hb h hs (fun _ => rfl))
end
section
variable {prog : Program} {w : World} {A : Around} {E : Value → Shared → Prop} {hp : Heap} {g : Array GenState} {dr : Drawn} {tk : Nat} {os : OsState} {h₀ : Heap} {L : Addr} {m : Str → Option Value} {U T : List (Addr × Obj)} {C : List Addr} {Q : Value → Shared → Prop}
theorem tupU {vs : List Value} (F : Fn h₀ L m U T C hp) (h : ∀ b h', hp.get? b = none → Fn h₀ L m ((b, kdv_tup vs) :: U) T C h' → Q (.ref b) ⟨h', g, dr, tk, os⟩) (hsz : vs.length ≤ sizeLine := by size_fits) :
    wpAny (model prog w) A (newTuple vs) Q E ⟨hp, g, dr, tk, os⟩ :=
  wpAny_newObj_type (s := ⟨hp, g, dr, tk, os⟩) (h _ _ (get_size _) (F.pushU _ rfl nofun)) (by show vs.toArray.size ≤ sizeLine; rw [List.size_toArray]; exact hsz)
theorem addLU {l b : Addr} {vs ws : List Value} {n n2 : Nat} (F : Fn h₀ L m U T C hp) (ho : hp.get? l = some (listOf vs.toArray n)) (ho2 : hp.get? b = some (listOf ws.toArray n2))
    (h : ∀ r h', hp.get? r = none → Fn h₀ L m ((r, listOf (vs ++ ws).toArray 0) :: U) T C h' → Q (.ref r) ⟨h', g, dr, tk, os⟩) (hsz : vs.length + ws.length ≤ sizeLine) :
    wpAny (model prog w) A (binaryOp .Add (.ref l) (.ref b)) Q E ⟨hp, g, dr, tk, os⟩ := by
  refine concat_meets ⟨_, ho, rfl⟩ ⟨_, ho2, rfl⟩ noFill_list_add seq_list_add PySem.F.slot_list_add PySem.F.entry_list_add (PySem.F.args_list_add_2 _ _) (list_addW l b vs.toArray ws.toArray n n2 none none #[] #[] (by simpa using hsz)) ⟨ho, ho2, ?_⟩
  have z := F.pushU (listOf (vs ++ ws).toArray 0) rfl nofun
  rw [show vs.toArray ++ ws.toArray = (vs ++ ws).toArray by simp]
  exact h _ _ (get_size _) z
end
/-! ### the prefix sums -/
def psum (ns : List Int) : Nat → Int
  | 0 => 0
  | k + 1 => psum ns k + ns.getD k 0
abbrev sumsL (ns : List Int) : List Int := (List.range (ns.length + 1)).map (psum ns)
theorem sumsL_len {ns : List Int} : (sumsL ns).length = ns.length + 1 := by simp
theorem sumsL_at {ns : List Int} {i : Nat} (h : i ≤ ns.length) : (sumsL ns).getD i 0 = psum ns i := by
  simp only [sumsL, List.getD, List.getElem?_map, List.getElem?_range (show i < ns.length + 1 by omega)]; rfl

theorem sums_spec {prog : Program} {w : World} {h : Heap} {fa l c : Addr} {vs : List Value} {ns : List Int} {n : Nat} {mg mb : Str → Option Value}
    (D : IsDef pw2 6 h fa .none .none c) (hc : CodeP h c) (G : Gl mg mb h)
    (hl : h.get? l = some (listOf vs.toArray n)) (hi : IntsAre vs ns) (hsz : ns.length < 1000) :
    Mine.Calls prog w 3 (.ref fa) ⟨[.ref l], []⟩ h (fun v h' => ∃ r vs' n', v = .ref r ∧ New h h' [(r, listOf vs'.toArray n')] ∧ IntsAre vs' (sumsL ns)) := by
  have hlv : vs.length = ns.length := hi.length
  refine IsDef.calls (binds := [("numbers", .ref l)]) D hc.rec' G.lim (fun name qual doc pm an ct s₀ t => BindsTo.of_eq rfl) rfl (locs rfl) ?_
  intro A s₀ t q L h₁ hr F
  have hh := hr.handled
  replace F := F.recall hl (NF.nt nofun)
  show wpAny _ _ (execs (_ :: _) _) _ _ _
  walk_at "go"
  refine listG F fun r h₂ _ F₂ => ?_
  walk_at "go"
  rename_i F₃
  refine iter_list_H _ F₃ hh (.head _) let_name (fun i m U => ∃ vs' n', m "sums" = some (.ref r) ∧ U = [(r, listOf vs'.toArray n')] ∧ IntsAre vs' ((List.range (i + 1)).map (psum ns)))
    ⟨_, _, rfl, rfl, .cons _ _ .nil⟩ ?_ ?_
  · rintro i v m U h' I o tk P hP hv ⟨vs', n', mr, rfl, hI⟩ F
    have hi' : i < ns.length := by rw [← hlv]; exact (List.getElem?_eq_some_iff.mp hv).1
    obtain ⟨tv, ev⟩ := ints_at hi (j := i) hi'
    rw [hv] at ev
    cases ev
    have hlI : ((List.range (i + 1)).map (psum ns)).length = i + 1 := by simp
    have hgI : ((List.range (i + 1)).map (psum ns)).getD i 0 = psum ns i := by simp [List.getD]
    refine wpAny_assign_Name (stL F (fun h₄ t₄ F₄ => ?_) rfl rfl)
    clear F
    walk_at "go"
    walk_at "last"
    walk_at "go"
    rename Fn _ _ _ _ _ _ _ => F₅
    refine appendG F₅ (fun h₆ F₆ => ?_) (by rw [hI.length, hlI, sizeLine_eq]; omega)
    walk_at "go"
    refine hP _ _ (TurnPost.next F₆ ⟨_, _, mr, rfl, ?_⟩)
    have hr2 : (List.range (i + 1 + 1)).map (psum ns) = (List.range (i + 1)).map (psum ns) ++ [psum ns (i + 1)] := by rw [List.range_succ, List.map_append]; rfl
    rw [hr2, hlI]
    rw [show i + 1 - 1 = i by omega, hgI]
    exact IntsAre.snoc hI
  · rintro m U h' t' ⟨vs', n', mr, rfl, hI⟩ F
    walk_at "go"
    refine Ret.mk F.keep ⟨r, _, _, rfl, F.newU, ?_⟩
    rw [hlv] at hI
    exact hI

/-- _law_hit -/
theorem hit_spec {prog : Program} {w : World} {h : Heap} {fa c : Addr} {i j : Int} {t u : Tok} {mg mb : Str → Option Value}
    (D : IsDef pw2 7 h fa .none .none c) (hc : CodeG h c) (GG : Gl mg mb h) :
    Mine.Calls prog w 2 (.ref fa) ⟨[.int i t, .int j u], []⟩ h (SearchPost prog w (some (i, j)) h) := by
  obtain ⟨name, qual, doc, pm, an, ct, oc, od, osl, e⟩ := D
  refine Calls.enter (binds := [("first", .int i t), ("behind", .int j u)]) e rfl hc.rec' GG.lim (fun s₀ t => BindsTo.of_eq rfl) ?_ rfl rfl rfl rfl
  intro A s₀ t q L h₁ hr F
  replace F : Fn h L (fun _ => none) [(L + 2, cellObj none), (L + 1, cellObj none)] [] [] h₁ := F
  refine stC (c := L + 1) F.swap rfl rfl (fun h₂ oP hoP F₂ => ?_) rfl rfl
  refine stC (c := L + 2) F₂.swap rfl rfl (fun h₃ oB hoB F₃ => ?_) rfl rfl
  refine ⟨h₃, _, rfl, F₃.keep, fun A hr => ?_⟩
  have hB0 : h.get? (L + 2) = none := (F₃.own _ (.head _)).2.2.1
  have hP0 : h.get? (L + 1) = none := (F₃.own _ (.tail _ (.head _))).2.2.1
  replace F₃ := F₃.freeze.freeze.recallC hc
  show wpAny _ _ (execs (_ :: _) _) _ _ _
  clear F F₂
  walk_at "go"
  refine lambdaU F₃ GG rfl (.head _) rfl rfl rfl fun fh ch cth doch pmh h₅ t₅ hfh k₅ F₅ => ?_
  clear F₃
  walk_at "go"
  rename Fn _ _ _ _ _ _ _ => F₆
  refine lambdaT F₆ GG rfl (.tail _ (.head _)) rfl rfl rfl fun fs cs cts docs pms h₇ t₇ hfs k₇ F₇ => ?_
  have hK6 := F₆.keep
  clear F₆ F₅
  walk_at "go"
  refine fn_setattr F₇ fn_span fun dd od h₈ t₈ hod F₈ => ?_
  walk_at "go"
  clear F₇
  refine Ret.mk F₈.keep ?_
  exact hitPost F₈ (hK6.gone hfs) (c1 := L + 1) (c2 := L + 2) (o1 := oP) (o2 := oB) (by walk_at "mem") hP0 (by walk_at "mem") hB0 hod hoP hoB rfl rfl rfl rfl rfl (fun _ => rfl) (fun _ _ _ _ _ => rfl) (fun _ _ _ _ _ => rfl) rfl rfl rfl rfl
theorem let_pair {prog : Program} {w : World} {A : Around} {T : List (Addr × Obj)} {l : Addr} {vs : List Value} {K : List (Nat × Nat)} (tab : Tab T vs (prs K)) {es : List Expr} {k : Nat} {p : Pos} : ∀ I i v s Q, s.heap.IsListIter I l i → v ∈ vs → Q () s → wpAny (model prog w) A (letOwnedTupleGo (.Tuple es k p) (.ref I) v) Q NoE s := fun I i v s Q hit hv hq => by
  obtain ⟨j, hj, rfl⟩ := List.mem_iff_getElem.mp hv
  have htl := tab.1
  rw [prs_len] at htl
  obtain ⟨a, t, u, e, m⟩ := tab_pair tab (p := j) (by omega)
  rw [List.getElem?_eq_getElem hj] at e
  rw [Option.some.inj e]
  exact wpAny_letOwnedTupleGo_listiter hit hq


theorem Fn.perm {h₀ h : Heap} {L : Addr} {m : Str → Option Value} {U U' T : List (Addr × Obj)} {C : List Addr} (F : Fn h₀ L m U T C h) (e : U.Perm U') : Fn h₀ L m U' T C h :=
  { F with
    own := fun p hp => F.own p (e.mem_iff.mpr hp)
    sep := fun p hp => F.sep p (e.mem_iff.mpr hp)
    nodup := (e.map _).nodup_iff.mp F.nodup }
theorem SearchPost.before {prog : Program} {w : World} {r : Option (Int × Int)} {g h h' : Heap} {v : Value} (k : Keep g h) (x : SearchPost prog w r h v h') : SearchPost prog w r g v h' := by
  cases r with
  | none => exact x
  | some ij => obtain ⟨f, N, Cs, e, a, b, c⟩ := x; exact ⟨f, N, Cs, e, a.before k, b, c⟩

/-- what search of law 2's prog answers on the list K -/
def SP (ss : List Int) (K : List (Nat × Nat)) (low high : Int) (even : Bool) (S : Int → Option (Int × Int)) : Prop := ∀ k p : Nat, k ≤ p → (∀ q, k ≤ q → q < p → q < K.length ∧ low ≤ ss.getD (lo K q) 0) → (p < K.length → ss.getD (lo K p) 0 < low) →
  S k = if p < K.length then some ((p : Int), if ss.getD (hi K p) 0 < high then (p : Int) + 1 else p) else if even = true then some ((p : Int), (p : Int)) else none
structure G2 (mg mb : Str → Option Value) (fh ch : Addr) (h : Heap) : Prop where
  gl : Gl mg mb h
  ht : IsDef pw2 7 h fh .none .none ch
  cp : CodeG h ch
theorem G2.kept {mg mb : Str → Option Value} {fh ch : Addr} {h h' : Heap} (x : G2 mg mb fh ch h) (k : Keep h h') : G2 mg mb fh ch h' :=
  ⟨x.gl.kept k, x.ht.kept k, k.code _ x.cp⟩

def nestOf (i : Nat) : Arguments × List Stmt × Scope := match ((FD pw2 i).2.1[0]? : Option Stmt) with
  | some (.FunctionDef _ a b _ _ _ sc _ _ _) => (a, b, sc)
  | _ => (⟨[], [], none, [], [], none, []⟩, [], { kind := .function, names := [], isGenerator := false, isCoroutine := false })

section
variable {prog : Program} {w : World} {A : Around} {E : Value → Shared → Prop} {s : Shared} {Q : Value → Shared → Prop}
theorem item0 {value slice : Expr} {a : Addr} {i : Int} {t u : Tok} {r : List Value} {rs : List Int} (ho : s.heap.get? a = some (kdv_tup (.int i t :: r))) (hr : IntsAre r rs) (hb : rs.length < 50)
    (h : ∀ t, Q (.int i t) s)
    (hs : subscripted slice false (.ref a) (.int 0 u) = operate [.ref a, .int 0 u] (getItem (.ref a) (.int 0 u)) := by with_unfolding_all rfl) :
    wpAny (model prog w) A (subscriptTail value slice (.ref a) (.int 0 u)) Q E s := itemTT (row := i :: rs) ho (.cons _ _ hr) (by omega) (by simp only [List.length_cons]; omega) (by simp only [List.length_cons]; omega) h hs
theorem item1 {value slice : Expr} {a : Addr} {i j : Int} {t u v : Tok} {r : List Value} {rs : List Int} (ho : s.heap.get? a = some (kdv_tup (.int i t :: .int j u :: r))) (hr : IntsAre r rs) (hb : rs.length < 50)
    (h : ∀ t, Q (.int j t) s)
    (hs : subscripted slice false (.ref a) (.int 1 v) = operate [.ref a, .int 1 v] (getItem (.ref a) (.int 1 v)) := by with_unfolding_all rfl) :
    wpAny (model prog w) A (subscriptTail value slice (.ref a) (.int 1 v)) Q E s := itemTT (row := i :: j :: rs) ho (.cons _ _ (.cons _ _ hr)) (by omega) (by simp only [List.length_cons]; omega) (by simp only [List.length_cons]; omega) h hs
theorem item2 {value slice : Expr} {a : Addr} {i j k : Int} {t u v x : Tok} (ho : s.heap.get? a = some (kdv_tup [.int i t, .int j u, .int k v]))
    (h : ∀ t, Q (.int k t) s)
    (hs : subscripted slice false (.ref a) (.int 2 x) = operate [.ref a, .int 2 x] (getItem (.ref a) (.int 2 x)) := by with_unfolding_all rfl) :
    wpAny (model prog w) A (subscriptTail value slice (.ref a) (.int 2 x)) Q E s := itemTT (row := [i, j, k]) ho (.cons _ _ (.cons _ _ (.cons _ _ .nil))) (by omega) (by show (2 : Int) < 3; omega) (by show 3 < 100; omega) h hs
/-- a stretch of a list of stretches -/
theorem itemPr {value slice : Expr} {T : List (Addr × Obj)} {l : Addr} {vs : List Value} {n : Nat} {K : List (Nat × Nat)} {k : Int} {u : Tok} (ho : s.heap.get? l = some (listOf vs.toArray n)) (tab : Tab T vs (prs K)) (hT : ∀ p ∈ T, s.heap.get? p.1 = some p.2) (h0 : 0 ≤ k) (h1 : k < K.length) (hb : K.length < 2 ^ 62)
    (h : ∀ a t u, (a, kdv_tup [.int (lo K k.toNat) t, .int (hi K k.toNat) u]) ∈ T → vs[k.toNat]? = some (.ref a) → s.heap.get? a = some (kdv_tup [.int (lo K k.toNat) t, .int (hi K k.toNat) u]) → Q (.ref a) s)
    (hs : subscripted slice false (.ref l) (.int k u) = operate [.ref l, .int k u] (getItem (.ref l) (.int k u)) := by with_unfolding_all rfl) :
    wpAny (model prog w) A (subscriptTail value slice (.ref l) (.int k u)) Q E s := by
  obtain ⟨a, t, u, e, m⟩ := tab_pair tab (p := k.toNat) (by omega)
  have htl := tab.1
  rw [prs_len] at htl
  refine anyBase (itemV ho h0 (by omega) (by omega) (fun v hv => ?_) hs (fun _ => rfl))
  rw [e] at hv; cases hv
  exact h a t u m e (hT _ m)
end
theorem Fn.getAll {h₀ h : Heap} {L : Addr} {m : Str → Option Value} {U T : List (Addr × Obj)} {C : List Addr} (F : Fn h₀ L m U T C h) : ∀ p ∈ T, h.get? p.1 = some p.2 := fun p hp => (F.know p hp).1
theorem searchP_spec {prog : Program} {w : World} {h : Heap} {f c ls ce chi clw csm kl fh ch : Addr} {name qual : Str} {oe oh ol os : Obj} {dV doc pm ctv : Value} {svs kvs : List Value} {ss : List Int} {K : List (Nat × Nat)} {sn kn k : Nat} {TK : List (Addr × Obj)} {low high : Int} {even : Bool} {tl th tk : Tok} {S : Int → Option (Int × Int)} {mg mb : Str → Option Value} {args : List Value}
    (hlen : mg "len" = none) (hlen' : mb "len" = some (.builtin "len")) (hhit : mg "_law_hit" = some (.ref fh))
    (hI : IntsAre svs ss) (hsz : ss.length < 1000) (hKl : K.length < 1000) (hKs : ∀ p, p < K.length → lo K p < ss.length ∧ hi K p < ss.length) (tab : Tab TK kvs (prs K)) (hS : SP ss K low high even S)
    (hoe : oe.data = .cell (some (.bool even))) (hoh : oh.data = .cell (some (.int high th))) (hol : ol.data = .cell (some (.int low tl))) (hos : os.data = .cell (some (.ref ls)))
    (G : G2 mg mb fh ch h)
    (e : h.get? f = some (kdv_obj name qual (nestOf 8).1 (.stmts (nestOf 8).2.1) (nestOf 8).2.2 [("sums", csm), ("low", clw), ("high", chi), ("even", ce)] dV doc pm c ctv)) (hc : CodeG h c)
    (ee : h.get? ce = some oe) (eh : h.get? chi = some oh) (el : h.get? clw = some ol) (es : h.get? csm = some os) (els : h.get? ls = some (listOf svs.toArray sn)) (ek : h.get? kl = some (listOf kvs.toArray kn)) (eT : ∀ q ∈ TK, h.get? q.1 = some q.2 ∧ NT q.2)
    (hb : ∀ s₀ t, BindsTo (St s₀ h t) (kdv_fn name qual (nestOf 8).1 (.stmts (nestOf 8).2.1) (nestOf 8).2.2 [("sums", csm), ("low", clw), ("high", chi), ("even", ce)] dV doc pm (.ref c) ctv) ⟨args, []⟩ [("kept", .ref kl), ("place", .int k tk)]) :
    Mine.Calls prog w 4 (.ref f) ⟨args, []⟩ h (SearchPost prog w (S k) h) := by
  have hlv : svs.length = ss.length := hI.length
  have hkl : kvs.length = K.length := by rw [tab.1, prs_len]
  have nt : ∀ {o : Obj} {v}, o.data = .cell v → NT o := fun e => NF.nt fun vs q => by rw [e] at q; cases q
  refine Calls.enter e rfl hc.rec' G.gl.lim hb ?_ rfl rfl rfl rfl
  intro A s₀ t q L h₁ hr F
  replace F : Fn h L (fun _ => none) [] [] [] h₁ := F
  refine stL F (fun h₂ t₂ F₂ => ?_) rfl rfl
  refine stL F₂ (fun h₃ t₃ F₃ => ?_) rfl rfl
  refine ⟨h₃, _, rfl, F₃.keep, fun A hr => ?_⟩
  have hh := hr.handled
  have GG := G.gl
  replace F₃ := ((((((F₃.recallAll eT).recall ek (NF.nt nofun)).recall els (NF.nt nofun)).recall es (nt hos)).recall el (nt hol)).recall eh (nt hoh)).recall ee (nt hoe)
  clear F F₂
  generalize hTT : (ce, oe) :: (chi, oh) :: (clw, ol) :: (csm, os) :: (ls, listOf svs.toArray sn) :: (kl, listOf kvs.toArray kn) :: (TK ++ []) = TT at F₃
  have mE : (ce, oe) ∈ TT := by subst hTT; walk_at "mem"
  have mH : (chi, oh) ∈ TT := by subst hTT; walk_at "mem"
  have mL : (clw, ol) ∈ TT := by subst hTT; walk_at "mem"
  have mS : (csm, os) ∈ TT := by subst hTT; walk_at "mem"
  have mls : (ls, listOf svs.toArray sn) ∈ TT := by subst hTT; walk_at "mem"
  have mkl : (kl, listOf kvs.toArray kn) ∈ TT := by subst hTT; walk_at "mem"
  have tab' : Tab TT kvs (prs K) := tab.mono fun p hp => by subst hTT; exact .tail _ (.tail _ (.tail _ (.tail _ (.tail _ (.tail _ (List.mem_append.mpr (.inl hp)))))))
  clear hTT
  show wpAny _ _ (execs (_ :: _) _) _ _ _
  refine wpAny_execs_cons ?_
  refine while_H (fun m' s => ∃ (h' : Heap) (t' : Nat) (m : Str → Option Value) (p : Nat) (tp : Tok), s = St s₀ h' t' ∧ Fn h L m [] TT [] h' ∧ m "kept" = some (.ref kl) ∧ m "place" = some (.int p tp) ∧ k ≤ p ∧ (∀ q, k ≤ q → q < p → q < K.length ∧ low ≤ ss.getD (lo K q) 0) ∧ m' = 1000 - p) (1000 - k)
    ⟨_, _, _, k, tk, rfl, F₃, rfl, rfl, Nat.le_refl _, fun q h1 h2 => by omega, rfl⟩ ?_
  clear F₃
  rintro _ s N D hN hD ⟨h', t', m, p, tp, rfl, F, mk, mp, hkp, hpre, rfl⟩
  have stop : (¬ p < K.length ∨ ss.getD (lo K p) 0 < low) → ∀ t', wpAny (model prog w) A (execs ((nestOf 8).2.1.drop 1) (envX q (nestOf 8).2.2 L f (.ref c) [("sums", csm), ("low", clw), ("high", chi), ("even", ce)])) (Ret s₀ h (SearchPost prog w (S k) h)) NoE (St s₀ h' t') := by
    intro hst t'
    have hSk := hS k p hkp hpre fun hp => hst.elim (fun n => absurd hp n) id
    show wpAny _ _ (execs (_ :: _) _) _ _ _
    walk_at "go"
    walk_at "len"
    walk_at "go"
    refine split_dec (fun hge => ?_) (fun hge => ?_)
    · rw [if_neg (by omega)] at hSk
      walk_at "go"
      refine ldF (c := ce) rfl (F.get mE) hoe ?_ rfl rfl
      walk_at "go"
      cases even with
      | true =>
        walk_at "go"
        refine callDef G.ht ?_
        walk_at "go"
        refine ⟨F.keep, ?_⟩
        refine callG (hit_spec (G.ht.kept F.keep) (F.keep.code _ G.cp) (GG.kept F.keep)) (hr.less (by omega)) ?_
        intro v h₈ t₈ k₈ hpost
        rw [if_pos rfl] at hSk
        rw [hSk]
        exact Ret.mk (F.keep.trans k₈) (hpost.before F.keep)
      | false =>
        walk_at "go"
        rw [if_neg (by decide)] at hSk
        rw [hSk]
        exact Ret.mk F.keep rfl
    · have hpK : p < K.length := by omega
      rw [if_pos hpK] at hSk
      walk_at "go"
      refine callDef G.ht ?_
      walk_at "go"
      refine ldF (c := csm) rfl (F.get mS) hos ?_ rfl rfl
      walk_at "go"
      refine itemPr (F.get mkl) tab' F.getAll (by omega) (by omega) (by omega) fun a ta tb ha hat hea => ?_
      rw [show (p : Int).toNat = p by omega] at hea
      walk_at "go"
      refine item1 hea .nil (by decide) fun t₁ => ?_
      walk_at "go"
      have hKp := hKs p hpK
      refine itemJ (k := (hi K p : Int)) (F.get mls) hI (by omega) (by omega) (by omega) fun t₂ => ?_
      walk_at "go"
      refine ldF (c := chi) rfl (F.get mH) hoh ?_ rfl rfl
      walk_at "go"
      rw [show ((hi K p : Nat) : Int).toNat = hi K p by omega]
      have fin : ∀ (j : Int) t t', j = (if ss.getD (hi K p) 0 < high then (p : Int) + 1 else p) → wpAny (model prog w) A (call (.ref fh) [.int p tp, .int j t]) (fun v s' => Ret s₀ h (SearchPost prog w (S k) h) (.ret v) s') NoE (St s₀ h' t') := by
        intro j t t' hj
        refine callG (hit_spec (G.ht.kept F.keep) (F.keep.code _ G.cp) (GG.kept F.keep)) (hr.less (by omega)) ?_
        intro v h₈ t₈ k₈ hpost
        rw [hSk, ← hj]
        exact Ret.mk (F.keep.trans k₈) (hpost.before F.keep)
      refine split_dec (fun hlt => ?_) (fun hlt => ?_)
      · walk_at "go"
        exact ⟨F.keep, fin _ _ _ (by rw [if_pos hlt])⟩
      · walk_at "go"
        exact ⟨F.keep, fin _ _ _ (by rw [if_neg hlt])⟩
  walk_at "go"
  walk_at "len"
  walk_at "go"
  refine split_dec (fun hlt => ?_) (fun hlt => ?_)
  · walk_at "go"
    refine ldF (c := csm) rfl (F.get mS) hos ?_ rfl rfl
    walk_at "go"
    refine itemPr (F.get mkl) tab' F.getAll (by omega) (by omega) (by omega) fun a ta tb ha hat hea => ?_
    rw [show (p : Int).toNat = p by omega] at hea
    walk_at "go"
    refine item0 hea (.cons _ _ .nil) (by show 1 < 50; omega) fun t₁ => ?_
    walk_at "go"
    have hKp := hKs p (by omega)
    refine itemJ (k := (lo K p : Int)) (F.get mls) hI (by omega) (by omega) (by omega) fun t₂ => ?_
    walk_at "go"
    refine ldF (c := clw) rfl (F.get mL) hol ?_ rfl rfl
    walk_at "go"
    rw [show ((lo K p : Nat) : Int).toNat = lo K p by omega]
    refine split_dec (fun hge => ?_) (fun hge => ?_)
    · walk_at "go"
      rename Fn _ _ _ _ _ _ _ => F₄
      refine hN _ ⟨1000 - (p + 1), by omega, _, _, _, p + 1, _, rfl, F₄, mk, rfl, by omega, fun q h1 h2 => ?_, rfl⟩
      by_cases e : q = p
      · subst e; exact ⟨by omega, by omega⟩
      · exact hpre q h1 (by omega)
    · walk_at "gs"
      refine hD _ _ ?_
      exact stop (.inr (by omega)) _
  · walk_at "gs"
    refine hD _ _ ?_
    exact stop (.inl (by omega)) _

theorem progP_spec {prog : Program} {w : World} {h : Heap} {fa c ls fh ch : Addr} {svs : List Value} {ss : List Int} {sn : Nat} {low high : Int} {even : Bool} {tl th : Tok} {mg mb : Str → Option Value}
    (D : IsDef pw2 8 h fa .none .none c) (hc : CodeG h c)
    (hlen : mg "len" = none) (hlen' : mb "len" = some (.builtin "len")) (hhit : mg "_law_hit" = some (.ref fh))
    (hI : IntsAre svs ss) (hsz : ss.length < 1000) (GG : Gl mg mb h) (els : h.get? ls = some (listOf svs.toArray sn)) :
    Mine.Calls prog w 2 (.ref fa) ⟨[.ref ls, .int low tl, .int high th, .bool even], []⟩ h (fun v h' => ∃ p N Cs, v = .ref p ∧ New h h' N ∧ (∀ c ∈ Cs, CodeG h' c) ∧
      ∀ (kl : Addr) (kvs : List Value) (kn : Nat) (K : List (Nat × Nat)) (TK : List (Addr × Obj)) (S : Int → Option (Int × Int)), K.length < 1000 → (∀ p, p < K.length → lo K p < ss.length ∧ hi K p < ss.length) → Tab TK kvs (prs K) → (∀ q ∈ TK, NT q.2) → SP ss K low high even S →
        Prog prog w (G2 mg mb fh ch) 4 (.ref kl) S p ((kl, listOf kvs.toArray kn) :: (ls, listOf svs.toArray sn) :: (TK ++ N)) Cs) := by
  obtain ⟨name, qual, doc, pm, an, ct, oc, od, osl, e⟩ := D
  refine Calls.enter (binds := [("sums", .ref ls), ("low", .int low tl), ("high", .int high th), ("even", .bool even)]) e rfl hc.rec' GG.lim (fun s₀ t => BindsTo.of_eq rfl) ?_ rfl rfl rfl rfl
  intro A s₀ t q L h₁ hr F
  replace F : Fn h L (fun _ => none) [(L + 4, cellObj none), (L + 3, cellObj none), (L + 2, cellObj none), (L + 1, cellObj none)] [] [] h₁ := F
  replace F : Fn h L (fun _ => none) [(L + 1, cellObj none), (L + 2, cellObj none), (L + 3, cellObj none), (L + 4, cellObj none)] [] [] h₁ := F.perm (List.reverse_perm [(L + 1, cellObj none), (L + 2, cellObj none), (L + 3, cellObj none), (L + 4, cellObj none)])
  have nt : ∀ {o : Obj} {v}, o.data = .cell v → NT o := fun e => NF.nt fun vs q => by rw [e] at q; cases q
  refine stC (c := L + 1) F rfl rfl (fun h₂ oS hoS F₂ => ?_) rfl rfl
  have hS0 : h.get? (L + 1) = none := (F₂.own _ (.head _)).2.2.1
  replace F₂ := F₂.freeze
  refine stC (c := L + 2) F₂ rfl rfl (fun h₃ oL hoL F₃ => ?_) rfl rfl
  have hL0 : h.get? (L + 2) = none := (F₃.own _ (.head _)).2.2.1
  replace F₃ := F₃.freeze
  refine stC (c := L + 3) F₃ rfl rfl (fun h₄ oH hoH F₄ => ?_) rfl rfl
  have hH0 : h.get? (L + 3) = none := (F₄.own _ (.head _)).2.2.1
  replace F₄ := F₄.freeze
  refine stC (c := L + 4) F₄ rfl rfl (fun h₅ oE hoE F₅ => ?_) rfl rfl
  have hE0 : h.get? (L + 4) = none := (F₅.own _ (.head _)).2.2.1
  replace F₅ := F₅.freeze
  refine ⟨h₅, _, rfl, F₅.keep, fun A hr => ?_⟩
  have hh := hr.handled
  replace F₅ := F₅.recallC hc
  show wpAny _ _ (execs (_ :: _) _) _ _ _
  clear F F₂ F₃ F₄
  walk_at "go"
  refine defT F₅ GG rfl (.head _) rfl rfl rfl fun f d c' ctv doc pm td h₆ t₆ hf hd k₆ F₆ => ?_
  have hf0 := F₅.keep.gone hf
  have hd0 := F₅.keep.gone hd
  clear F₅
  walk_at "go"
  rename Fn _ _ _ _ _ _ _ => F₇
  refine lambdaU F₇ GG rfl (.tail _ (.head _)) rfl rfl rfl fun fp cp' ctp docp pmp h₈ t₈ hfp k₈ F₈ => ?_
  clear F₇ F₆
  walk_at "go"
  rename Fn _ _ _ _ _ _ _ => F₉
  refine fn_setattr F₉ fn_search fun dd od h₁₀ t₁₀ hod F₁₀ => ?_
  walk_at "go"
  obtain ⟨N, hN, hsub, mk⟩ := progFin (prog := prog) (w := w) (Cs := [c']) F₁₀ hod (New.cons (F₁₀.get (.head _)) (NF.nt nofun) hf0 (New.cons (F₁₀.get (.tail _ (.head _))) (NF.nt nofun) hd0
    (New.cons (F₁₀.get (a := L + 1) (o := oS) (by walk_at "mem")) (nt hoS) hS0 (New.cons (F₁₀.get (a := L + 2) (o := oL) (by walk_at "mem")) (nt hoL) hL0 (New.cons (F₁₀.get (a := L + 3) (o := oH) (by walk_at "mem")) (nt hoH) hH0 (New.cons (F₁₀.get (a := L + 4) (o := oE) (by walk_at "mem")) (nt hoE) hE0 (New.nil _ _))))))) (.head _)
  refine Ret.mk F₁₀.keep ⟨fp, N, [c'], rfl, hN, fun c hc => by rw [List.mem_singleton.mp hc]; exact F₁₀.codes _ (by walk_at "mem"), fun kl kvs kn K TK S hKl hKs tab hTN hS => ?_⟩
  have core : ∀ (k : Nat) (tk : Tok) (g : Heap) (args : List Value), Has ((kl, listOf kvs.toArray kn) :: (ls, listOf svs.toArray sn) :: (TK ++ N)) [c'] g → G2 mg mb fh ch g → (∀ qu s₀ t, (St s₀ g t).heap.get? d = some (kdv_tup [.int 0 td]) → BindsTo (St s₀ g t) (kdv_fn "search" qu (nestOf 8).1 (.stmts (nestOf 8).2.1) (nestOf 8).2.2 [("sums", L + 1), ("low", L + 2), ("high", L + 3), ("even", L + 4)] (.ref d) doc pm (.ref c') ctv) ⟨args, []⟩ [("kept", .ref kl), ("place", .int k tk)]) →
      Mine.Calls prog w 4 (.ref f) ⟨args, []⟩ g (SearchPost prog w (S k) g) := by
    intro k tk g args Hg Gg hb
    have inN : ∀ {q}, q ∈ N → g.get? q.1 = some q.2 := fun hq => Hg.obj _ (.tail _ (.tail _ (List.mem_append.mpr (.inr hq))))
    exact searchP_spec (TK := TK) (ce := L + 4) (chi := L + 3) (clw := L + 2) (csm := L + 1) hlen hlen' hhit hI hsz hKl hKs tab hS hoE hoH hoL hoS Gg (inN (hsub _ (.head _))) (Hg.code _ (.head _))
      (inN (q := (L + 4, oE)) (hsub _ (by walk_at "mem"))) (inN (q := (L + 3, oH)) (hsub _ (by walk_at "mem"))) (inN (q := (L + 2, oL)) (hsub _ (by walk_at "mem"))) (inN (q := (L + 1, oS)) (hsub _ (by walk_at "mem")))
      (Hg.obj (ls, _) (.tail _ (.head _))) (Hg.obj (kl, _) (.head _)) (fun q hq => ⟨Hg.obj _ (.tail _ (.tail _ (List.mem_append.mpr (.inl hq)))), hTN q hq⟩) fun s₀ t => hb _ s₀ t (inN (q := (d, kdv_tup [.int 0 td])) (hsub _ (by walk_at "mem")))
  refine mk (R := (kl, _) :: (ls, _) :: (TK ++ N)) (fun q hq => .tail _ (.tail _ (List.mem_append.mpr (.inr hq)))) (fun g Hg Gg => ?_) fun k t g hk Hg Gg => ?_
  · exact core 0 td g _ Hg Gg fun qu s₀ t hdd => BindsTo.of_defaults rfl hdd rfl rfl rfl
  · obtain ⟨k', rfl⟩ : ∃ k' : Nat, k = k' := ⟨k.toNat, by omega⟩
    exact core k' t g _ Hg Gg fun qu s₀ t hdd => BindsTo.of_defaults rfl hdd rfl rfl rfl


/-! ### the key lambdas -/
section
variable {prog : Program} {w : World} {h : Heap} {f b c : Addr} {x qual : Str} {scope : Scope} {ph p1 p2 p3 p4 : Pos} {kk : Nat} {doc pm ctv : Value}
structure KeyOk (h : Heap) (f b c : Addr) (x qual : Str) (scope : Scope) (ph : Pos) (body : Expr) (doc pm ctv : Value) : Prop where
  e : h.get? f = some (kdv_obj "<lambda>" qual ⟨[], [⟨x, none, ph⟩], none, [], [], none, []⟩ (.expr body) scope [] .none doc pm c ctv)
  hc : ∃ q, h.CodeRec (.ref c) q
  lim : h.NoLimit
  hb : ∀ s₀ t, BindsTo (St s₀ h t) (kdv_fn "<lambda>" qual ⟨[], [⟨x, none, ph⟩], none, [], [], none, []⟩ (.expr body) scope [] .none doc pm (.ref c) ctv) ⟨[.ref b], []⟩ [(x, .ref b)]
  hk : scope.kind = .function
  hco : scope.isCoroutine = false
  hgen : scope.isGenerator = false
  hcells : ∀ L, cellsFrom L scope.names [] = []
  hx : ∀ q L a cd cl, (envX q scope L a cd cl).kindOf x = some .local
  hd : (x == ("__debug__" : Str)) = false
theorem key_enter {body : Expr} {P : Value → Heap → Prop} (K : KeyOk h f b c x qual scope ph body doc pm ctv)
    (run : ∀ (A : Around) (s₀ : Shared) (t : Nat) (q : Str) (L : Addr) (h₁ : Heap) (m : Str → Option Value), Fn h L m [] [] [] h₁ → m x = some (.ref b) → wpAny (model prog w) A (eval body (envX q scope L f (.ref c) [])) (fun v => Ret s₀ h P (.ret v)) NoE (St s₀ h₁ t)) :
    Mine.Calls prog w 1 (.ref f) ⟨[.ref b], []⟩ h P := by
  refine Calls.enter (binds := [(x, .ref b)]) K.e rfl K.hc K.lim K.hb ?_ rfl rfl K.hco K.hgen
  intro A s₀ t q L h₁ hr F
  rw [show cellsFrom (L + 1) (kdv_fn "<lambda>" qual ⟨[], [⟨x, none, ph⟩], none, [], [], none, []⟩ (.expr body) scope [] .none doc pm (.ref c) ctv).scope.names [] = [] from K.hcells _] at F ⊢
  refine stL F (fun h₂ t₂ F₂ => ?_) K.hk (K.hx ..)
  exact ⟨h₂, t₂, rfl, F₂.keep, fun A hr => run A s₀ t₂ q L h₂ _ F₂ (if_pos rfl)⟩
theorem key0 {i : Int} {t : Tok} {r : List Value} {rs : List Int} (K : KeyOk h f b c x qual scope ph (.Subscript (.Name x p1) (.Constant (.int 0) kk p2) p3) doc pm ctv) (eb : h.get? b = some (kdv_tup (.int i t :: r))) (hr : IntsAre r rs) (hl : rs.length < 50) :
    Mine.Calls prog w 1 (.ref f) ⟨[.ref b], []⟩ h (fun v _ => ∃ t, v = .int i t) := by
  refine key_enter K fun A s₀ t q L h₁ m F mx => ?_
  have F₃ := F.recall eb (NF.nt nofun)
  refine Subscript_ ?_
  refine ldL F₃ mx ?_ K.hk (K.hx ..) K.hd
  walk_at "go"
  refine item0 (F₃.get (.head _)) hr hl fun t₅ => ?_
  exact Ret.mk F₃.keep ⟨_, rfl⟩
theorem key1 {i j : Int} {t u : Tok} {r : List Value} {rs : List Int} (K : KeyOk h f b c x qual scope ph (.Subscript (.Name x p1) (.Constant (.int 1) kk p2) p3) doc pm ctv) (eb : h.get? b = some (kdv_tup (.int i t :: .int j u :: r))) (hr : IntsAre r rs) (hl : rs.length < 50) :
    Mine.Calls prog w 1 (.ref f) ⟨[.ref b], []⟩ h (fun v _ => ∃ t, v = .int j t) := by
  refine key_enter K fun A s₀ t q L h₁ m F mx => ?_
  have F₃ := F.recall eb (NF.nt nofun)
  refine Subscript_ ?_
  refine ldL F₃ mx ?_ K.hk (K.hx ..) K.hd
  walk_at "go"
  refine item1 (F₃.get (.head _)) hr hl fun t₅ => ?_
  exact Ret.mk F₃.keep ⟨_, rfl⟩
theorem keyN {i j : Int} {t u : Tok} {r : List Value} {rs : List Int} (K : KeyOk h f b c x qual scope ph (.UnaryOp .USub (.Subscript (.Name x p1) (.Constant (.int 1) kk p2) p3) p4) doc pm ctv) (eb : h.get? b = some (kdv_tup (.int i t :: .int j u :: r))) (hr : IntsAre r rs) (hl : rs.length < 50) :
    Mine.Calls prog w 1 (.ref f) ⟨[.ref b], []⟩ h (fun v _ => ∃ t, v = .int (-j) t) := by
  refine key_enter K fun A s₀ t q L h₁ m F mx => ?_
  have F₃ := F.recall eb (NF.nt nofun)
  refine UnaryOp_ ?_
  refine Subscript_ ?_
  refine ldL F₃ mx ?_ K.hk (K.hx ..) K.hd
  walk_at "go"
  refine item1 (F₃.get (.head _)) hr hl fun t₅ => ?_
  walk_at "go"
  exact Ret.mk F₃.keep ⟨_, rfl⟩
end


def nxt (P : Nat → Bool) : Nat → Nat → Nat
  | 0, k => k
  | f + 1, k => if P k then k else nxt P f (k + 1)
theorem nxt_spec (P : Nat → Bool) : ∀ f k, k ≤ nxt P f k ∧ nxt P f k ≤ k + f ∧ (∀ q, k ≤ q → q < nxt P f k → P q = false) ∧ (nxt P f k < k + f → P (nxt P f k) = true)
  | 0, k => ⟨Nat.le_refl _, Nat.le_refl _, fun q h1 h2 => by simp only [nxt] at h2; omega, fun h => by simp only [nxt] at h; omega⟩
  | f + 1, k => by
    unfold nxt
    split
    · rename_i h
      exact ⟨Nat.le_refl _, by omega, fun q h1 h2 => by omega, fun _ => h⟩
    · rename_i h
      obtain ⟨h1, h2, h3, h4⟩ := nxt_spec P f (k + 1)
      refine ⟨by omega, by omega, fun q hq1 hq2 => ?_, fun hq => h4 (by omega)⟩
      by_cases e : q = k
      · subst e; simpa using h
      · exact h3 q (by omega) hq2
theorem nxt_eq {P : Nat → Bool} {n k p : Nat} (h1 : k ≤ p) (h2 : ∀ q, k ≤ q → q < p → q < n ∧ P q = false) (h3 : p < n → P p = true) : nxt P (n - k) k = p := by
  obtain ⟨a1, a2, a3, a4⟩ := nxt_spec P (n - k) k
  generalize nxt P (n - k) k = r at *
  rcases Nat.lt_trichotomy r p with h | h | h
  · have := h2 r a1 h
    have := a4 (by omega)
    simp_all
  · exact h
  · have hp := a3 p h1 h
    by_cases e : p < n
    · have := h3 e; simp_all
    · omega
def Sp (ss : List Int) (K : List (Nat × Nat)) (low high : Int) (even : Bool) (k : Int) : Option (Int × Int) :=
  let p := nxt (fun p => decide (ss.getD (lo K p) 0 < low)) (K.length - k.toNat) k.toNat
  if p < K.length then some ((p : Int), if ss.getD (hi K p) 0 < high then (p : Int) + 1 else p) else if even = true then some ((p : Int), (p : Int)) else none
theorem Sp.sp {ss : List Int} {K : List (Nat × Nat)} {low high : Int} {even : Bool} : SP ss K low high even (Sp ss K low high even) := by
  intro k p h1 h2 h3
  have e := nxt_eq (P := fun p => decide (ss.getD (lo K p) 0 < low)) (n := K.length) h1 (fun q hq1 hq2 => ⟨(h2 q hq1 hq2).1, decide_eq_false (by have := (h2 q hq1 hq2).2; omega)⟩) (fun h => decide_eq_true (h3 h))
  unfold Sp
  rw [Int.toNat_natCast, e]
theorem Sp.nonneg {ss : List Int} {K : List (Nat × Nat)} {low high : Int} {even : Bool} {k i j : Int} (h : Sp ss K low high even k = some (i, j)) : 0 ≤ i ∧ i ≤ j := by
  unfold Sp at h
  generalize nxt (fun p => decide (ss.getD (lo K p) 0 < low)) (K.length - k.toNat) k.toNat = p at h
  simp only at h
  split at h
  · cases h; constructor
    · omega
    · split <;> omega
  · split at h
    · cases h; exact ⟨by omega, Int.le_refl _⟩
    · cases h
def LastP (P : Nat → Prop) (f : Nat → Option (Int × Int)) (k col : Nat) (found res : Option (Int × Int)) : Prop :=
  ((∀ q, k ≤ q → q < col → ¬ P q) ∧ res = found) ∨ ∃ p, k ≤ p ∧ p < col ∧ P p ∧ (∀ q, p < q → q < col → ¬ P q) ∧ res = f p
theorem Sp.run {ss : List Int} {K : List (Nat × Nat)} {low high : Int} {even : Bool} {col : Nat} {res : Option (Int × Int)} (hc : col ≤ K.length) : ∀ (d k : Nat) (found : Option (Int × Int)), d = col - k → k ≤ col → LastP (fun p => ss.getD (lo K p) 0 < low) (fun p => some ((p : Int), if ss.getD (hi K p) 0 < high then (p : Int) + 1 else p)) k col found res →
    match Sp ss K low high even k with
    | none => res = found
    | some (i, j) => 0 ≤ i ∧ i ≤ j ∧ ∃ n, SR (Sp ss K low high even) col n i j found res := by
  intro d
  induction d using Nat.strongRecOn with
  | ind d ih =>
    intro k found hd hk hl
    obtain ⟨a1, a2, a3, a4⟩ := nxt_spec (fun p => decide (ss.getD (lo K p) 0 < low)) (K.length - k) k
    generalize hp : nxt (fun p => decide (ss.getD (lo K p) 0 < low)) (K.length - k) k = p at *
    have hS : Sp ss K low high even k = if p < K.length then some ((p : Int), if ss.getD (hi K p) 0 < high then (p : Int) + 1 else p) else if even = true then some ((p : Int), (p : Int)) else none := by
      unfold Sp
      rw [Int.toNat_natCast, hp]
    have no : ∀ q, k ≤ q → q < p → ¬ ss.getD (lo K q) 0 < low := fun q h1 h2 => by simpa using a3 q h1 h2
    have stop : col ≤ p → res = found := fun h => by
      rcases hl with ⟨_, e⟩ | ⟨q, h1, h2, h3, _⟩
      · exact e
      · exact absurd h3 (no q h1 (by omega))
    by_cases hpn : p < K.length
    · have hP : ss.getD (lo K p) 0 < low := by simpa using a4 (by omega)
      rw [if_pos hpn] at hS
      rw [hS]
      generalize hj : (if ss.getD (hi K p) 0 < high then (p : Int) + 1 else p) = j at *
      have hj' : j = p ∨ j = p + 1 := by split at hj <;> omega
      refine ⟨by omega, by omega, ?_⟩
      by_cases hpc : p < col
      · have hn : nextAt p j = ((p + 1 : Nat) : Int) := by unfold nextAt; split <;> omega
        have hl' : LastP (fun p => ss.getD (lo K p) 0 < low) (fun p => some ((p : Int), if ss.getD (hi K p) 0 < high then (p : Int) + 1 else p)) (p + 1) col (some ((p : Int), j)) res := by
          rcases hl with ⟨h, _⟩ | ⟨q, h1, h2, h3, h4, h5⟩
          · exact absurd hP (h p a1 hpc)
          · rcases Nat.lt_trichotomy q p with e | e | e
            · exact absurd hP (h4 p e hpc)
            · subst e
              exact .inl ⟨fun r h1 h2 => h4 r (by omega) h2, by rw [h5]; simp only [hj]⟩
            · exact .inr ⟨q, by omega, h2, h3, h4, h5⟩
        have z := ih (col - (p + 1)) (by omega) (p + 1) (some ((p : Int), j)) rfl (by omega) hl'
        cases hS' : Sp ss K low high even ((p + 1 : Nat) : Int) with
        | none =>
          rw [hS'] at z
          rw [z]
          exact ⟨0, .last (by omega) (by omega) (by rw [hn]; exact hS')⟩
        | some ij =>
          obtain ⟨i', j'⟩ := ij
          rw [hS'] at z
          obtain ⟨_, _, n, z⟩ := z
          exact ⟨n + 1, .step (by omega) (by omega) (by rw [hn]; exact hS') z⟩
      · rw [stop (by omega)]
        exact ⟨0, .stop (by omega)⟩
    · rw [if_neg hpn] at hS
      have e := stop (by omega)
      by_cases he : even = true
      · rw [if_pos he] at hS
        rw [hS, e]
        exact ⟨by omega, Int.le_refl _, 0, .stop (by omega)⟩
      · rw [if_neg he] at hS
        rw [hS]; exact e
/-- the last place below col at which P holds -/
theorem last_dec (P : Nat → Prop) [DecidablePred P] : ∀ col : Nat, (∀ q, q < col → ¬ P q) ∨ ∃ p, p < col ∧ P p ∧ ∀ q, p < q → q < col → ¬ P q
  | 0 => .inl fun q h => by omega
  | col + 1 => by
    by_cases e : P col
    · exact .inr ⟨col, by omega, e, fun q h1 h2 => by omega⟩
    · rcases last_dec P col with h | ⟨p, h1, h2, h3⟩
      · refine .inl fun q hq => ?_
        by_cases e' : q = col
        · subst e'; exact e
        · exact h q (by omega)
      · refine .inr ⟨p, by omega, h2, fun q hq1 hq2 => ?_⟩
        by_cases e' : q = col
        · subst e'; exact e
        · exact h3 q hq1 (by omega)

structure Glob2 (h : Heap) (mg mb : Str → Option Value) (tD tK tD' tK' : Tok) (hsK hsK' : Int) : Prop where
  gl : Gl mg mb h
  len : mg "len" = none
  len' : mb "len" = some (.builtin "len")
  rng : mg "range" = none
  rng' : mb "range" = some (.type "range")
  nsr : mg "search_reverse" = some (.ref 39)
  nbr : mg "bisect_right" = some (.ref 23)
  nbl : mg "bisect_left" = some (.ref 32)
  nsu : mg "_law_sums" = some (.ref 46)
  nht : mg "_law_hit" = some (.ref 53)
  npr : mg "_law_prog" = some (.ref 60)
  nlb : mg "_law_looking_back" = some (.ref 67)
  nha : mg "_law_halving" = some (.ref 74)
  nfu : mg "_law_full" = some (.ref 81)
  nli : mg "_law_line" = some (.ref 88)
  nru : mg "_law_runs" = some (.ref 95)
  dbr : IsDef pw2 1 h 23 (.ref 15) (.ref 16) 22
  cbr : CodeP h 22
  kbr : (KDr tD tK hsK).In h
  dbl : IsDef pw2 2 h 32 (.ref 24) (.ref 25) 31
  cbl : CodeP h 31
  kbl : (KDl tD' tK' hsK').In h
  dsr : IsDef pw2 4 h 39 .none .none 38
  csr : CodeP h 38
  dsu : IsDef pw2 6 h 46 .none .none 45
  csu : CodeP h 45
  dht : IsDef pw2 7 h 53 .none .none 52
  cht : CodeG h 52
  dpr : IsDef pw2 8 h 60 .none .none 59
  cpr : CodeG h 59
  dlb : IsDef pw2 9 h 67 .none .none 66
  clb : CodeP h 66
  dha : IsDef pw2 10 h 74 .none .none 73
  cha : CodeG h 73
  dfu : IsDef pw2 11 h 81 .none .none 80
  cfu : CodeP h 80
  dli : IsDef pw2 12 h 88 .none .none 87
  cli : CodeP h 87
  dru : IsDef pw2 13 h 95 .none .none 94
  cru : CodeG h 94
theorem KDl.nt {t t' : Tok} {hs : Int} : ∀ a o, (KDl t t' hs).lookup a = some o → NT o := fun a o e => by
  simp only [List.lookup] at e
  split at e
  · cases e; exact NF.nt nofun
  · split at e
    · cases e; exact NF.nt nofun
    · cases e
theorem KDr.nt {t t' : Tok} {hs : Int} : ∀ a o, (KDr t t' hs).lookup a = some o → NT o := fun a o e => by
  simp only [List.lookup] at e
  split at e
  · cases e; exact NF.nt nofun
  · split at e
    · cases e; exact NF.nt nofun
    · cases e
theorem In.kept {K : Frag} {h h' : Heap} (x : K.In h) (k : Keep h h') (hn : ∀ a o, K.lookup a = some o → NT o) : K.In h' := fun a o e => k.obj _ _ (x a o e) (hn a o e)
theorem Glob2.kept {h h' : Heap} {mg mb : Str → Option Value} {tD tK tD' tK' : Tok} {hsK hsK' : Int} (X : Glob2 h mg mb tD tK tD' tK' hsK hsK') (k : Keep h h') : Glob2 h' mg mb tD tK tD' tK' hsK hsK' :=
  ⟨X.gl.kept k, X.len, X.len', X.rng, X.rng', X.nsr, X.nbr, X.nbl, X.nsu, X.nht, X.npr, X.nlb, X.nha, X.nfu, X.nli, X.nru, X.dbr.kept k, X.cbr.kept k, In.kept X.kbr k KDr.nt, X.dbl.kept k, X.cbl.kept k, In.kept X.kbl k KDl.nt,
   X.dsr.kept k, X.csr.kept k, X.dsu.kept k, X.csu.kept k, X.dht.kept k, k.code _ X.cht, X.dpr.kept k, k.code _ X.cpr, X.dlb.kept k, X.clb.kept k, X.dha.kept k, k.code _ X.cha, X.dfu.kept k, X.cfu.kept k, X.dli.kept k, X.cli.kept k, X.dru.kept k, k.code _ X.cru⟩


theorem Fn.weak {h₀ h : Heap} {L : Addr} {m : Str → Option Value} {U T T' : List (Addr × Obj)} {C C' : List Addr} (F : Fn h₀ L m U T C h) (hT : ∀ p ∈ T', p ∈ T) (hC : ∀ c ∈ C', c ∈ C) : Fn h₀ L m U T' C' h :=
  { F.sub hT with codes := fun c hc => F.codes c (hC c hc) }
/-- a list of stretches among the objects N -/
structure Kept (N : List (Addr × Obj)) (kl : Addr) (K : List (Nat × Nat)) (kvs : List Value) (kn : Nat) : Prop where
  mem : (kl, listOf kvs.toArray kn) ∈ N
  tab : Tab N kvs (prs K)

inductive LbI (s₀ : Shared) (h : Heap) (L : Addr) (U : List (Addr × Obj)) (ls : Addr) (svs : List Value) (sn : Nat) (kl : Addr) (ti : Tok) (i : Nat) (ss : List Int) (K : List (Nat × Nat)) (I : Addr) (o : Obj) (k' : Nat) (s : Shared) : Prop
  | mk (h' : Heap) (t' : Nat) (m : Str → Option Value) (first col : Nat) (mo : Bool) (tf tcl : Tok) (e : s = St s₀ h' t') (F : Fn h L m U [(I, o), (ls, listOf svs.toArray sn)] [] h') (ms : m "sums" = some (.ref ls)) (mk : m "kept" = some (.ref kl)) (mkk : m "k" = some (.int (1 + i) ti)) (mf : m "first" = some (.int first tf)) (mc : m "col" = some (.int col tcl)) (mm : m "more" = some (.bool mo))
    (Gr : Grow (fun j => ss.getD j 0) i K first col) (hst : mo = false → (∀ p, p < col → ss.getD first 0 ≤ ss.getD (lo K p) 0) ∨ ∃ p0, p0 < col ∧ (∀ q, p0 < q → q < col → ss.getD first 0 ≤ ss.getD (lo K q) 0) ∧ ss.getD (i + 1) 0 ≤ ss.getD (hi K p0) 0) (hk : k' = if mo = true then col + 1 else 0)
inductive LbJ (ls : Addr) (ss : List Int) (i : Nat) (m : Str → Option Value) (U : List (Addr × Obj)) : Prop
  | mk (kl : Addr) (K : List (Nat × Nat)) (kvs : List Value) (kn : Nat) (ms : m "sums" = some (.ref ls)) (mk : m "kept" = some (.ref kl)) (hK : Kept U kl K kvs kn) (M : MaxF (fun j => ss.getD j 0) i K)
theorem lb_spec {prog : Program} {w : World} {h : Heap} {ls : Addr} {svs : List Value} {ss : List Int} {sn n : Nat} {tD tK tD' tK' : Tok} {hsK hsK' : Int} {mg mb : Str → Option Value}
    (X : Glob2 h mg mb tD tK tD' tK' hsK hsK') (hI : IntsAre svs ss) (hn : ss.length = n + 1) (hsz : n < 100) (els : h.get? ls = some (listOf svs.toArray sn)) :
    Mine.Calls prog w 8 (.ref 67) ⟨[.ref ls], []⟩ h (fun v h' => ∃ kl K kvs kn N, v = .ref kl ∧ New h h' N ∧ Kept N kl K kvs kn ∧ MaxF (fun j => ss.getD j 0) n K) := by
  have hlv : svs.length = ss.length := hI.length
  have G := X.gl
  have hrg := X.rng
  have hrg' := X.rng'
  have hlen := X.len
  have hlen' := X.len'
  have nsr := X.nsr
  have npr := X.npr
  refine IsDef.calls (binds := [("sums", .ref ls)]) X.dlb X.clb.rec' G.lim (fun name qual doc pm an ct s₀ t => BindsTo.of_eq rfl) rfl (locs rfl) ?_
  intro A s₀ t q L h₁ hr F
  have hh := hr.handled
  replace F := F.recall els (NF.nt nofun)
  show wpAny _ _ (execs (_ :: _) _) _ _ _
  walk_at "go"
  refine listG F fun r h₂ _ F₂ => ?_
  clear F
  walk_at "go"
  walk_at "len"
  walk_at "go"
  rename_i R' ta tb tc h₃ t₃ hR F₃
  clear F₂
  refine iter_range_H F₃ hh hR (by omega) (by omega) (by omega) (by omega) (LbJ ls ss)
    ⟨r, [], [], 0, rfl, rfl, ⟨.head _, Tab.nil⟩, .start _⟩ ?_ ?_ rfl rfl
  · rintro i ti m U h' I o tk P hP hib ⟨kl, K, kvs, kn, ms, mk, hK, M⟩ F
    dsimp only
    clear F₃
    have hkl : kvs.length = K.length := by rw [hK.tab.1, prs_len]
    have hKi := M.small
    have mkl := hK.mem
    walk_at "go"
    refine itemJ (F.get (.tail _ (.head _))) hI (by omega) (by omega) (by omega) fun t₁ => ?_
    walk_at "go"
    refine itemJ (F.get (.tail _ (.head _))) hI (by omega) (by omega) (by omega) fun t₂ => ?_
    walk_at "go"
    have e1 : (1 + (i : Int)).toNat = i + 1 := by omega
    have e2 : (1 + (i : Int) - 1).toNat = i := by omega
    rw [e1, e2]
    refine split_dec (fun hgt => ?_) (fun hgt => ?_)
    · walk_at "go"
      walk_at "len"
      walk_at "go"
      rename Fn _ _ _ _ _ _ _ => F₅
      have e3 : (1 + (i : Int) - 1) = i := by omega
      rw [e3, hkl] at F₅
      refine while_H (LbI s₀ h L U ls svs sn kl ti i ss K I o) (K.length + 1)
        ⟨_, _, _, i, K.length, true, _, _, rfl, F₅, ms, mk, rfl, rfl, rfl, rfl, .start M (by omega), nofun, rfl⟩ ?_
      clear F F₅
      rintro _ s N D hN hD ⟨h', t', m, first, col, mo, tf, tcl, rfl, F, ms, mk, mkk, mf, mc, mm, Gr, hst, rfl⟩
      have hcl := Gr.cle
      have hfl := Gr.full.1
      walk_at "go"
      cases mo with
      | false =>
        walk_at "gs"
        refine hD _ _ ?_
        refine wpAny_execs_cons ?_
        walk_at "go"
        rename_i Fa
        refine sliceG Fa (Fa.getU mkl) .none (.int _ _) .none nofun ?_ (by show _ ≤ 16777216; omega)
        intro b h₆ _ F₆
        rw [pick_upto _ (by omega)] at F₆
        clear Fa F
        walk_at "go"
        refine tupU F₆ fun b₂ h₇ _ F₇ => ?_
        clear F₆
        walk_at "go"
        refine listG F₇ fun b₃ h₈ _ F₈ => ?_
        clear F₇
        walk_at "go"
        refine addLU F₈ (F₈.get (.head _)) (F₈.getU (.head _)) (fun r₂ h₉ _ F₉ => ?_) (by show _ ≤ 16777216; simp; omega)
        clear F₈
        walk_at "go"
        rename Fn _ _ _ _ _ _ _ => Fz
        refine hP _ _ (TurnPost.next (s := St s₀ h₃ t₃) (Fz.weak (T' := [(I, o), (ls, listOf svs.toArray sn)]) (fun p hp => .tail _ hp) (fun c hc => hc)) ⟨r₂, K.take col ++ [(first, i + 1)], _, _, ms, rfl, ⟨.head _, ?_⟩, Gr.stop M (hst rfl)⟩)
        have hp : prs (K.take col ++ [(first, i + 1)]) = (prs K).take col ++ [[(first : Int), 1 + (i : Int)]] := by
          simp only [prs, List.map_append, List.map_take, List.map_cons, List.map_nil]
          rw [show ((i + 1 : Nat) : Int) = 1 + i by omega]
        rw [hp]
        refine Tab.app ?_ (Tab.one (.tail _ (.tail _ (.head _))) (.cons _ _ (.cons _ _ .nil)))
        exact (hK.tab.take col).mono (fun p hp => .tail _ (.tail _ (.tail _ hp)))
      | true =>
        walk_at "gs"
        refine wpAny_execs_cons ?_
        walk_at "gs"
        refine callDef X.dpr ?_
        walk_at "gs"
        refine itemJ (k := (first : Int)) (F.get (.tail _ (.head _))) hI (by omega) (by omega) (by omega) fun t₅ => ?_
        walk_at "gs"
        refine itemJ (F.get (.tail _ (.head _))) hI (by omega) (by omega) (by omega) fun t₆ => ?_
        walk_at "gs"
        refine itemJ (F.get (.tail _ (.head _))) hI (by omega) (by omega) (by omega) fun t₇ => ?_
        walk_at "gs"
        refine itemJ (F.get (.tail _ (.head _))) hI (by omega) (by omega) (by omega) fun t₈ => ?_
        walk_at "gs"
        refine ⟨F.keep, ?_⟩
        generalize hev : ((ss.getD (1 + (i : Int)).toNat 0 - ss.getD (1 + (i : Int) - 1).toNat 0).fmod 2 == 0) = ev
        rw [e1, show (first : Int).toNat = first by omega]
        have X₁ := X.kept F.keep
        refine callG (progP_spec (fh := 53) (ch := 52) X₁.dpr X₁.cpr hlen hlen' X.nht hI (by omega) X₁.gl (F.get (.tail _ (.head _)))) (hr.less (by omega)) ?_
        rintro _ h₉ t₉ k₉ ⟨p, pN, pCs, rfl, hpN, hpC, hP⟩
        replace F := (F.learn k₉ hpN).learnAllC hpC
        walk_at "gs"
        refine wpAny_execs_cons ?_
        walk_at "gs"
        refine callDef X.dsr ?_
        walk_at "gs"
        rename Fn _ _ _ _ _ _ _ => F₆
        clear F
        refine ⟨F₆.keep, ?_⟩
        have X₂ := X.kept F₆.keep
        have hKs : ∀ p, p < K.length → lo K p < ss.length ∧ hi K p < ss.length := fun p hp => by
          have := M.le p hp
          have := (M.full p hp).1
          omega
        have hdec := last_dec (fun p => ss.getD (lo K p) 0 < ss.getD first 0) col
        obtain ⟨res, hres, hrc⟩ : ∃ res, LastP (fun p => ss.getD (lo K p) 0 < ss.getD first 0) (fun p => some ((p : Int), if ss.getD (hi K p) 0 < ss.getD (i + 1) 0 then (p : Int) + 1 else p)) 0 col none res ∧
            ((res = none ∧ ∀ q, q < col → ¬ ss.getD (lo K q) 0 < ss.getD first 0) ∨ ∃ p, p < col ∧ ss.getD (lo K p) 0 < ss.getD first 0 ∧ (∀ q, p < q → q < col → ¬ ss.getD (lo K q) 0 < ss.getD first 0) ∧ res = some ((p : Int), if ss.getD (hi K p) 0 < ss.getD (i + 1) 0 then (p : Int) + 1 else p)) := by
          rcases hdec with h | ⟨p, h1, h2, h3⟩
          · exact ⟨none, .inl ⟨fun q _ hq => h q hq, rfl⟩, .inl ⟨rfl, h⟩⟩
          · exact ⟨_, .inr ⟨p, Nat.zero_le _, h1, h2, h3, rfl⟩, .inr ⟨p, h1, h2, h3, rfl⟩⟩
        refine callG (sr_spec (GF := G2 mg mb 53 52) (d := 2) (x := .ref kl) (S := Sp ss K (ss.getD first 0) (ss.getD (i + 1) 0) ev) (T := (kl, listOf kvs.toArray kn) :: (ls, listOf svs.toArray sn) :: (U ++ pN)) (C := pCs) (res := res) X₂.dsr X₂.csr X₂.gl.lim ⟨X₂.gl, X₂.dht, X₂.cht⟩ (fun _ _ k x => x.kept k)
          (hP kl kvs kn K U _ (by omega) hKs hK.tab (fun q hq => (F₆.own q hq).2.1.nt) Sp.sp) ⟨fun q hq => ?_, fun c hc => F₆.codes c (List.mem_append.mpr (.inl hc))⟩ (fun q hq => ?_) (Sp.run hcl col 0 none rfl (by omega) hres) (fun _ _ _ _ h => Sp.nonneg h)) (hr.less (by omega)) ?_
        · rcases List.mem_cons.mp hq with rfl | hq
          · exact F₆.getU mkl
          · rcases List.mem_cons.mp hq with rfl | hq
            · exact F₆.get (List.mem_append.mpr (.inr (.tail _ (.head _))))
            · rcases List.mem_append.mp hq with hq | hq
              · exact F₆.getU hq
              · exact F₆.get (List.mem_append.mpr (.inl hq))
        · rcases List.mem_cons.mp hq with rfl | hq
          · exact NF.nt nofun
          · rcases List.mem_cons.mp hq with rfl | hq
            · exact NF.nt nofun
            · rcases List.mem_append.mp hq with hq | hq
              · exact (F₆.own q hq).2.1.nt
              · exact (hpN q hq).2.1
        intro v h₁₀ t₁₀ k₁₀ hpost
        rcases hrc with ⟨rfl, hno⟩ | ⟨p₀, hp0, hpl, hpm, rfl⟩
        · cases (show v = .none from hpost)
          replace F₆ := F₆.kept k₁₀
          walk_at "go"
          rename Fn _ _ _ _ _ _ _ => Fz
          refine hN _ ⟨0, by simp, _, _, _, first, col, false, _, _, rfl, Fz.weak (fun p hp => List.mem_append.mpr (.inr hp)) (fun c hc => nomatch hc), ms, mk, mkk, mf, mc, rfl, Gr, fun _ => .inl fun p hp => by have := hno p hp; omega, rfl⟩
        · obtain ⟨fh, sN', hCs, rfl, hnN, hnC, hH⟩ := hpost
          replace F₆ := (F₆.learn k₁₀ hnN).learnAllC hnC
          generalize hj : (if ss.getD (hi K p₀) 0 < ss.getD (i + 1) 0 then (p₀ : Int) + 1 else p₀) = j at hH
          have memL : ∀ {N M : List (Addr × Obj)} {q : Addr × Obj}, q ∈ N → q ∈ N ++ M := fun h => List.mem_append.mpr (.inl h)
          have memR : ∀ {N M : List (Addr × Obj)} {q : Addr × Obj}, q ∈ M → q ∈ N ++ M := fun h => List.mem_append.mpr (.inr h)
          have memLc : ∀ {N M : List Addr} {q : Addr}, q ∈ N → q ∈ N ++ M := fun h => List.mem_append.mpr (.inl h)
          walk_at "go"
          rename Fn _ _ _ _ _ _ _ => F₇
          refine spanG F₇ G.lim (hr.less (by omega)) (hH.mono (fun _ hq => memL hq) fun _ hq => memLc hq) fun a ta' tb' h₁₁ t₁₁ _ F₈ => ?_
          walk_at "go"
          refine item0 (F₈.get (.head _)) (.cons _ _ .nil) (by show 1 < 50; omega) fun t₁₂ => ?_
          walk_at "go"
          refine spanG F₈ G.lim (hr.less (by omega)) (hH.mono (fun _ hq => .tail _ (memL hq)) fun _ hq => memLc hq) fun a' ta₂ tb₂ h₁₂ t₁₂ _ F₉ => ?_
          walk_at "go"
          refine item1 (F₉.get (.head _)) .nil (by decide) fun t₁₃ => ?_
          walk_at "go"
          rename Fn _ _ _ _ _ _ _ => F₁₀
          refine split_dec (fun hlt => ?_) (fun hlt => ?_)
          · have hR : ss.getD (hi K p₀) 0 < ss.getD (i + 1) 0 := by
              by_cases e : ss.getD (hi K p₀) 0 < ss.getD (i + 1) 0
              · exact e
              · rw [if_neg e] at hj; omega
            walk_at "go"
            refine spanG F₁₀ G.lim (hr.less (by omega)) (hH.mono (fun _ hq => .tail _ (.tail _ (memL hq))) fun _ hq => memLc hq) fun a₃ ta₃ tb₃ h₁₄ t₁₄ _ F₁₁ => ?_
            walk_at "go"
            refine item0 (F₁₁.get (.head _)) (.cons _ _ .nil) (by show 1 < 50; omega) fun t₁₅ => ?_
            walk_at "go"
            rename Fn _ _ _ _ _ _ _ => F₁₂
            refine itemPr (F₁₂.getU mkl) hK.tab (fun q hq => F₁₂.getU hq) (by omega) (by omega) (by omega) fun a₄ ta₄ tb₄ _ _ hea => ?_
            walk_at "go"
            refine item0 hea (.cons _ _ .nil) (by show 1 < 50; omega) fun t₁₆ => ?_
            walk_at "go"
            rename Fn _ _ _ _ _ _ _ => Fz
            rw [show ((p₀ : Nat) : Int).toNat = p₀ by omega] at Fz
            refine hN _ ⟨p₀ + 1, by simp; omega, _, _, _, lo K p₀, p₀, true, _, _, rfl, Fz.weak (fun p hp => .tail _ (.tail _ (.tail _ (memR (memR hp))))) (fun c hc => nomatch hc), ms, mk, mkk, rfl, rfl, congrArg (fun b => some (Value.bool b)) (decide_eq_true hlt), Gr.merge M hp0 hpl (fun q h1 h2 => by have := hpm q h1 h2; omega) hR, nofun, rfl⟩
          · have hR : ¬ ss.getD (hi K p₀) 0 < ss.getD (i + 1) 0 := fun e => by
              rw [if_pos e] at hj; omega
            walk_at "go"
            refine hN _ ⟨0, by simp, _, _, _, first, col, false, _, _, rfl, F₁₀.weak (fun p hp => .tail _ (.tail _ (memR (memR hp)))) (fun c hc => nomatch hc), ms, mk, mkk, mf, mc, congrArg (fun b => some (Value.bool b)) (decide_eq_false hlt), Gr, fun _ => .inr ⟨p₀, hp0, fun q h1 h2 => by have := hpm q h1 h2; omega, by omega⟩, rfl⟩
    · walk_at "go"
      exact hP _ _ (TurnPost.next F ⟨kl, K, kvs, kn, ms, mk, hK, M.skip (by omega)⟩)
  · rintro m U h' t' ⟨kl, K, kvs, kn, ms, mk, hK, M⟩ F
    walk_at "go"
    refine Ret.mk F.keep ⟨kl, K, kvs, kn, U, rfl, F.newU, hK, ?_⟩
    rwa [show ((svs.length : Int) - 1).toNat = n by omega] at M


theorem Tab.nil' {T : List (Addr × Obj)} : Tab T [] (prs []) := Tab.nil
theorem prs_snoc {K : List (Nat × Nat)} {a b : Nat} : prs (K ++ [(a, b)]) = prs K ++ [[(a : Int), (b : Int)]] := by simp [prs]
inductive FuJ (ls r : Addr) (ss : List Int) (n i : Nat) (m : Str → Option Value) (U : List (Addr × Obj)) : Prop
  | mk (FL : List (Nat × Nat)) (fvs : List Value) (fn : Nat) (N : List (Addr × Obj)) (ms : m "sums" = some (.ref ls)) (mf : m "full" = some (.ref r)) (hU : U = (r, listOf fvs.toArray fn) :: N) (tab : Tab N fvs (prs FL)) (hl : FL.length ≤ i * 100) (hm : ∀ x : Nat × Nat, x ∈ FL ↔ Full (fun j => ss.getD j 0) x.1 x.2 ∧ x.2 ≤ n ∧ x.1 < i)
inductive FuK (ls r : Addr) (ss : List Int) (n i j : Nat) (m : Str → Option Value) (U : List (Addr × Obj)) : Prop
  | mk (FL : List (Nat × Nat)) (fvs : List Value) (fn : Nat) (N : List (Addr × Obj)) (ti : Tok) (top : Int) (tt : Tok) (ms : m "sums" = some (.ref ls)) (mf : m "full" = some (.ref r)) (ma : m "a" = some (.int i ti)) (mt : m "top" = some (.int top tt)) (hU : U = (r, listOf fvs.toArray fn) :: N) (tab : Tab N fvs (prs FL)) (hl : FL.length ≤ i * 100 + j)
    (hm : ∀ x : Nat × Nat, x ∈ FL ↔ Full (fun j => ss.getD j 0) x.1 x.2 ∧ x.2 ≤ n ∧ (x.1 < i ∨ x.1 = i ∧ x.2 ≤ i + j)) (h1 : ∀ c, i ≤ c → c ≤ i + j → ss.getD c 0 ≤ top) (h2 : ∃ c, i ≤ c ∧ c ≤ i + j ∧ ss.getD c 0 = top) (h3 : ∀ c, i < c → c ≤ i + j → ss.getD i 0 < ss.getD c 0)
theorem fu_spec {prog : Program} {w : World} {h : Heap} {ls : Addr} {svs : List Value} {ss : List Int} {sn n : Nat} {tD tK tD' tK' : Tok} {hsK hsK' : Int} {mg mb : Str → Option Value}
    (X : Glob2 h mg mb tD tK tD' tK' hsK hsK') (hI : IntsAre svs ss) (hn : ss.length = n + 1) (hsz : n < 100) (els : h.get? ls = some (listOf svs.toArray sn)) :
    Mine.Calls prog w 3 (.ref 81) ⟨[.ref ls], []⟩ h (fun v h' => ∃ fl FL fvs fn N, v = .ref fl ∧ New h h' N ∧ Kept N fl FL fvs fn ∧ FL.length < 20000 ∧ ∀ x, x ∈ FL ↔ Full (fun j => ss.getD j 0) x.1 x.2 ∧ x.2 ≤ n) := by
  have hlv : svs.length = ss.length := hI.length
  have G := X.gl
  have hrg := X.rng
  have hrg' := X.rng'
  have hlen := X.len
  have hlen' := X.len'
  refine IsDef.calls (binds := [("sums", .ref ls)]) X.dfu X.cfu.rec' G.lim (fun name qual doc pm an ct s₀ t => BindsTo.of_eq rfl) rfl (locs rfl) ?_
  intro A s₀ t q L h₁ hr F
  have hh := hr.handled
  replace F := F.recall els (NF.nt nofun)
  show wpAny _ _ (execs (_ :: _) _) _ _ _
  walk_at "go"
  refine listG F fun r h₂ _ F₂ => ?_
  clear F
  walk_at "go"
  walk_at "len"
  walk_at "go"
  rename_i R' ta tb tc h₃ t₃ hR F₃
  clear F₂
  refine iter_range_H F₃ hh hR (by omega) (by omega) (by omega) (by omega) (FuJ ls r ss n)
    ⟨[], [], 0, [], rfl, rfl, rfl, Tab.nil', Nat.zero_le _, fun x => ⟨fun h => by simp at h, fun h => by omega⟩⟩ ?_ ?_ rfl rfl
  · rintro i ti m U h' I o tk P hP hib ⟨FL, fvs, fn, N, ms, mf, rfl, tab, hFl, hFm⟩ F
    dsimp only
    rw [Int.zero_add] at F
    clear F₃
    walk_at "go"
    refine itemJ (k := (i : Int)) (F.get (.tail _ (.head _))) hI (by omega) (by omega) (by omega) fun t₁ => ?_
    walk_at "go"
    walk_at "len"
    walk_at "go"
    rename_i R₂ ta₂ tb₂ tc₂ h₄ t₄ hR₂ F₄
    clear F
    rw [show (i : Int).toNat = i by omega] at F₄
    refine iter_range_H F₄ hh hR₂ (by omega) (by omega) (by omega) (by omega) (FuK ls r ss n i)
      ⟨FL, fvs, fn, N, _, _, _, ms, mf, rfl, rfl, rfl, tab, hFl, fun x => ⟨fun h => ?_, fun h => ?_⟩, fun c h1 h2 => ?_, ⟨i, Nat.le_refl _, Nat.le_refl _, rfl⟩, fun c h1 h2 => by omega⟩ ?_ ?_ rfl rfl
    · have := (hFm x).mp h; exact ⟨this.1, this.2.1, .inl this.2.2⟩
    · refine (hFm x).mpr ⟨h.1, h.2.1, ?_⟩
      rcases h.2.2 with e | e
      · exact e
      · have := h.1.1; omega
    · have : c = i := by omega
      subst this; exact Int.le_refl _
    · clear ms mf tab hFl hFm F₄ hR hR₂
      rintro j tj m U h' I₂ o₂ tk P₂ hP₂ hjb ⟨FL, fvs, fn, N, ti, top, tt, ms, mf, ma, mt, rfl, tab, hFl, hFm, hT1, hT2, hT3⟩ F
      dsimp only
      have e1 : ((i : Int) + 1 + j).toNat = i + 1 + j := by omega
      walk_at "go"
      refine itemJ (k := (i : Int) + 1 + j) (F.get (a := ls) (o := listOf svs.toArray sn) (by walk_at "mem")) hI (by omega) (by omega) (by omega) fun t₅ => ?_
      walk_at "go"
      refine itemJ (k := (i : Int)) (F.get (a := ls) (o := listOf svs.toArray sn) (by walk_at "mem")) hI (by omega) (by omega) (by omega) fun t₆ => ?_
      walk_at "go"
      rw [e1, show (i : Int).toNat = i by omega]
      refine split_dec (fun hle => ?_) (fun hle => ?_)
      · walk_at "go"
        refine hP₂ _ _ ?_
        show wpAny _ _ (execs [] _) _ _ _
        refine wpAny_execs_nil ?_
        refine hP _ _ (TurnPost.next (s := St s₀ h₃ t₃) (F.weak (T' := [(I, o), (ls, listOf svs.toArray sn)]) (fun p hp => .tail _ hp) (fun c hc => hc)) ⟨FL, fvs, fn, N, ms, mf, rfl, tab, by omega, fun x => ⟨fun h => ?_, fun h => ?_⟩⟩)
        · have := (hFm x).mp h; exact ⟨this.1, this.2.1, by omega⟩
        · refine (hFm x).mpr ⟨h.1, h.2.1, ?_⟩
          by_cases e : x.1 < i
          · exact .inl e
          · have e2 : x.1 = i := by omega
            refine .inr ⟨e2, ?_⟩
            by_cases e3 : x.2 ≤ i + j
            · exact e3
            · have e4 : ss.getD i 0 < ss.getD (i + 1 + j) 0 := by
                have := h.1.2.1 (i + 1 + j) (by omega) (by omega)
                rwa [e2] at this
              omega
      · walk_at "go"
        refine itemJ (k := (i : Int) + 1 + j) (F.get (a := ls) (o := listOf svs.toArray sn) (by walk_at "mem")) hI (by omega) (by omega) (by omega) fun t₇ => ?_
        walk_at "go"
        rw [e1]
        refine split_dec (fun hgt => ?_) (fun hgt => ?_)
        · walk_at "go"
          refine tupU F fun b h₆ _ F₆ => ?_
          walk_at "go"
          refine appendG F₆.swap (fun h₇ F₇ => ?_) (by have := tab.1; simp at this; show _ ≤ 16777216; omega)
          clear F F₆
          walk_at "go"
          refine itemJ (k := (i : Int) + 1 + j) (F₇.get (a := ls) (o := listOf svs.toArray sn) (by walk_at "mem")) hI (by omega) (by omega) (by omega) fun t₇ => ?_
          walk_at "go"
          rename Fn _ _ _ _ _ _ _ => Fz
          rw [e1] at Fz
          refine hP₂ _ _ (TurnPost.next Fz ⟨FL ++ [(i, i + 1 + j)], _, _, _, _, _, _, ms, mf, ma, rfl, rfl, ?_, ?_, fun x => ⟨fun h => ?_, fun h => ?_⟩, fun c h1 h2 => ?_, ⟨i + 1 + j, by omega, by omega, rfl⟩, fun c h1 h2 => ?_⟩)
          · rw [prs_snoc]
            refine Tab.app (tab.mono fun p hp => .tail _ hp) (Tab.one (.head _) ?_)
            rw [show ((i + 1 + j : Nat) : Int) = (i : Int) + 1 + j by omega]
            exact .cons _ _ (.cons _ _ .nil)
          · rw [List.length_append, List.length_singleton]; omega
          · rcases List.mem_append.mp h with h | h
            · have := (hFm x).mp h; exact ⟨this.1, this.2.1, by omega⟩
            · rw [List.mem_singleton.mp h]
              refine ⟨⟨by show i < i + 1 + j; omega, fun c h1 h2 => ?_, fun c h1 h2 => ?_⟩, by show i + 1 + j ≤ n; omega, .inr ⟨rfl, by show i + 1 + j ≤ i + (j + 1); omega⟩⟩
              · by_cases e : c ≤ i + j
                · exact hT3 c h1 e
                · have : c = i + 1 + j := by simp only at h2; omega
                  subst this; show ss.getD i 0 < ss.getD (i + 1 + j) 0; omega
              · simp only at h1 h2
                have := hT1 c h1 (by omega)
                show ss.getD c 0 < ss.getD (i + 1 + j) 0
                omega
          · by_cases e : x.1 < i ∨ x.1 = i ∧ x.2 ≤ i + j
            · exact List.mem_append.mpr (.inl ((hFm x).mpr ⟨h.1, h.2.1, e⟩))
            · refine List.mem_append.mpr (.inr (List.mem_singleton.mpr (Prod.ext ?_ ?_)))
              · show x.1 = i; omega
              · show x.2 = i + 1 + j; omega
          · by_cases e : c ≤ i + j
            · have := hT1 c h1 e; omega
            · have : c = i + 1 + j := by omega
              subst this; exact Int.le_refl _
          · by_cases e : c ≤ i + j
            · exact hT3 c h1 e
            · have : c = i + 1 + j := by omega
              subst this; omega
        · walk_at "go"
          refine hP₂ _ _ (TurnPost.next F ⟨FL, _, _, _, ti, top, tt, ms, mf, ma, mt, rfl, tab, by omega, fun x => ⟨fun h => ?_, fun h => ?_⟩, fun c h1 h2 => ?_, ?_, fun c h1 h2 => ?_⟩)
          · have := (hFm x).mp h; exact ⟨this.1, this.2.1, by omega⟩
          · refine (hFm x).mpr ⟨h.1, h.2.1, ?_⟩
            by_cases e : x.1 < i ∨ x.1 = i ∧ x.2 ≤ i + j
            · exact e
            · have e2 : x.1 = i := by omega
              have e3 : x.2 = i + 1 + j := by omega
              obtain ⟨c, c1, c2, c3⟩ := hT2
              have e4 : ss.getD c 0 < ss.getD (i + 1 + j) 0 := by
                have := h.1.2.2 c (by omega) (by omega)
                rwa [e3] at this
              omega
          · by_cases e : c ≤ i + j
            · exact hT1 c h1 e
            · have : c = i + 1 + j := by omega
              subst this; omega
          · obtain ⟨c, c1, c2, c3⟩ := hT2
            exact ⟨c, c1, by omega, c3⟩
          · by_cases e : c ≤ i + j
            · exact hT3 c h1 e
            · have : c = i + 1 + j := by omega
              subst this; omega
    · rintro m U h₅ t₅ ⟨FL, fvs, fn, N, ti, top, tt, ms, mf, ma, mt, rfl, tab, hFl, hFm, _, _, _⟩ F
      walk_at "go"
      refine hP _ _ (TurnPost.next F ⟨FL, fvs, fn, N, ms, mf, rfl, tab, by omega, fun x => ⟨fun h => ?_, fun h => ?_⟩⟩)
      · have := (hFm x).mp h; exact ⟨this.1, this.2.1, by omega⟩
      · exact (hFm x).mpr ⟨h.1, h.2.1, by omega⟩
  · rintro m U h' t' ⟨FL, fvs, fn, N, ms, mf, rfl, tab, hFl, hFm⟩ F
    walk_at "go"
    refine Ret.mk F.keep ⟨r, FL, fvs, fn, _, rfl, F.newU, ⟨.head _, tab.mono fun p hp => .tail _ hp⟩, ?_, fun x => ⟨fun h => ?_, fun h => ?_⟩⟩
    · omega
    · have := (hFm x).mp h; exact ⟨this.1, this.2.1⟩
    · have := h.1.1; exact (hFm x).mpr ⟨h.1, h.2, by omega⟩


/-- r is the place that bisect_right tells among the first top -/
def BrTo (ks : List Int) (top : Nat) (x : Int) (r : Int) : Prop := 0 ≤ r ∧ r ≤ top ∧ (∀ i : Nat, (i : Int) < r → ks.getD i 0 ≤ x) ∧ ∀ i : Nat, r ≤ i → i < top → x < ks.getD i 0
theorem brk_run {prog : Program} {w : World} {h : Heap} {fa a c kf : Addr} {vs : List Value} {ks : List Int} {x : Int} {t t0 : Tok} {n d top : Nat} {mg mb : Str → Option Value} {ok : Obj} {fk : FuncData} {hv : Value} {args : Args}
    (D : IsDef pw2 1 h fa (.ref 15) (.ref 16) c) (hc : CodeP h c) (G : Gl mg mb h) (hlen : mg "len" = none) (hlen' : mb "len" = some (.builtin "len")) (hl : h.get? a = some (listOf vs.toArray n)) (hlv : vs.length = ks.length)
    (hsz' : vs.length < 2 ^ 62) (hso : ∀ i j : Nat, i ≤ j → j < top → ks.getD i 0 ≤ ks.getD j 0) (hkf : h.get? kf = some ok) (hkd : ok.data = .func fk) (hhv : hv = .none ∧ top = ks.length ∨ ∃ tv, hv = .int top tv ∧ top ≤ ks.length)
    (hb : ∀ name qual doc pm an ct s₀ t₁, BindsTo (St s₀ h t₁) (fnX name qual (FD pw2 1).1 (FD pw2 1).2.1 (FD pw2 1).2.2 [] (.ref 15) (.ref 16) doc pm an (.ref c) ct) args [("a", .ref a), ("x", .int x t), ("lo", .int 0 t0), ("hi", hv), ("key", .ref kf)])
    (hkey : ∀ (i : Nat) v h', vs[i]? = some v → Keep h h' → Mine.Calls prog w d (.ref kf) ⟨[v], []⟩ h' (fun r _ => ∃ t, r = .int (ks.getD i 0) t)) :
    Mine.Calls prog w (d + 1) (.ref fa) args h (fun v _ => ∃ r t, v = .int r t ∧ BrTo ks top x r) := by
  refine IsDef.calls (binds := [("a", .ref a), ("x", .int x t), ("lo", .int 0 t0), ("hi", hv), ("key", .ref kf)]) D hc.rec' G.lim hb rfl (locs rfl) ?_
  intro A s₀ t₁ q L h₁ hr F
  replace F := (F.recall hl (NF.nt nofun)).recall hkf (NF.nt fun vs e => by rw [hkd] at e; cases e)
  have htop : top ≤ ks.length := by
    rcases hhv with ⟨_, e⟩ | ⟨_, _, e⟩ <;> omega
  have core : ∀ (h₂ : Heap) (t₂ : Nat) (m : Str → Option Value) (th : Tok), Fn h L m [] [(kf, ok), (a, listOf vs.toArray n)] [] h₂ → m "a" = some (.ref a) → m "key" = some (.ref kf) → m "x" = some (.int x t) → m "lo" = some (.int 0 t0) → m "hi" = some (.int top th) →
      wpAny (model prog w) A (execs ((FD pw2 1).2.1.drop 2) (envX q (FD pw2 1).2.2 L fa (.ref c) [])) (Ret s₀ h fun v _ => ∃ r t, v = .int r t ∧ BrTo ks top x r) NoE (St s₀ h₂ t₂) := by
    clear F
    intro h₂ t₂ m th F ma mk mx ml mh
    show wpAny _ _ (execs (_ :: _) _) _ _ _
    walk_at "go"
    refine while_H (fun k s => ∃ h' t' m lo hi tl th, s = St s₀ h' t' ∧ Fn h L m [] [(kf, ok), (a, listOf vs.toArray n)] [] h' ∧ m "a" = some (.ref a) ∧ m "key" = some (.ref kf) ∧ (∃ tx, m "x" = some (.int x tx)) ∧ m "lo" = some (.int lo tl) ∧ m "hi" = some (.int hi th) ∧ 0 ≤ lo ∧ lo ≤ hi ∧ hi ≤ top ∧
      (∀ i : Nat, (i : Int) < lo → ks.getD i 0 ≤ x) ∧ (∀ i : Nat, hi ≤ i → i < top → x < ks.getD i 0) ∧ k = (hi - lo).toNat) top ⟨h₂, t₂, m, 0, top, t0, th, rfl, F, ma, mk, ⟨_, mx⟩, ml, mh, by omega, by omega, by omega, fun i h => by omega, fun i h1 h2 => by omega, by omega⟩ ?_
    clear F ma mk mx ml mh
    rintro k s N D hN hD ⟨h', t', m, lo, hi', tl, th, rfl, F, ma, mk, ⟨tx, mx⟩, mlo, mhi, h0, h1, h2, h3, h4, rfl⟩
    walk_at "go"
    refine split_dec (fun hlt => ?_) (fun hlt => ?_)
    · have hm1 : lo ≤ (lo + hi').fdiv 2 := by have := fdiv_fmod_facts (lo + hi') 2; omega
      have hm2 : (lo + hi').fdiv 2 < hi' := by have := fdiv_fmod_facts (lo + hi') 2; omega
      walk_at "go"
      rename_i F₃
      refine callWith_def hkd ?_
      walk_at "go"
      walk_at "itemV"
      intro v hv
      walk_at "go"
      refine ⟨F₃.get (.head _), callG (hkey _ v _ hv F₃.keep) hr fun r h₄ t₄ k₄ P₄ => ?_⟩
      obtain ⟨tr, rfl⟩ := P₄
      replace F₃ := F₃.kept k₄
      walk_at "go"
      generalize (lo + hi').fdiv 2 = mid at *
      refine split_dec (fun hx => ?_) (fun hx => ?_)
      · walk_at "go"
        rename_i F₅
        refine hN _ ⟨_, ?_, _, _, _, lo, mid, tl, _, rfl, F₅, ma, mk, ⟨_, mx⟩, mlo, rfl, h0, hm1, by omega, h3, fun i hi1 hi2 => ?_, rfl⟩
        · omega
        · exact Int.lt_of_lt_of_le hx (hso mid.toNat i (by omega) hi2)
      · walk_at "go"
        rename_i F₅
        refine hN _ ⟨_, ?_, _, _, _, mid + 1, hi', _, th, rfl, F₅, ma, mk, ⟨_, mx⟩, rfl, mhi, by omega, by omega, h2, fun i hi1 => ?_, h4, rfl⟩
        · omega
        · exact Int.le_trans (hso i mid.toNat (by omega) (by omega)) (by omega)
    · walk_at "go"
      refine hD _ _ ?_
      walk_at "go"
      exact Ret.mk F.keep ⟨lo, _, rfl, h0, by omega, h3, fun i hi1 hi2 => h4 i (by omega) hi2⟩
  show wpAny _ _ (execs (_ :: _) _) _ _ _
  rcases hhv with ⟨rfl, rfl⟩ | ⟨tv, rfl, _⟩
  · walk_at "go"
    walk_at "len"
    walk_at "gs"
    rename_i h₂ t₂ F₂
    rw [hlv] at F₂
    exact core _ _ _ _ F₂ rfl rfl rfl rfl rfl
  · refine wpAny_execs_cons ?_
    walk_at "gs"
    refine wpAny_execs_cons ?_
    walk_at "gs"
    exact core _ _ _ _ F rfl rfl rfl rfl rfl
/-- bisect_right(a, x, key=f) -/
theorem brk_spec {prog : Program} {w : World} {h : Heap} {fa a c kf : Addr} {vs : List Value} {ks : List Int} {x hs : Int} {t t' tt : Tok} {n d : Nat} {mg mb : Str → Option Value} {ok : Obj} {fk : FuncData}
    (D : IsDef pw2 1 h fa (.ref 15) (.ref 16) c) (hc : CodeP h c) (G : Gl mg mb h) (X : (KDr t' tt hs).In h) (hlen : mg "len" = none) (hlen' : mb "len" = some (.builtin "len")) (hl : h.get? a = some (listOf vs.toArray n)) (hlv : vs.length = ks.length)
    (hsz' : vs.length < 2 ^ 62) (hso : Sorted ks) (hkf : h.get? kf = some ok) (hkd : ok.data = .func fk)
    (hkey : ∀ (i : Nat) v h', vs[i]? = some v → Keep h h' → Mine.Calls prog w d (.ref kf) ⟨[v], []⟩ h' (fun r _ => ∃ t, r = .int (ks.getD i 0) t)) :
    Mine.Calls prog w (d + 1) (.ref fa) ⟨[.ref a, .int x t], [("key", .ref kf)]⟩ h (fun v _ => ∃ r t, v = .int r t ∧ BrTo ks ks.length x r) :=
  brk_run (hv := .none) D hc G hlen hlen' hl hlv hsz' hso hkf hkd (.inl ⟨rfl, rfl⟩) (fun name qual doc pm an ct s₀ t₁ => kp_binds (s := St s₀ h t₁) X fun S => by rfl) hkey
/-- bisect_right(a, x, 0, top, key=f) -/
theorem brt_spec {prog : Program} {w : World} {h : Heap} {fa a c kf : Addr} {vs : List Value} {ks : List Int} {x hs : Int} {t t' tt tz tv : Tok} {n d top : Nat} {mg mb : Str → Option Value} {ok : Obj} {fk : FuncData}
    (D : IsDef pw2 1 h fa (.ref 15) (.ref 16) c) (hc : CodeP h c) (G : Gl mg mb h) (X : (KDr t' tt hs).In h) (hlen : mg "len" = none) (hlen' : mb "len" = some (.builtin "len")) (hl : h.get? a = some (listOf vs.toArray n)) (hlv : vs.length = ks.length)
    (hsz' : vs.length < 2 ^ 62) (htop : top ≤ ks.length) (hso : ∀ i j : Nat, i ≤ j → j < top → ks.getD i 0 ≤ ks.getD j 0) (hkf : h.get? kf = some ok) (hkd : ok.data = .func fk)
    (hkey : ∀ (i : Nat) v h', vs[i]? = some v → Keep h h' → Mine.Calls prog w d (.ref kf) ⟨[v], []⟩ h' (fun r _ => ∃ t, r = .int (ks.getD i 0) t)) :
    Mine.Calls prog w (d + 1) (.ref fa) ⟨[.ref a, .int x t, .int 0 tz, .int top tv], [("key", .ref kf)]⟩ h (fun v _ => ∃ r t, v = .int r t ∧ BrTo ks top x r) :=
  brk_run (hv := .int top tv) D hc G hlen hlen' hl hlv hsz' hso hkf hkd (.inr ⟨tv, rfl, htop⟩) (fun name qual doc pm an ct s₀ t₁ => kp_binds (s := St s₀ h t₁) X fun S => by rfl) hkey


/-! ### the halving: the stretches ahead of which the row adds up to less than ahead of all later ones -/
abbrev jat (J : List Nat) (a : Nat) : Nat := J.getD a 0
structure Low (s : Nat → Int) (K : List (Nat × Nat)) (J : List Nat) : Prop where
  inc : ∀ a b, a < b → b < J.length → jat J a < jat J b
  bound : ∀ a, a < J.length → jat J a < K.length
  up : ∀ a b, a < b → b < J.length → s (lo K (jat J a)) < s (lo K (jat J b))
  dn : ∀ a b, a < b → b < J.length → s (hi K (jat J b)) ≤ s (hi K (jat J a))
  nxt : ∀ p, p < K.length → ∃ a, a < J.length ∧ p ≤ jat J a ∧ (∀ b, b < a → jat J b < p) ∧ s (lo K (jat J a)) ≤ s (lo K p)
theorem Low.nil (s : Nat → Int) : Low s [] [] := ⟨fun a b _ h => by simp at h, fun a h => by simp at h, fun a b _ h => by simp at h, fun a b _ h => by simp at h, fun p h => by simp at h⟩
section
variable {s : Nat → Int} {k : Nat} {K : List (Nat × Nat)} {J : List Nat}
theorem Low.le (W : Low s K J) {a b : Nat} (h : a ≤ b) (hb : b < J.length) : jat J a ≤ jat J b := by
  by_cases e : a = b
  · subst e; exact Nat.le_refl _
  · exact Nat.le_of_lt (W.inc a b (by omega) hb)
theorem Low.len (W : Low s K J) : J.length ≤ K.length := by
  have h : ∀ a, a < J.length → a ≤ jat J a := by
    intro a
    induction a with
    | zero => intro _; exact Nat.zero_le _
    | succ a ih => intro h; have := ih (by omega); have := W.inc a (a + 1) (by omega) h; omega
  by_cases e : J.length = 0
  · omega
  · have h1 := h (J.length - 1) (by omega)
    have h2 := W.bound (J.length - 1) (by omega)
    omega
def fstAt (K : List (Nat × Nat)) (J : List Nat) (k place b : Nat) : Nat := if b < place then lo K (jat J b) else k
def endAt (K : List (Nat × Nat)) (J : List Nat) (place b : Nat) : Nat := if b < place then jat J b else K.length
theorem Low.grow (W : Low s K J) (M : MaxF s k K) (hgt : s k < s (k + 1)) {place stay : Nat} (hp : place ≤ J.length) (h1 : ∀ a, a < place → s (lo K (jat J a)) < s k) (h2 : ∀ a, place ≤ a → a < J.length → s k ≤ s (lo K (jat J a)))
    (hR : ∀ a, stay ≤ a → a < place → s (hi K (jat J a)) < s (k + 1)) : ∀ d b, b + d = place → stay ≤ b → Grow s k K (fstAt K J k place b) (endAt K J place b)
  | 0, b, hb, _ => by
    have e : b = place := by omega
    subst e
    unfold fstAt endAt
    rw [if_neg (Nat.lt_irrefl _), if_neg (Nat.lt_irrefl _)]
    exact .start M hgt
  | d + 1, b, hb, hs => by
    have G := Low.grow W M hgt hp h1 h2 hR d (b + 1) (by omega) (by omega)
    have hbp : b < place := by omega
    have hbe : jat J b < endAt K J place (b + 1) := by
      unfold endAt
      split
      · exact W.inc _ _ (by omega) (by omega)
      · exact W.bound _ (by omega)
    have hbl : s (lo K (jat J b)) < s (fstAt K J k place (b + 1)) := by
      unfold fstAt
      split
      · exact W.up _ _ (by omega) (by omega)
      · exact h1 _ hbp
    have hmax : ∀ q, jat J b < q → q < endAt K J place (b + 1) → s (fstAt K J k place (b + 1)) ≤ s (lo K q) := by
      intro q hq1 hq2
      have hqK : q < K.length := by have := G.cle; omega
      obtain ⟨a, ha, ha1, ha2, ha3⟩ := W.nxt q hqK
      have hab : b + 1 ≤ a := by
        by_cases e : b + 1 ≤ a
        · exact e
        · have := W.le (show a ≤ b by omega) (by omega); omega
      refine Int.le_trans ?_ ha3
      unfold fstAt
      split
      · rename_i hlt
        by_cases e : a = b + 1
        · subst e; exact Int.le_refl _
        · exact Int.le_of_lt (W.up _ _ (by omega) ha)
      · exact h2 a (by omega) ha
    have z := G.merge M hbe hbl hmax (hR b hs hbp)
    unfold fstAt endAt
    rw [if_pos hbp, if_pos hbp]
    exact z

theorem getD_takeJ {J : List Nat} {stay a x : Nat} (h : a < stay) (h' : stay ≤ J.length) : (J.take stay ++ [x]).getD a 0 = J.getD a 0 := by
  have hp : a < J.length := by omega
  simp [List.getD, List.getElem?_append, h, hp, Nat.min_eq_left h']
theorem getD_lastJ {J : List Nat} {stay x : Nat} (h' : stay ≤ J.length) : (J.take stay ++ [x]).getD stay 0 = x := by
  simp [List.getD, List.getElem?_append, Nat.min_eq_left h']

theorem Low.next (W : Low s K J) (M : MaxF s k K) {stay first en : Nat} (G : Grow s k K first en) (hs : stay ≤ J.length) (e1 : ∀ a, a < stay → jat J a < en ∧ s (lo K (jat J a)) < s first) (e2 : ∀ a, stay ≤ a → a < J.length → s first ≤ s (lo K (jat J a)))
    (e3 : ∀ a, a < stay → s (k + 1) ≤ s (hi K (jat J a))) : MaxF s (k + 1) (K.take en ++ [(first, k + 1)]) ∧ Low s (K.take en ++ [(first, k + 1)]) (J.take stay ++ [en]) := by
  have hc := G.cle
  have far : ∀ q, q < en → (∀ a, a < stay → jat J a < q) → s first ≤ s (lo K q) := fun q hq hb => by
    obtain ⟨a, ha, ha1, ha2, ha3⟩ := W.nxt q (by omega)
    have hsa : stay ≤ a := by
      by_cases e : stay ≤ a
      · exact e
      · have := hb a (by omega); omega
    exact Int.le_trans (e2 a hsa ha) ha3
  constructor
  · refine G.stop M ?_
    by_cases e : stay = 0
    · exact .inl fun p hp => far p hp fun a ha => by omega
    · exact .inr ⟨jat J (stay - 1), (e1 _ (by omega)).1, fun q h1 h2 => far q h2 fun a ha => by have := W.le (show a ≤ stay - 1 by omega) (by omega); omega, e3 _ (by omega)⟩
  · have lenK : (K.take en ++ [(first, k + 1)]).length = en + 1 := by simp; omega
    have lenJ : (J.take stay ++ [en]).length = stay + 1 := by simp; omega
    have jl : ∀ {a}, a < stay → jat (J.take stay ++ [en]) a = jat J a := fun h => getD_takeJ h hs
    have jz : jat (J.take stay ++ [en]) stay = en := getD_lastJ hs
    have kl : ∀ {p}, p < en → (K.take en ++ [(first, k + 1)]).getD p (0, 0) = K.getD p (0, 0) := fun h => getD_takeP h hc
    have kz : (K.take en ++ [(first, k + 1)]).getD en (0, 0) = (first, k + 1) := getD_lastP hc
    have ll : ∀ {p}, p < en → lo (K.take en ++ [(first, k + 1)]) p = lo K p := fun h => by unfold lo; rw [kl h]
    have hl : ∀ {p}, p < en → hi (K.take en ++ [(first, k + 1)]) p = hi K p := fun h => by unfold hi; rw [kl h]
    have lz : lo (K.take en ++ [(first, k + 1)]) en = first := by unfold lo; rw [kz]
    have hz : hi (K.take en ++ [(first, k + 1)]) en = k + 1 := by unfold hi; rw [kz]
    refine ⟨fun a b hab hb => ?_, fun a ha => ?_, fun a b hab hb => ?_, fun a b hab hb => ?_, fun p hp => ?_⟩
    · rw [lenJ] at hb
      rw [jl (by omega : a < stay)]
      by_cases e : b = stay
      · subst e; rw [jz]; exact (e1 a hab).1
      · rw [jl (by omega)]; exact W.inc a b hab (by omega)
    · rw [lenJ] at ha
      rw [lenK]
      by_cases e : a = stay
      · subst e; rw [jz]; exact Nat.lt_succ_self _
      · rw [jl (by omega)]; have := (e1 a (by omega)).1; omega
    · rw [lenJ] at hb
      rw [jl (by omega : a < stay), ll (e1 a (by omega)).1]
      by_cases e : b = stay
      · subst e; rw [jz, lz]; exact (e1 a hab).2
      · rw [jl (by omega), ll (e1 b (by omega)).1]; exact W.up a b hab (by omega)
    · rw [lenJ] at hb
      rw [jl (by omega : a < stay), hl (e1 a (by omega)).1]
      by_cases e : b = stay
      · subst e; rw [jz, hz]; exact e3 a hab
      · rw [jl (by omega), hl (e1 b (by omega)).1]; exact W.dn a b hab (by omega)
    · rw [lenK] at hp
      have mine : (∀ b, b < stay → jat J b < p) → s first ≤ s (lo (K.take en ++ [(first, k + 1)]) p) → ∃ a, a < (J.take stay ++ [en]).length ∧ p ≤ jat (J.take stay ++ [en]) a ∧ (∀ b, b < a → jat (J.take stay ++ [en]) b < p) ∧ s (lo (K.take en ++ [(first, k + 1)]) (jat (J.take stay ++ [en]) a)) ≤ s (lo (K.take en ++ [(first, k + 1)]) p) := fun h1 h2 =>
        ⟨stay, by omega, by rw [jz]; omega, fun b hb => by rw [jl hb]; exact h1 b hb, by rw [jz, lz]; exact h2⟩
      by_cases e : p = en
      · subst e
        exact mine (fun b hb => (e1 b hb).1) (by rw [lz]; exact Int.le_refl _)
      · obtain ⟨a, ha, ha1, ha2, ha3⟩ := W.nxt p (by omega)
        by_cases e : a < stay
        · exact ⟨a, by omega, by rw [jl e]; exact ha1, fun b hb => by rw [jl (by omega)]; exact ha2 b hb, by rw [jl e, ll (e1 a e).1, ll (by omega)]; exact ha3⟩
        · exact mine (fun b hb => ha2 b (by omega)) (by rw [ll (by omega)]; exact Int.le_trans (e2 a (by omega) ha) ha3)
end
/-- the rows of lows -/
abbrev lrow (s : Nat → Int) (K : List (Nat × Nat)) (J : List Nat) : List (List Int) := J.map fun j => [s (lo K j), s (hi K j), (j : Int)]
theorem lrow_at {s : Nat → Int} {K : List (Nat × Nat)} {J : List Nat} {a : Nat} (h : a < J.length) : (lrow s K J).getD a [] = [s (lo K (jat J a)), s (hi K (jat J a)), (jat J a : Int)] := by
  simp [lrow, jat, List.getD, h]
theorem lrow_len {s : Nat → Int} {K : List (Nat × Nat)} {J : List Nat} : (lrow s K J).length = J.length := by simp
theorem lrow_next {s : Nat → Int} {k : Nat} {K : List (Nat × Nat)} {J : List Nat} {stay first en : Nat} (hs : stay ≤ J.length) (hc : en ≤ K.length) (e1 : ∀ a, a < stay → jat J a < en) :
    lrow s (K.take en ++ [(first, k + 1)]) (J.take stay ++ [en]) = (lrow s K J).take stay ++ [[s first, s (k + 1), (en : Int)]] := by
  have kl : ∀ {p}, p < en → (K.take en ++ [(first, k + 1)]).getD p (0, 0) = K.getD p (0, 0) := fun h => getD_takeP h hc
  have kz : (K.take en ++ [(first, k + 1)]).getD en (0, 0) = (first, k + 1) := getD_lastP hc
  simp only [lrow, List.map_append, List.map_cons, List.map_nil, ← List.map_take]
  congr 1
  · refine List.map_congr_left fun j hj => ?_
    obtain ⟨a, ha, e⟩ := List.mem_iff_getElem.mp hj
    have ha' : a < stay := by simp at ha; omega
    have : j = jat J a := by
      rw [← e]; simp [jat, List.getD, show a < J.length by omega]
    subst this
    unfold lo hi
    rw [kl (e1 a ha')]
  · unfold lo hi
    rw [kz]
theorem tab_low {T : List (Addr × Obj)} {vs : List Value} {s : Nat → Int} {K : List (Nat × Nat)} {J : List Nat} (x : Tab T vs (lrow s K J)) {a : Nat} (h : a < J.length) : ∃ b t u v, vs[a]? = some (.ref b) ∧ (b, kdv_tup [.int (s (lo K (jat J a))) t, .int (s (hi K (jat J a))) u, .int (jat J a) v]) ∈ T := by
  obtain ⟨b, ws, e, m, r⟩ := x.2 a (by rw [lrow_len]; exact h)
  rw [lrow_at h] at r
  cases r with
  | cons _ t r => cases r with
    | cons _ u r => cases r with
      | cons _ v r => cases r with
        | nil => exact ⟨b, t, u, v, e, m⟩


theorem itemLw {prog : Program} {w : World} {A : Around} {E : Value → Shared → Prop} {s : Shared} {Q : Value → Shared → Prop} {value slice : Expr} {T : List (Addr × Obj)} {l : Addr} {vs : List Value} {n : Nat} {f : Nat → Int} {K : List (Nat × Nat)} {J : List Nat} {k : Int} {u : Tok} (ho : s.heap.get? l = some (listOf vs.toArray n)) (tab : Tab T vs (lrow f K J)) (hT : ∀ p ∈ T, s.heap.get? p.1 = some p.2) (h0 : 0 ≤ k) (h1 : k < J.length) (hb : J.length < 2 ^ 62)
    (h : ∀ a t u v, s.heap.get? a = some (kdv_tup [.int (f (lo K (jat J k.toNat))) t, .int (f (hi K (jat J k.toNat))) u, .int (jat J k.toNat) v]) → Q (.ref a) s)
    (hs : subscripted slice false (.ref l) (.int k u) = operate [.ref l, .int k u] (getItem (.ref l) (.int k u)) := by with_unfolding_all rfl) :
    wpAny (model prog w) A (subscriptTail value slice (.ref l) (.int k u)) Q E s := by
  obtain ⟨a, t, u, v, e, m⟩ := tab_low tab (a := k.toNat) (by omega)
  have htl := tab.1
  rw [lrow_len] at htl
  refine anyBase (itemV ho h0 (by omega) (by omega) (fun v hv => ?_) hs (fun _ => rfl))
  rw [e] at hv; cases hv
  exact h a t u _ (hT _ m)
theorem getD_mapN {J : List Nat} {g : Nat → Int} {i : Nat} (h : i < J.length) : (J.map g).getD i 0 = g (jat J i) := by simp [jat, List.getD, h]

def haIf : List Stmt := match ((FD pw2 10).2.1[2]? : Option Stmt) with
  | some (.For _ _ b _ _) => (match (b[0]? : Option Stmt) with
    | some (.If _ b' _ _) => b'
    | _ => [])
  | _ => []
inductive HaJ (ls : Addr) (ss : List Int) (i : Nat) (m : Str → Option Value) (U : List (Addr × Obj)) : Prop
  | mk (kl : Addr) (K : List (Nat × Nat)) (kvs : List Value) (kn : Nat) (ll : Addr) (Js : List Nat) (lvs : List Value) (lln : Nat) (ms : m "sums" = some (.ref ls)) (mk : m "kept" = some (.ref kl)) (ml : m "lows" = some (.ref ll)) (hK : Kept U kl K kvs kn) (mll : (ll, listOf lvs.toArray lln) ∈ U) (tabl : Tab U lvs (lrow (fun j => ss.getD j 0) K Js)) (M : MaxF (fun j => ss.getD j 0) i K) (W : Low (fun j => ss.getD j 0) K Js)
theorem ha_spec {prog : Program} {w : World} {h : Heap} {ls : Addr} {svs : List Value} {ss : List Int} {sn n : Nat} {tD tK tD' tK' : Tok} {hsK hsK' : Int} {mg mb : Str → Option Value}
    (X : Glob2 h mg mb tD tK tD' tK' hsK hsK') (hI : IntsAre svs ss) (hn : ss.length = n + 1) (hsz : n < 100) (els : h.get? ls = some (listOf svs.toArray sn)) :
    Mine.Calls prog w 5 (.ref 74) ⟨[.ref ls], []⟩ h (fun v h' => ∃ kl K kvs kn N, v = .ref kl ∧ New h h' N ∧ Kept N kl K kvs kn ∧ MaxF (fun j => ss.getD j 0) n K) := by
  have hlv : svs.length = ss.length := hI.length
  have G := X.gl
  have hrg := X.rng
  have hrg' := X.rng'
  have hlen := X.len
  have hlen' := X.len'
  have nbl := X.nbl
  have nbr := X.nbr
  refine IsDef.calls (binds := [("sums", .ref ls)]) X.dha X.cha.rec' G.lim (fun name qual doc pm an ct s₀ t => BindsTo.of_eq rfl) rfl (locs rfl) ?_
  intro A s₀ t q L h₁ hr F
  have hh := hr.handled
  replace F := (F.recall els (NF.nt nofun)).recallC X.cha
  show wpAny _ _ (execs (_ :: _) _) _ _ _
  walk_at "go"
  refine listG F fun r h₂ _ F₂ => ?_
  clear F
  walk_at "go"
  rename Fn _ _ _ _ _ _ _ => F₂'
  clear F₂
  refine listG F₂' fun r₂ h₃ _ F₃ => ?_
  clear F₂'
  walk_at "go"
  walk_at "len"
  walk_at "go"
  rename_i R' ta tb tc h₄ t₄ hR F₄
  clear F₃
  refine iter_range_H F₄ hh hR (by omega) (by omega) (by omega) (by omega) (HaJ ls ss)
    ⟨r, [], [], 0, r₂, [], [], 0, rfl, rfl, rfl, ⟨.tail _ (.head _), Tab.nil⟩, .head _, Tab.nil, .start _, .nil _⟩ ?_ ?_ rfl rfl
  · clear F₄
    rintro i ti m U h' I o tk P hP hib ⟨kl, K, kvs, kn, ll, Js, lvs, lln, ms, mk, ml, hK, mll, tabl, M, W⟩ F
    dsimp only
    have hkl : kvs.length = K.length := by rw [hK.tab.1, prs_len]
    have hll : lvs.length = Js.length := by rw [tabl.1, lrow_len]
    have hKi := M.small
    have hJK := W.len
    have mkl := hK.mem
    walk_at "go"
    refine itemJ (F.get (a := ls) (o := listOf svs.toArray sn) (by walk_at "mem")) hI (by omega) (by omega) (by omega) fun t₁ => ?_
    walk_at "go"
    refine itemJ (F.get (a := ls) (o := listOf svs.toArray sn) (by walk_at "mem")) hI (by omega) (by omega) (by omega) fun t₂ => ?_
    walk_at "go"
    have e1 : (1 + (i : Int)).toNat = i + 1 := by omega
    have e2 : (1 + (i : Int) - 1).toNat = i := by omega
    have e3 : (1 + (i : Int) - 1) = i := by omega
    rw [e1, e2]
    refine split_dec (fun hgt => ?_) (fun hgt => ?_)
    · walk_at "go"
      have Db' := X.dbl
      obtain ⟨nb, qb, docb, pmb, anb, ctb, ocb, odb, oslb, eb⟩ := Db'
      refine callWith_def_kw (o := ⟨ocb, odb, .func (fnX nb qb (FD pw2 2).1 (FD pw2 2).2.1 (FD pw2 2).2.2 [] (.ref 24) (.ref 25) docb pmb anb (.ref 31) ctb), oslb⟩) rfl ?_
      refine evalArgs_kw2 rfl ?_
      walk_at "go"
      refine itemJ (F.get (a := ls) (o := listOf svs.toArray sn) (by walk_at "mem")) hI (by omega) (by omega) (by omega) fun t₃ => ?_
      walk_at "go"
      refine kwAll_cons ?_
      refine lambdaT F G rfl (.head _) rfl rfl rfl fun fk ck ctk dock pmk h₇ t₇ hfk k₇ F₇ => ?_
      clear F
      walk_at "go"
      refine kwAll_nil ?_
      refine ⟨(Keep.obj F₇.keep _ _ eb (NF.nt nofun)), ?_⟩
      rw [e2]
      have X₁ := X.kept F₇.keep
      refine callG (blk_spec (ks := Js.map fun j => ss.getD (lo K j) 0) (vs := lvs) (d := 1) X₁.dbl X₁.cbl X₁.gl X₁.kbl hlen hlen' (F₇.getU mll) (by simp; omega) (by omega) (fun a b hab hb => ?_) (F₇.get (.head _)) rfl fun a v h₈ hv k₈ => ?_) (hr.less (by omega)) ?_
      · rw [List.length_map] at hb
        rw [getD_mapN (by omega), getD_mapN hb]
        by_cases e : a = b
        · subst e; exact Int.le_refl _
        · exact Int.le_of_lt (W.up a b (by omega) hb)
      · have ha : a < Js.length := by
          have := (List.getElem?_eq_some_iff.mp hv).1
          omega
        obtain ⟨b, tb1, tb2, tb3, eb1, eb2⟩ := tab_low tabl ha
        rw [hv] at eb1
        cases eb1
        have F₉ := F₇.kept k₈
        exact (key0 ⟨F₉.get (.head _), (F₉.codes _ (.head _)).rec', (G.kept F₉.keep).lim, fun s₀ t => BindsTo.of_eq rfl, rfl, rfl, rfl, fun _ => rfl, fun _ _ _ _ _ => rfl, rfl⟩ (F₉.getU eb2) (.cons _ _ (.cons _ _ .nil)) (by show 2 < 50; omega)).mono fun v h' _ ⟨t, e⟩ => ⟨t, by rw [e, getD_mapN ha]⟩
      rintro _ h₈ t₈ k₈ ⟨place, tp, rfl, hp0, hp1, hp2, hp3⟩
      replace F₇ := F₇.kept k₈
      rw [List.length_map] at hp1
      obtain ⟨pl, rfl⟩ : ∃ pl : Nat, place = pl := ⟨place.toNat, by omega⟩
      have hpl : pl ≤ Js.length := by omega
      have P1 : ∀ a, a < pl → ss.getD (lo K (jat Js a)) 0 < ss.getD i 0 := fun a ha => by
        have := hp2 a (by omega)
        rwa [getD_mapN (by omega)] at this
      have P2 : ∀ a, pl ≤ a → a < Js.length → ss.getD i 0 ≤ ss.getD (lo K (jat Js a)) 0 := fun a ha hb => by
        have := hp3 a (by omega) (by rw [List.length_map]; exact hb)
        rwa [getD_mapN hb] at this
      walk_at "go"
      have Dr' := X.dbr
      obtain ⟨nb2, qb2, docb2, pmb2, anb2, ctb2, ocb2, odb2, oslb2, eb2⟩ := Dr'
      rename Fn _ _ _ _ _ _ _ => F₈
      clear F₇
      refine callWith_def_kw (o := ⟨ocb2, odb2, .func (fnX nb2 qb2 (FD pw2 1).1 (FD pw2 1).2.1 (FD pw2 1).2.2 [] (.ref 15) (.ref 16) docb2 pmb2 anb2 (.ref 22) ctb2), oslb2⟩) rfl ?_
      refine evalArgs_kw2 rfl ?_
      walk_at "go"
      refine itemJ (F₈.get (a := ls) (o := listOf svs.toArray sn) (by walk_at "mem")) hI (by omega) (by omega) (by omega) fun t₃ => ?_
      walk_at "go"
      refine kwAll_cons ?_
      refine lambdaT F₈ G rfl (.tail _ (.head _)) rfl rfl rfl fun fk₂ ck₂ ctk₂ dock₂ pmk₂ h₉ t₉ hfk₂ k₉ F₉ => ?_
      clear F₈
      walk_at "go"
      refine kwAll_nil ?_
      refine ⟨(Keep.obj F₉.keep _ _ eb2 (NF.nt nofun)), ?_⟩
      rw [e1]
      have X₂ := X.kept F₉.keep
      refine callG (brt_spec (ks := Js.map fun j => - ss.getD (hi K j) 0) (vs := lvs) (d := 1) (top := pl) X₂.dbr X₂.cbr X₂.gl X₂.kbr hlen hlen' (F₉.getU mll) (by simp; omega) (by omega) (by simpa using hpl) (fun a b hab hb => ?_) (F₉.get (.head _)) rfl fun a v h₈ hv k₈ => ?_) (hr.less (by omega)) ?_
      · rw [getD_mapN (by omega), getD_mapN (by omega)]
        by_cases e : a = b
        · subst e; exact Int.le_refl _
        · have := W.dn a b (by omega) (by omega)
          exact Int.neg_le_neg this
      · have ha : a < Js.length := by
          have := (List.getElem?_eq_some_iff.mp hv).1
          omega
        obtain ⟨b, tb1, tb2, tb3, eb1, eb2⟩ := tab_low tabl ha
        rw [hv] at eb1
        cases eb1
        have F₁₀ := F₉.kept k₈
        exact (keyN ⟨F₁₀.get (.head _), (F₁₀.codes _ (.head _)).rec', (G.kept F₁₀.keep).lim, fun s₀ t => BindsTo.of_eq rfl, rfl, rfl, rfl, fun _ => rfl, fun _ _ _ _ _ => rfl, rfl⟩ (F₁₀.getU eb2) (.cons _ _ .nil) (by show 1 < 50; omega)).mono fun v h' _ ⟨t, e⟩ => ⟨t, by rw [e, getD_mapN ha]⟩
      rintro _ h₁₀ t₁₀ k₁₀ ⟨stay, tst, rfl, hq0, hq1, hq2, hq3⟩
      replace F₉ := F₉.kept k₁₀
      obtain ⟨st, rfl⟩ : ∃ st : Nat, stay = st := ⟨stay.toNat, by omega⟩
      have hst : st ≤ pl := by omega
      have Q1 : ∀ a, a < st → ss.getD (i + 1) 0 ≤ ss.getD (hi K (jat Js a)) 0 := fun a ha => by
        have := hq2 a (by omega)
        rw [getD_mapN (by omega)] at this
        omega
      have Q2 : ∀ a, st ≤ a → a < pl → ss.getD (hi K (jat Js a)) 0 < ss.getD (i + 1) 0 := fun a ha hb => by
        have := hq3 a (by omega) hb
        rw [getD_mapN (by omega)] at this
        omega
      have Gr := W.grow M (by omega) hpl P1 P2 Q2 (pl - st) st (by omega) (Nat.le_refl _)
      have hen := Gr.cle
      have hfi := Gr.full.1
      have E1 : ∀ a, a < st → jat Js a < endAt K Js pl st ∧ ss.getD (lo K (jat Js a)) 0 < ss.getD (fstAt K Js i pl st) 0 := fun a ha => by
        unfold endAt fstAt
        split
        · exact ⟨W.inc _ _ ha (by omega), W.up _ _ ha (by omega)⟩
        · exact ⟨W.bound _ (by omega), P1 _ (by omega)⟩
      have E2 : ∀ a, st ≤ a → a < Js.length → ss.getD (fstAt K Js i pl st) 0 ≤ ss.getD (lo K (jat Js a)) 0 := fun a ha hb => by
        unfold fstAt
        split
        · by_cases e : a = st
          · subst e; exact Int.le_refl _
          · exact Int.le_of_lt (W.up _ _ (by omega) hb)
        · exact P2 a (by omega) hb
      obtain ⟨M', W'⟩ := W.next M Gr (by omega) E1 E2 Q1
      have hrow := lrow_next (s := fun j => ss.getD j 0) (k := i) (first := fstAt K Js i pl st) (show st ≤ Js.length by omega) hen fun a ha => (E1 a ha).1
      have efst : fstAt K Js i pl st = if st < pl then lo K (jat Js st) else i := rfl
      have eend : endAt K Js pl st = if st < pl then jat Js st else K.length := rfl
      generalize fstAt K Js i pl st = first at *
      generalize endAt K Js pl st = en at *
      walk_at "gs"
      refine wpAny_execs_cons ?_
      walk_at "gs"
      refine wpAny_execs_cons ?_
      walk_at "gs"
      walk_at "len"
      walk_at "gs"
      rename Fn _ _ _ _ _ _ _ => F₁₁
      clear F₉
      rw [e3, hkl] at F₁₁
      replace F₁₁ := F₁₁.weak (T' := [(I, o), (ls, listOf svs.toArray sn)]) (C' := [73]) (fun p hp => .tail _ (.tail _ hp)) (fun c hc => .tail _ (.tail _ hc))
      have fin : ∀ (h₂ : Heap) (t₂ : Nat) (m : Str → Option Value) (U' : List (Addr × Obj)) (r r' : Addr) (kvs' lvs' : List Value), Fn h L m U' [(I, o), (ls, listOf svs.toArray sn)] [73] h₂ → m "sums" = some (.ref ls) → m "kept" = some (.ref r) → m "lows" = some (.ref r') → Kept U' r (K.take en ++ [(first, i + 1)]) kvs' 0 → (r', listOf lvs'.toArray 0) ∈ U' → Tab U' lvs' ((lrow (fun j => ss.getD j 0) K Js).take st ++ [[ss.getD first 0, ss.getD (i + 1) 0, (en : Int)]]) →
          HaJ ls ss (i + 1) m U' :=
        fun h₂ t₂ m U' r r' kvs' lvs' F ms mk ml hK ml' tl => ⟨r, _, kvs', 0, r', _, lvs', 0, ms, mk, ml, hK, ml', by rw [hrow]; exact tl, M', W'⟩
      have tail : ∀ (h₂ : Heap) (t₂ : Nat) (m : Str → Option Value) (tf te : Tok) {Qg : Flow → Shared → Prop}, Fn h L m U [(I, o), (ls, listOf svs.toArray sn)] [73] h₂ → m "sums" = some (.ref ls) → m "kept" = some (.ref kl) → m "lows" = some (.ref ll) → m "k" = some (.int (1 + i) ti) → m "stay" = some (.int st tst) → m "first" = some (.int first tf) → m "end" = some (.int en te) →
          (∀ (h' : Heap) (t' : Nat) (m' : Str → Option Value) (U' : List (Addr × Obj)), Fn h L m' U' [(I, o), (ls, listOf svs.toArray sn)] [73] h' → HaJ ls ss (i + 1) m' U' → Qg .next (St s₀ h' t')) →
          wpAny (model prog w) A (execs (haIf.drop 5) (envX q (FD pw2 10).2.2 L 74 (.ref 73) [])) Qg NoE (St s₀ h₂ t₂) := by
        clear F₁₁ ms mk ml
        intro h₂ t₂ m tf te Qg F ms mk ml mkk mst mf me kont
        show wpAny _ _ (execs (_ :: _) _) _ _ _
        refine wpAny_execs_cons ?_
        walk_at "gs"
        rename_i Fa
        refine sliceG Fa (Fa.getU mkl) .none (.int _ _) .none nofun ?_ (by show _ ≤ 16777216; omega)
        intro b h₆ _ F₆
        rw [pick_upto _ (by omega)] at F₆
        clear Fa F
        walk_at "gs"
        refine tupU F₆ fun b₂ h₇ _ F₇ => ?_
        clear F₆
        walk_at "gs"
        refine listG F₇ fun b₃ h₈ _ F₈ => ?_
        clear F₇
        walk_at "gs"
        refine addLU F₈ (F₈.get (.head _)) (F₈.getU (.head _)) (fun r₂ h₉ _ F₉ => ?_) (by show _ ≤ 16777216; simp; omega)
        clear F₈
        walk_at "gs"
        rename Fn _ _ _ _ _ _ _ => F₁₀
        clear F₉
        refine wpAny_execs_cons ?_
        walk_at "gs"
        rename_i Fb
        refine sliceG Fb (Fb.getU (.tail _ (.tail _ (.tail _ mll)))) .none (.int _ _) .none nofun ?_ (by show _ ≤ 16777216; omega)
        intro b₄ h₁₂ _ F₁₂
        rw [pick_upto _ (by omega)] at F₁₂
        clear Fb F₁₀
        walk_at "gs"
        refine itemJ (k := (first : Int)) (F₁₂.get (a := ls) (o := listOf svs.toArray sn) (by walk_at "mem")) hI (by omega) (by omega) (by omega) fun t₃ => ?_
        walk_at "gs"
        refine itemJ (F₁₂.get (a := ls) (o := listOf svs.toArray sn) (by walk_at "mem")) hI (by omega) (by omega) (by omega) fun t₄ => ?_
        walk_at "gs"
        refine tupU F₁₂ fun b₅ h₁₃ _ F₁₃ => ?_
        clear F₁₂
        walk_at "gs"
        refine listG F₁₃ fun b₆ h₁₄ _ F₁₄ => ?_
        clear F₁₃
        walk_at "gs"
        refine addLU F₁₄ (F₁₄.get (.head _)) (F₁₄.getU (.head _)) (fun r₃ h₁₅ _ F₁₅ => ?_) (by show _ ≤ 16777216; simp; omega)
        clear F₁₄
        walk_at "gs"
        rename Fn _ _ _ _ _ _ _ => Fz
        clear F₁₅
        rw [e1, show (first : Int).toNat = first by omega] at Fz
        refine kont _ _ _ _ (Fz.weak (T' := [(I, o), (ls, listOf svs.toArray sn)]) (fun p hp => .tail _ (.tail _ hp)) (fun c hc => hc)) (fin _ 0 _ _ r₂ r₃ _ _ (Fz.weak (T' := [(I, o), (ls, listOf svs.toArray sn)]) (fun p hp => .tail _ (.tail _ hp)) (fun c hc => hc)) ms rfl rfl ⟨.tail _ (.tail _ (.tail _ (.head _))), ?_⟩ (.head _) ?_)
        · have hp : prs (K.take en ++ [(first, i + 1)]) = (prs K).take en ++ [[(first : Int), 1 + (i : Int)]] := by
            simp only [prs, List.map_append, List.map_take, List.map_cons, List.map_nil]
            rw [show ((i + 1 : Nat) : Int) = 1 + i by omega]
          rw [hp]
          refine Tab.app ?_ (Tab.one (.tail _ (.tail _ (.tail _ (.tail _ (.tail _ (.head _)))))) (.cons _ _ (.cons _ _ .nil)))
          exact (hK.tab.take en).mono (fun p hp => .tail _ (.tail _ (.tail _ (.tail _ (.tail _ (.tail _ hp))))))
        · refine Tab.app ?_ (Tab.one (.tail _ (.tail _ (.head _))) (.cons _ _ (.cons _ _ (.cons _ _ .nil))))
          exact (tabl.take st).mono (fun p hp => .tail _ (.tail _ (.tail _ (.tail _ (.tail _ (.tail _ hp))))))
      refine wpAny_execs_cons ?_
      walk_at "gs"
      refine split_dec (fun hlt => ?_) (fun hlt => ?_)
      · have hlt' : st < pl := by omega
        rw [if_pos hlt'] at efst eend
        subst efst eend
        have hbo := W.bound st (by omega)
        walk_at "go"
        refine itemLw (k := (st : Int)) (F₁₁.getU mll) tabl (fun p hp => F₁₁.getU hp) (by omega) (by omega) (by omega) fun a ta' tb' tc' hea => ?_
        walk_at "go"
        refine item2 hea fun t₅ => ?_
        walk_at "go"
        rename Fn _ _ _ _ _ _ _ => F₁₂
        rw [show (st : Int).toNat = st by omega] at F₁₂ ⊢
        refine itemPr (F₁₂.getU mkl) hK.tab (fun q hq => F₁₂.getU hq) (by omega) (by omega) (by omega) fun a₄ ta₄ tb₄ _ _ hea => ?_
        walk_at "go"
        refine item0 hea (.cons _ _ .nil) (by show 1 < 50; omega) fun t₆ => ?_
        rw [show (jat Js st : Int).toNat = jat Js st by omega]
        walk_at "gs"
        rename Fn _ _ _ _ _ _ _ => F₁₃
        refine tail _ _ _ _ _ F₁₃ ms mk ml rfl rfl rfl rfl fun h' t' m' U' F' hJ => ?_
        walk_at "go"
        exact hP _ _ (TurnPost.next (s := St s₀ h₄ t₄) F' hJ)
      · have hlt' : ¬ st < pl := by omega
        rw [if_neg hlt'] at efst eend
        subst efst eend
        walk_at "gs"
        refine tail _ _ _ _ _ F₁₁ ms mk ml rfl rfl rfl rfl fun h' t' m' U' F' hJ => ?_
        walk_at "go"
        exact hP _ _ (TurnPost.next (s := St s₀ h₄ t₄) F' hJ)
    · walk_at "go"
      exact hP _ _ (TurnPost.next F ⟨kl, K, kvs, kn, ll, Js, lvs, lln, ms, mk, ml, hK, mll, tabl, M.skip (by omega), W⟩)
  · rintro m U h' t' ⟨kl, K, kvs, kn, ll, Js, lvs, lln, ms, mk, ml, hK, mll, tabl, M, W⟩ F
    walk_at "go"
    refine Ret.mk F.keep ⟨kl, K, kvs, kn, U, rfl, F.newU, hK, ?_⟩
    rwa [show ((svs.length : Int) - 1).toNat = n by omega] at M


section
variable {prog : Program} {w : World} {A : Around} {E : Value → Shared → Prop} {hp : Heap} {g : Array GenState} {dr : Drawn} {tk : Nat} {os : OsState} {Q : Value → Shared → Prop}
theorem str_app (xs ys : List Nat) : (⟨xs.toArray⟩ ++ ⟨ys.toArray⟩ : Str) = ⟨(xs ++ ys).toArray⟩ := by
  show Str.append _ _ = _
  simp [Str.append]
theorem addS {xs ys : List Nat} {t u : Tok} (h : ∀ t tk, Q (.str ⟨(xs ++ ys).toArray⟩ t) ⟨hp, g, dr, tk, os⟩) (hsz : xs.length + ys.length ≤ 16777216) :
    wpAny (model prog w) A (binaryOp .Add (.str ⟨xs.toArray⟩ t) (.str ⟨ys.toArray⟩ u)) Q E ⟨hp, g, dr, tk, os⟩ := by
  refine PyProof.Rows.add_str (s := ⟨hp, g, dr, tk, os⟩) (fun t' tk' => ?_) (by show xs.toArray.size + ys.toArray.size ≤ 16777216; simpa using hsz)
  rw [str_app]; exact h t' tk'
end
theorem getD_appN {xs ys : List Nat} {i : Nat} (h : i < xs.length) : (xs ++ ys).getD i 0 = xs.getD i 0 := by simp [List.getD, List.getElem?_append_left h]
theorem getD_appR {xs ys : List Nat} {i : Nat} (h : xs.length ≤ i) : (xs ++ ys).getD i 0 = ys.getD (i - xs.length) 0 := by simp only [List.getD]; rw [List.getElem?_append_right h]
theorem getD_rep {d c i : Nat} (h : i < d) : (List.replicate d c).getD i 0 = c := by simp [List.getD, h]

theorem li_spec {prog : Program} {w : World} {h : Heap} {kl : Addr} {kvs : List Value} {K : List (Nat × Nat)} {kn n : Nat} {TK : List (Addr × Obj)} {tn : Tok} {s : Nat → Int} {tD tK tD' tK' : Tok} {hsK hsK' : Int} {mg mb : Str → Option Value}
    (X : Glob2 h mg mb tD tK tD' tK' hsK hsK') (hsz : n < 100) (M : MaxF s n K) (ek : h.get? kl = some (listOf kvs.toArray kn)) (tab : Tab TK kvs (prs K)) (eT : ∀ q ∈ TK, h.get? q.1 = some q.2 ∧ NT q.2) :
    Mine.Calls prog w 3 (.ref 88) ⟨[.ref kl, .int n tn], []⟩ h (fun v _ => ∃ (cs : List Nat) (t : Tok), v = .str ⟨cs.toArray⟩ t ∧ cs.length = n ∧ ∀ c, c < n → (cs.getD c 0 = 35 ↔ ∃ p, p < K.length ∧ lo K p ≤ c ∧ c < hi K p)) := by
  have G := X.gl
  have hlen := X.len
  have hlen' := X.len'
  have hkl : kvs.length = K.length := by rw [tab.1, prs_len]
  refine IsDef.calls (binds := [("kept", .ref kl), ("size", .int n tn)]) X.dli X.cli.rec' G.lim (fun name qual doc pm an ct s₀ t => BindsTo.of_eq rfl) rfl (locs rfl) ?_
  intro A s₀ t q L h₁ hr F
  have hh := hr.handled
  replace F := (F.recallAll eT).recall ek (NF.nt nofun)
  show wpAny _ _ (execs (_ :: _) _) _ _ _
  walk_at "go"
  rename_i h₂ t₂ F₂
  refine iter_list_H _ F₂ hh (.head _) (let_pair tab) (fun i m U => U = [] ∧ ∃ (cs : List Nat) (tl ts : Tok), m "line" = some (.str ⟨cs.toArray⟩ tl) ∧ m "size" = some (.int n ts) ∧ cs.length = (if i = 0 then 0 else hi K (i - 1)) ∧ ∀ c, c < cs.length → (cs.getD c 0 = 35 ↔ ∃ p, p < i ∧ lo K p ≤ c ∧ c < hi K p))
    ⟨rfl, [], _, _, rfl, rfl, rfl, fun c hc => by simp at hc⟩ ?_ ?_
  · rintro i v m U h' I o tk P hP hv ⟨rfl, cs, tl, ts, ml, ms, hcl, hcs⟩ F₃
    clear F F₂
    have hi' : i < K.length := by rw [← hkl]; exact (List.getElem?_eq_some_iff.mp hv).1
    obtain ⟨a, ta, tb, ea, ma⟩ := tab_pair tab hi'
    rw [hv] at ea
    cases ea
    have hprev : cs.length ≤ lo K i := by
      rw [hcl]
      split
      · exact Nat.zero_le _
      · have := M.gap (i - 1) i (by omega) hi'; omega
    have hfi := (M.full i hi').1
    have hle := M.le i hi'
    refine unpack2 F₃ hh (.tail _ (.tail _ (List.mem_append.mpr (.inl ma)))) (fun h₄ t₄ F₄ => ?_) rfl rfl rfl
    clear F₃
    obtain ⟨d, hd⟩ : ∃ d : Nat, d = lo K i - cs.length := ⟨_, rfl⟩
    obtain ⟨e, he⟩ : ∃ e : Nat, e = hi K i - lo K i := ⟨_, rfl⟩
    have ec : (Str.mk cs.toArray).length = cs.length := by simp [Str.length]
    walk_at "go"
    refine lenS (by rw [ec]; omega) fun _ _ => ?_
    rw [ec]
    walk_at "go"
    rw [show (lo K i : Int) - (cs.length : Int) = (d : Int) by omega]
    refine mulS (c := 46) (n := d) (by omega) fun _ _ => ?_
    walk_at "go"
    refine addS (fun _ _ => ?_) (by rw [List.length_replicate]; omega)
    walk_at "go"
    rw [show (hi K i : Int) - (lo K i : Int) = (e : Int) by omega]
    refine mulS (c := 35) (n := e) (by omega) fun _ _ => ?_
    walk_at "go"
    refine addS (fun _ _ => ?_) (by rw [List.length_append, List.length_replicate, List.length_replicate]; omega)
    walk_at "go"
    rename Fn _ _ _ _ _ _ _ => Fz
    have l1 : (cs ++ List.replicate d 46).length = lo K i := by rw [List.length_append, List.length_replicate]; omega
    have l2 : (cs ++ List.replicate d 46 ++ List.replicate e 35).length = hi K i := by rw [List.length_append, l1, List.length_replicate]; omega
    refine hP _ _ (TurnPost.next Fz ⟨rfl, _, _, _, rfl, ms, ?_, fun c hc => ?_⟩)
    · rw [l2, if_neg (by omega)]; rfl
    · rw [l2] at hc
      by_cases c1 : c < lo K i
      · rw [getD_appN (by omega)]
        have no : (∃ p, p < i + 1 ∧ lo K p ≤ c ∧ c < hi K p) ↔ ∃ p, p < i ∧ lo K p ≤ c ∧ c < hi K p := by
          constructor
          · rintro ⟨p, h1, h2, h3⟩
            by_cases e : p = i
            · subst e; omega
            · exact ⟨p, by omega, h2, h3⟩
          · rintro ⟨p, h1, h2, h3⟩; exact ⟨p, by omega, h2, h3⟩
        rw [no]
        by_cases c2 : c < cs.length
        · rw [getD_appN c2]; exact hcs c c2
        · rw [getD_appR (by omega), getD_rep (by omega)]
          refine ⟨fun h => by omega, ?_⟩
          rintro ⟨p, h1, h2, h3⟩
          exfalso
          have hz : hi K p ≤ cs.length := by
            rw [hcl, if_neg (by omega)]
            by_cases e : p = i - 1
            · subst e; exact Nat.le_refl _
            · have := M.gap p (i - 1) (by omega) (by omega)
              have := (M.full (i - 1) (by omega)).1
              omega
          omega
      · rw [getD_appR (by omega), l1, getD_rep (by omega)]
        exact ⟨fun _ => ⟨i, by omega, by omega, hc⟩, fun _ => rfl⟩
  · rintro m U h' t' ⟨rfl, cs, tl, ts, ml, ms, hcl, hcs⟩ F₃
    clear F F₂
    have hcn : cs.length ≤ n := by
      rw [hcl]
      split
      · exact Nat.zero_le _
      · exact M.le _ (by omega)
    obtain ⟨d, hd⟩ : ∃ d : Nat, d = n - cs.length := ⟨_, rfl⟩
    have ec : (Str.mk cs.toArray).length = cs.length := by simp [Str.length]
    walk_at "go"
    refine lenS (by rw [ec]; omega) fun _ _ => ?_
    rw [ec]
    walk_at "go"
    rw [show (n : Int) - (cs.length : Int) = (d : Int) by omega]
    refine mulS (c := 46) (n := d) (by omega) fun _ _ => ?_
    walk_at "go"
    refine addS (fun _ _ => ?_) (by rw [List.length_replicate]; omega)
    refine Ret.mk F₃.keep ⟨_, _, rfl, by rw [List.length_append, List.length_replicate]; omega, fun c hc => ?_⟩
    rw [hkl] at hcs hcl
    by_cases c2 : c < cs.length
    · rw [getD_appN c2]; exact hcs c c2
    · rw [getD_appR (by omega), getD_rep (by omega)]
      refine ⟨fun h => by omega, ?_⟩
      rintro ⟨p, h1, h2, h3⟩
      exfalso
      have hz : hi K p ≤ cs.length := by
        rw [hcl, if_neg (by omega)]
        by_cases e : p = K.length - 1
        · subst e; exact Nat.le_refl _
        · have := M.gap p (K.length - 1) (by omega) (by omega)
          have := (M.full (K.length - 1) (by omega)).1
          omega
      omega


section
variable {prog : Program} {w : World} {A : Around} {E : Value → Shared → Prop} {hp : Heap} {g : Array GenState} {dr : Drawn} {tk : Nat} {os : OsState} {Q : Value → Shared → Prop}
theorem seqIx {k : Int} {n : Nat} (h0 : 0 ≤ k) (h1 : k < n) : seqIndex? k n = some k.toNat := by
  have e : ¬ k < 0 := by omega
  simp [seqIndex?, e, h0, h1]
theorem itemS {value slice : Expr} {cs : List Nat} {t u : Tok} {k : Int} (h0 : 0 ≤ k) (h1 : k < cs.length) (hb : cs.length < 2 ^ 62) (h : ∀ t tk, Q (.str ⟨#[cs.getD k.toNat 0]⟩ t) ⟨hp, g, dr, tk, os⟩)
    (hs : subscripted slice false (.str ⟨cs.toArray⟩ t) (.int k u) = operate [.str ⟨cs.toArray⟩ t, .int k u] (getItem (.str ⟨cs.toArray⟩ t) (.int k u)) := by with_unfolding_all rfl)
    (ht : ∀ r, letTemporaryGo value (.str ⟨cs.toArray⟩ t) r = pure () := by intro _; with_unfolding_all rfl) :
    wpAny (model prog w) A (subscriptTail value slice (.str ⟨cs.toArray⟩ t) (.int k u)) Q E ⟨hp, g, dr, tk, os⟩ := by
  refine subscriptTail_builtin (typeIs_str _ _ t) slot_str_getitem.lookup (PyProof.Rows.getItem_str (c := cs.getD k.toNat 0) ?_ ?_ (h _ _)) hs ht
  · rw [decide_eq_false (by omega), decide_eq_false (by omega)]; rfl
  · have e : (Str.mk cs.toArray).length = cs.length := by simp [Str.length]
    rw [e, seqIx h0 h1]
    simp [List.getD, show k.toNat < cs.length by omega]
theorem one_beq (c : Nat) : ((⟨#[c]⟩ : Str) == Str.ofString "#") = decide (c = 35) := by
  rw [← toList_beq]
  show ([c] == [35]) = _
  by_cases e : c = 35
  · subst e; rfl
  · rw [decide_eq_false e]; simpa using e
theorem eqH {c : Nat} {t u : Tok} {s : Shared} (h : Q (.bool (decide (c = 35))) s) : wpAny (model prog w) A (compareOp .Eq (.str ⟨#[c]⟩ t) (.str (Str.ofString "#") u)) Q E s :=
  PyProof.Rows.eq_str (by rw [one_beq]; exact h)
theorem neH {c : Nat} {t u : Tok} {s : Shared} (h : Q (.bool (!decide (c = 35))) s) : wpAny (model prog w) A (compareOp .NotEq (.str ⟨#[c]⟩ t) (.str (Str.ofString "#") u)) Q E s :=
  PyProof.Rows.ne_str (by rw [bne, one_beq]; exact h)
end
/-- what search of the runs' program answers on the line cs -/
def RU (cs : List Nat) (S : Int → Option (Int × Int)) : Prop := ∀ k p b : Nat, k ≤ p → (∀ q, k ≤ q → q < p → q < cs.length ∧ cs.getD q 0 ≠ 35) → (p < cs.length → cs.getD p 0 = 35) → p ≤ b → (∀ q, p ≤ q → q < b → q < cs.length ∧ cs.getD q 0 = 35) → (b < cs.length → cs.getD b 0 ≠ 35) →
  S k = if p < b then some ((p : Int), (b : Int)) else none

theorem searchR_spec {prog : Program} {w : World} {h : Heap} {f c fh ch : Addr} {name qual : Str} {dV doc pm ctv : Value} {cs : List Nat} {tx tk : Tok} {k : Nat} {S : Int → Option (Int × Int)} {mg mb : Str → Option Value} {args : List Value}
    (hlen : mg "len" = none) (hlen' : mb "len" = some (.builtin "len")) (hhit : mg "_law_hit" = some (.ref fh)) (hsz : cs.length < 1000) (hS : RU cs S)
    (G : G2 mg mb fh ch h)
    (e : h.get? f = some (kdv_obj name qual (nestOf 13).1 (.stmts (nestOf 13).2.1) (nestOf 13).2.2 [] dV doc pm c ctv)) (hc : CodeG h c)
    (hb : ∀ s₀ t, BindsTo (St s₀ h t) (kdv_fn name qual (nestOf 13).1 (.stmts (nestOf 13).2.1) (nestOf 13).2.2 [] dV doc pm (.ref c) ctv) ⟨args, []⟩ [("line", .str ⟨cs.toArray⟩ tx), ("place", .int k tk)]) :
    Mine.Calls prog w 4 (.ref f) ⟨args, []⟩ h (SearchPost prog w (S k) h) := by
  refine Calls.enter e rfl hc.rec' G.gl.lim hb ?_ rfl rfl rfl rfl
  intro A s₀ t q L h₁ hr F
  replace F : Fn h L (fun _ => none) [] [] [] h₁ := F
  refine stL F (fun h₂ t₂ F₂ => ?_) rfl rfl
  refine stL F₂ (fun h₃ t₃ F₃ => ?_) rfl rfl
  refine ⟨h₃, _, rfl, F₃.keep, fun A hr => ?_⟩
  have hh := hr.handled
  have GG := G.gl
  have ec : (Str.mk cs.toArray).length = cs.length := by simp [Str.length]
  clear F F₂
  show wpAny _ _ (execs (_ :: _) _) _ _ _
  refine wpAny_execs_cons ?_
  refine while_H (fun m' s => ∃ (h' : Heap) (t' : Nat) (m : Str → Option Value) (p : Nat) (tp : Tok), s = St s₀ h' t' ∧ Fn h L m [] [] [] h' ∧ m "line" = some (.str ⟨cs.toArray⟩ tx) ∧ m "place" = some (.int p tp) ∧ k ≤ p ∧ (∀ q, k ≤ q → q < p → q < cs.length ∧ cs.getD q 0 ≠ 35) ∧ m' = 1000 - p) (1000 - k)
    ⟨_, _, _, k, tk, rfl, F₃, rfl, rfl, Nat.le_refl _, fun q h1 h2 => by omega, rfl⟩ ?_
  clear F₃
  rintro _ s N D hN hD ⟨h', t', m, p, tp, rfl, F, ml, mp, hkp, hpre, rfl⟩
  have stop : (p < cs.length → cs.getD p 0 = 35) → ∀ t', wpAny (model prog w) A (execs ((nestOf 13).2.1.drop 1) (envX q (nestOf 13).2.2 L f (.ref c) [])) (Ret s₀ h (SearchPost prog w (S k) h)) NoE (St s₀ h' t') := by
    intro hst t'
    show wpAny _ _ (execs (_ :: _) _) _ _ _
    walk_at "go"
    rename Fn _ _ _ _ _ _ _ => F₄
    refine while_H (fun m' s => ∃ (h' : Heap) (t' : Nat) (m : Str → Option Value) (b : Nat) (tp tb : Tok), s = St s₀ h' t' ∧ Fn h L m [] [] [] h' ∧ m "line" = some (.str ⟨cs.toArray⟩ tx) ∧ m "place" = some (.int p tp) ∧ m "behind" = some (.int b tb) ∧ p ≤ b ∧ (∀ q, p ≤ q → q < b → q < cs.length ∧ cs.getD q 0 = 35) ∧ m' = 1000 - b) (1000 - p)
      ⟨_, _, _, p, tp, _, rfl, F₄, ml, mp, rfl, Nat.le_refl _, fun q h1 h2 => by omega, rfl⟩ ?_
    clear F₄ F ml mp
    rintro _ s N₂ D₂ hN₂ hD₂ ⟨h', t', m, b, tp, tb, rfl, F, ml, mp, mb', hpb, hrun, rfl⟩
    have stop2 : (b < cs.length → cs.getD b 0 ≠ 35) → ∀ t', wpAny (model prog w) A (execs ((nestOf 13).2.1.drop 3) (envX q (nestOf 13).2.2 L f (.ref c) [])) (Ret s₀ h (SearchPost prog w (S k) h)) NoE (St s₀ h' t') := by
      intro hb t'
      have hSk := hS k p b hkp hpre hst hpb hrun hb
      show wpAny _ _ (execs (_ :: _) _) _ _ _
      walk_at "go"
      refine split_dec (fun hlt => ?_) (fun hlt => ?_)
      · walk_at "go"
        refine callDef G.ht ?_
        walk_at "go"
        refine ⟨F.keep, ?_⟩
        refine callG (hit_spec (G.ht.kept F.keep) (F.keep.code _ G.cp) (GG.kept F.keep)) (hr.less (by omega)) ?_
        intro v h₈ t₈ k₈ hpost
        rw [if_pos (by omega)] at hSk
        rw [hSk]
        exact Ret.mk (F.keep.trans k₈) (hpost.before F.keep)
      · walk_at "go"
        rw [if_neg (by omega)] at hSk
        rw [hSk]
        exact Ret.mk F.keep rfl
    walk_at "go"
    refine lenS (by rw [ec]; omega) fun _ _ => ?_
    rw [ec]
    walk_at "go"
    refine split_dec (fun hlt => ?_) (fun hlt => ?_)
    · walk_at "go"
      refine itemS (k := (b : Int)) (by omega) hlt (by omega) fun _ _ => ?_
      walk_at "go"
      refine eqH ?_
      rw [show (b : Int).toNat = b by omega]
      walk_at "go"
      refine split_dec (fun he => ?_) (fun he => ?_)
      · walk_at "go"
        rename Fn _ _ _ _ _ _ _ => F₄
        refine hN₂ _ ⟨1000 - (b + 1), by omega, _, _, _, b + 1, _, _, rfl, F₄, ml, mp, rfl, by omega, fun q h1 h2 => ?_, rfl⟩
        by_cases e : q = b
        · subst e; exact ⟨by omega, he⟩
        · exact hrun q h1 (by omega)
      · walk_at "gs"
        refine hD₂ _ _ ?_
        exact stop2 (fun _ => he) _
    · walk_at "gs"
      refine hD₂ _ _ ?_
      exact stop2 (fun h => by omega) _
  walk_at "go"
  refine lenS (by rw [ec]; omega) fun _ _ => ?_
  rw [ec]
  walk_at "go"
  refine split_dec (fun hlt => ?_) (fun hlt => ?_)
  · walk_at "go"
    refine itemS (k := (p : Int)) (by omega) hlt (by omega) fun _ _ => ?_
    walk_at "go"
    refine neH ?_
    rw [show (p : Int).toNat = p by omega]
    walk_at "go"
    by_cases he : cs.getD p 0 = 35
    · rw [decide_eq_true he]
      walk_at "gs"
      refine hD _ _ ?_
      exact stop (fun _ => he) _
    · rw [decide_eq_false he]
      walk_at "go"
      rename Fn _ _ _ _ _ _ _ => F₄
      refine hN _ ⟨1000 - (p + 1), by omega, _, _, _, p + 1, _, rfl, F₄, ml, rfl, by omega, fun q h1 h2 => ?_, rfl⟩
      by_cases e : q = p
      · subst e; exact ⟨by omega, he⟩
      · exact hpre q h1 (by omega)
  · walk_at "gs"
    refine hD _ _ ?_
    exact stop (fun h => by omega) _

theorem runs_spec {prog : Program} {w : World} {h : Heap} {fa c fh ch : Addr} {mg mb : Str → Option Value}
    (D : IsDef pw2 13 h fa .none .none c) (hc : CodeG h c)
    (hlen : mg "len" = none) (hlen' : mb "len" = some (.builtin "len")) (hhit : mg "_law_hit" = some (.ref fh)) (GG : Gl mg mb h) :
    Mine.Calls prog w 2 (.ref fa) ⟨[], []⟩ h (fun v h' => ∃ p N Cs, v = .ref p ∧ New h h' N ∧ (∀ c ∈ Cs, CodeG h' c) ∧
      ∀ (cs : List Nat) (tx : Tok) (S : Int → Option (Int × Int)), cs.length < 1000 → RU cs S → Prog prog w (G2 mg mb fh ch) 4 (.str ⟨cs.toArray⟩ tx) S p N Cs) := by
  obtain ⟨name, qual, doc, pm, an, ct, oc, od, osl, e⟩ := D
  refine Calls.enter (binds := []) e rfl hc.rec' GG.lim (fun s₀ t => BindsTo.of_eq rfl) ?_ rfl rfl rfl rfl
  intro A s₀ t q L h₁ hr F
  replace F : Fn h L (fun _ => none) [] [] [] h₁ := F
  refine ⟨h₁, _, rfl, F.keep, fun A hr => ?_⟩
  have hh := hr.handled
  replace F := F.recallC hc
  show wpAny _ _ (execs (_ :: _) _) _ _ _
  walk_at "go"
  refine defT F GG rfl (.head _) rfl rfl rfl fun f d c' ctv doc pm td h₆ t₆ hf hd k₆ F₆ => ?_
  have hf0 := F.keep.gone hf
  have hd0 := F.keep.gone hd
  clear F
  walk_at "go"
  rename Fn _ _ _ _ _ _ _ => F₇
  refine lambdaU F₇ GG rfl (.tail _ (.head _)) rfl rfl rfl fun fp cp' ctp docp pmp h₈ t₈ hfp k₈ F₈ => ?_
  clear F₇ F₆
  walk_at "go"
  rename Fn _ _ _ _ _ _ _ => F₉
  refine fn_setattr F₉ fn_search fun dd od h₁₀ t₁₀ hod F₁₀ => ?_
  walk_at "go"
  obtain ⟨N, hN, hsub, mk⟩ := progFin (prog := prog) (w := w) (Cs := [c']) F₁₀ hod (New.cons (F₁₀.get (.head _)) (NF.nt nofun) hf0 (New.cons (F₁₀.get (.tail _ (.head _))) (NF.nt nofun) hd0 (New.nil _ _))) (.head _)
  refine Ret.mk F₁₀.keep ⟨fp, N, [c'], rfl, hN, fun c hc => by rw [List.mem_singleton.mp hc]; exact F₁₀.codes _ (by walk_at "mem"), fun cs tx S hcl hS => ?_⟩
  refine mk (R := N) (fun q hq => hq) (fun g Hg Gg => ?_) fun k t g hk Hg Gg => ?_
  · refine searchR_spec (k := 0) (tk := td) (tx := tx) hlen hlen' hhit hcl hS Gg (Hg.obj _ (hsub _ (.head _))) (Hg.code _ (.head _)) fun s₀ t => ?_
    have hdd : (St s₀ g t).heap.get? d = some (kdv_tup [.int 0 td]) := Hg.obj (d, kdv_tup [.int 0 td]) (hsub _ (by walk_at "mem"))
    exact BindsTo.of_defaults rfl hdd rfl rfl rfl
  · obtain ⟨k', rfl⟩ : ∃ k' : Nat, k = k' := ⟨k.toNat, by omega⟩
    refine searchR_spec (k := k') (tk := t) (tx := tx) hlen hlen' hhit hcl hS Gg (Hg.obj _ (hsub _ (.head _))) (Hg.code _ (.head _)) fun s₀ t => ?_
    have hdd : (St s₀ g t).heap.get? d = some (kdv_tup [.int 0 td]) := Hg.obj (d, kdv_tup [.int 0 td]) (hsub _ (by walk_at "mem"))
    exact BindsTo.of_defaults rfl hdd rfl rfl rfl


/-! ### the runs of a line -/
def Sr (cs : List Nat) (k : Int) : Option (Int × Int) :=
  let p := nxt (fun q => cs.getD q 0 == 35) (cs.length - k.toNat) k.toNat
  let b := nxt (fun q => !(cs.getD q 0 == 35)) (cs.length - p) p
  if p < b then some ((p : Int), (b : Int)) else none
theorem Sr.at {cs : List Nat} {k p b : Nat} (h1 : k ≤ p) (h2 : ∀ q, k ≤ q → q < p → q < cs.length ∧ cs.getD q 0 ≠ 35) (h3 : p < cs.length → cs.getD p 0 = 35) (h4 : p ≤ b) (h5 : ∀ q, p ≤ q → q < b → q < cs.length ∧ cs.getD q 0 = 35) (h6 : b < cs.length → cs.getD b 0 ≠ 35) :
    Sr cs k = if p < b then some ((p : Int), (b : Int)) else none := by
  have e1 : nxt (fun q => cs.getD q 0 == 35) (cs.length - k) k = p := nxt_eq h1 (fun q a b => ⟨(h2 q a b).1, by simpa using (h2 q a b).2⟩) (fun h => by simpa using h3 h)
  have e2 : nxt (fun q => !(cs.getD q 0 == 35)) (cs.length - p) p = b := nxt_eq h4 (fun q a b => ⟨(h5 q a b).1, by simpa using (h5 q a b).2⟩) (fun h => by simpa using h6 h)
  simp only [Sr, Int.toNat_natCast, e1, e2]
theorem Sr.ru (cs : List Nat) : RU cs (Sr cs) := fun k p b h1 h2 h3 h4 h5 h6 => Sr.at h1 h2 h3 h4 h5 h6
theorem Sr.nonneg {cs : List Nat} {k i j : Int} (h : Sr cs k = some (i, j)) : 0 ≤ i ∧ i ≤ j := by
  unfold Sr at h
  simp only at h
  split at h
  · cases h; omega
  · cases h
section
variable {s : Nat → Int} {n : Nat} {K : List (Nat × Nat)} {cs : List Nat}
def posAt (K : List (Nat × Nat)) (a : Nat) : Nat := if a = 0 then 0 else hi K (a - 1)
theorem Sr.pos (M : MaxF s n K) (hl : cs.length = n) (hcs : ∀ c, c < n → (cs.getD c 0 = 35 ↔ ∃ p, p < K.length ∧ lo K p ≤ c ∧ c < hi K p)) {a : Nat} (ha : a ≤ K.length) :
    Sr cs (posAt K a) = if a < K.length then some ((lo K a : Int), (hi K a : Int)) else none := by
  have past : ∀ p, p < a → hi K p ≤ posAt K a := fun p hp => by
    unfold posAt
    rw [if_neg (by omega)]
    by_cases e : p = a - 1
    · subst e; exact Nat.le_refl _
    · have := M.gap p (a - 1) (by omega) (by omega)
      have := (M.full (a - 1) (by omega)).1
      omega
  have next : ∀ p, a < p → p < K.length → hi K a < lo K p := fun p h1 h2 => M.gap a p h1 h2
  by_cases e : a < K.length
  · rw [if_pos e]
    have hf := (M.full a e).1
    have hle := M.le a e
    have hpos : posAt K a ≤ lo K a := by
      unfold posAt
      split
      · exact Nat.zero_le _
      · have := M.gap (a - 1) a (by omega) e; omega
    have z := Sr.at (cs := cs) (k := posAt K a) (p := lo K a) (b := hi K a) hpos (fun q h1 h2 => ⟨by omega, fun h => ?_⟩) (fun h => ?_) (by omega) (fun q h1 h2 => ⟨by omega, (hcs q (by omega)).mpr ⟨a, e, h1, h2⟩⟩) (fun h hh => ?_)
    · rw [z, if_pos hf]
    · obtain ⟨p, p1, p2, p3⟩ := (hcs q (by omega)).mp h
      rcases Nat.lt_trichotomy p a with c | c | c
      · have := past p c; omega
      · subst c; omega
      · have := next p c p1; omega
    · exact (hcs _ (by omega)).mpr ⟨a, e, Nat.le_refl _, hf⟩
    · obtain ⟨p, p1, p2, p3⟩ := (hcs _ (by omega)).mp hh
      rcases Nat.lt_trichotomy p a with c | c | c
      · have := past p c; omega
      · subst c; omega
      · have := next p c p1; omega
  · rw [if_neg e]
    have hpn : posAt K a ≤ n := by
      unfold posAt
      split
      · exact Nat.zero_le _
      · exact M.le _ (by omega)
    have z := Sr.at (cs := cs) (k := posAt K a) (p := n) (b := n) hpn (fun q h1 h2 => ⟨by omega, fun h => ?_⟩) (fun h => by omega) (by omega) (fun q h1 h2 => by omega) (fun h => by omega)
    · rw [z, if_neg (Nat.lt_irrefl _)]
    · obtain ⟨p, p1, p2, p3⟩ := (hcs q h2).mp h
      have := past p (by omega)
      omega
/-- the match told by the col -/
def toldAt (K : List (Nat × Nat)) (r : Nat) : Option (Int × Int) := if r = 0 then none else some ((lo K (r - 1) : Int), (hi K (r - 1) : Int))
theorem Sr.run (M : MaxF s n K) (hl : cs.length = n) (hcs : ∀ c, c < n → (cs.getD c 0 = 35 ↔ ∃ p, p < K.length ∧ lo K p ≤ c ∧ c < hi K p)) {col r : Nat} (hr : r ≤ K.length) (h1 : ∀ p, p < r → hi K p ≤ col) (h2 : ∀ p, r ≤ p → p < K.length → col < hi K p) :
    ∀ (d a : Nat) (found res : Option (Int × Int)), a + d = K.length → a ≤ r → res = (if r = a then found else toldAt K r) →
    match Sr cs (posAt K a) with
    | none => res = found
    | some (i, j) => 0 ≤ i ∧ i ≤ j ∧ ∃ m, SR (Sr cs) col m i j found res
  | 0, a, found, res, ha, har, hres => by
    rw [Sr.pos M hl hcs (by omega), if_neg (by omega)]
    rw [if_pos (by omega)] at hres
    exact hres
  | d + 1, a, found, res, ha, har, hres => by
    have e : a < K.length := by omega
    have hf := (M.full a e).1
    rw [Sr.pos M hl hcs (by omega), if_pos e]
    refine ⟨by omega, by omega, ?_⟩
    by_cases c : r = a
    · rw [if_pos c] at hres
      subst hres
      have := h2 a (by omega) e
      exact ⟨0, .stop (by omega)⟩
    · rw [if_neg c] at hres
      have hc := h1 a (by omega)
      have hp : posAt K (a + 1) = hi K a := by unfold posAt; rw [if_neg (by omega)]; rfl
      have hn : nextAt (lo K a) (hi K a) = (posAt K (a + 1) : Int) := by unfold nextAt; rw [if_neg (by omega), hp]
      have z := Sr.run M hl hcs hr h1 h2 d (a + 1) (some ((lo K a : Int), (hi K a : Int))) res (by omega) (by omega) (by
        rw [hres]
        split
        · rename_i q; subst q; unfold toldAt; rw [if_neg (by omega)]; rfl
        · rfl)
      cases hS : Sr cs (posAt K (a + 1)) with
      | none =>
        rw [hS] at z
        rw [z]
        exact ⟨0, .last (by omega) (by omega) (by rw [hn]; exact hS)⟩
      | some ij =>
        obtain ⟨i', j'⟩ := ij
        rw [hS] at z
        obtain ⟨_, _, m, z⟩ := z
        exact ⟨m + 1, .step (by omega) (by omega) (by rw [hn]; exact hS) z⟩
theorem Sr.first (M : MaxF s n K) (hl : cs.length = n) (hcs : ∀ c, c < n → (cs.getD c 0 = 35 ↔ ∃ p, p < K.length ∧ lo K p ≤ c ∧ c < hi K p)) {col r : Nat} (hr : r ≤ K.length) (h1 : ∀ p, p < r → hi K p ≤ col) (h2 : ∀ p, r ≤ p → p < K.length → col < hi K p) :
    match Sr cs 0 with
    | none => toldAt K r = none
    | some (i, j) => 0 ≤ i ∧ i ≤ j ∧ ∃ m, SR (Sr cs) col m i j none (toldAt K r) :=
  Sr.run M hl hcs hr h1 h2 K.length 0 none (toldAt K r) (by omega) (Nat.zero_le _) (by
    split
    · rename_i q; subst q; rfl
    · rfl)
end
/-! ### the row turned round -/
theorem psum_turn (ns : List Int) : ∀ j, j ≤ ns.length → psum ns.reverse j = psum ns ns.length - psum ns (ns.length - j)
  | 0, _ => by simp [psum]
  | j + 1, h => by
    have ih := psum_turn ns j (by omega)
    have e : ns.length - j = (ns.length - (j + 1)) + 1 := by omega
    have e2 : ns.reverse.getD j 0 = ns.getD (ns.length - (j + 1)) 0 := by
      simp only [List.getD]
      rw [List.getElem?_reverse (by omega), show ns.length - 1 - j = ns.length - (j + 1) by omega]
    show psum ns.reverse j + _ = _
    rw [ih, e2, e]
    show _ - (psum ns (ns.length - (j + 1)) + ns.getD (ns.length - (j + 1)) 0) + _ = _
    omega
theorem same_turned {ns : List Int} {K K' : List (Nat × Nat)} (M : MaxF (fun j => (sumsL ns).getD j 0) ns.length K) (M' : MaxF (fun j => (sumsL ns.reverse).getD j 0) ns.length K') : K = K'.reverse.map fun x => (ns.length - x.2, ns.length - x.1) := by
  refine M.mem.uniq (MaxM.turn (c := psum ns ns.length) (t := fun j => (sumsL ns.reverse).getD j 0) (fun j hj => ?_) M'.mem)
  show (sumsL ns.reverse).getD j 0 = _ - (sumsL ns).getD (ns.length - j) 0
  rw [sumsL_at (by simpa using hj), sumsL_at (by omega), psum_turn ns j hj]
theorem MaxF.find {s : Nat → Int} {n : Nat} {K : List (Nat × Nat)} (M : MaxF s n K) {a b r : Nat} (F : Full s a b) (hb : b ≤ n) (hr : r ≤ K.length) (h1 : ∀ p, p < r → lo K p ≤ a) (h2 : ∀ p, r ≤ p → p < K.length → a < lo K p) : 0 < r ∧ b ≤ hi K (r - 1) := by
  obtain ⟨p, hp, hp1, hp2⟩ := M.all a b F hb
  have hpr : p < r := by
    by_cases e : p < r
    · exact e
    · have := h2 p (by omega) hp; omega
  refine ⟨by omega, ?_⟩
  by_cases e : p = r - 1
  · subst e; exact hp2
  · have g := M.gap p (r - 1) (by omega) (by omega)
    have := h1 (r - 1) (by omega)
    have := F.1
    omega


theorem none_of_le {h : Heap} {a : Addr} (ha : h.objs.size ≤ a) : h.get? a = none := by
  cases e : h.get? a with
  | none => rfl
  | some o' => exact absurd (Heap.lt_size e) (Nat.not_lt.mpr ha)
section
variable {prog : Program} {w : World} {A : Around} {E : Value → Shared → Prop} {hp : Heap} {g : Array GenState} {dr : Drawn} {tk : Nat} {os : OsState} {Q : Value → Shared → Prop} {env : Env}
inductive CbI (n1 : Nat) (g : Array GenState) (dr : Drawn) (os : OsState) (hp : Heap) (c d it l : Addr) (vs : List Value) (T : List (Addr × Obj)) (J : Nat → List Value → List (Addr × Obj) → Prop) (k : Nat) (s' : Shared) : Prop
  | mk (h' : Heap) (tk i : Nat) (ys : List Value) (k' : Nat) (m' : Str → Option Value) (N : List (Addr × Obj)) (o : Obj) (e : s' = ⟨h', g, dr, tk, os⟩) (hi : i ≤ vs.length) (hk : k = n1 - i) (hy : ys.length = i) (st : h'.IsListIter it l i ∧ h'.IsList l vs.toArray) (F : Fn hp c m' ((d, listOf ys.toArray k') :: N) ((it, o) :: T) [] h') (hJ : J i ys N)
/-- [elt for x, x₂ in l], behind the iterable -/
theorem compBlock {elt iter : Expr} {x x₂ : Str} {px px₂ tp pos : Pos} {kk : Nat} {scope : Scope} {cl : List (Str × Addr)} {l : Addr} {vs : List Value} {n : Nat} {T : List (Addr × Obj)}
    (hh : A.handled = none) (hcell : ∀ y ∈ scope.names, y.2 ≠ .cell) (hkind : scope.kind = .function) (hx : scope.names.lookup x = some .local) (hx₂ : scope.names.lookup x₂ = some .local) (hxx : x ≠ x₂)
    (hT : ∀ p ∈ T, hp.get? p.1 = some p.2 ∧ NT p.2) (hl : (l, listOf vs.toArray n) ∈ T) (hsz : vs.length ≤ sizeLine)
    (J : Nat → List Value → List (Addr × Obj) → Prop) (h0 : J 0 [] [])
    (hvs : ∀ (i : Nat) v, vs[i]? = some v → ∃ t v1 v2, v = .ref t ∧ (t, kdv_tup [v1, v2]) ∈ T)
    (turn : ∀ i t v1 v2 ys N D C m' h' I o tk k, vs[i]? = some (.ref t) → (t, kdv_tup [v1, v2]) ∈ T → J i ys N → (Fn hp C m' ((D, listOf ys.toArray k) :: N) ((I, o) :: T) [] h' → m' x = some v1 → m' x₂ = some v2 →
      wpAny (model prog w) A (eval elt (compEnvC scope cl C env)) (fun y s' => ∃ h'' tk'' N', s' = ⟨h'', g, dr, tk'', os⟩ ∧ Fn hp C m' ((D, listOf ys.toArray k) :: N') ((I, o) :: T) [] h'' ∧ J (i + 1) (ys ++ [y]) N') NoE ⟨h', g, dr, tk, os⟩))
    (done : ∀ D h' tk ys k N, Keep hp h' → New hp h' ((D, listOf ys.toArray k) :: N) → J vs.length ys N → Q (.ref D) ⟨h', g, dr, tk, os⟩) :
    wpAny (model prog w) A (pyIter (.ref l)) (fun it s₂ => wpAny (model prog w) A (newList []) (fun acc s₃ => wpAny (model prog w) A (newFunctionEnv scope env.globals cl [] env.qual none .none (some env)) (fun cenv s₄ =>
      codeAny (model prog w) A (.compStart (.ListComp elt [⟨.Tuple [.Name x px, .Name x₂ px₂] kk tp, iter, [], 0⟩] scope pos) 0 it acc { cenv with scope := relabel scope env }) (compPost (model prog w) A E none Q acc cenv.locals) s₄) E s₃) E s₂) E ⟨hp, g, dr, tk, os⟩ := by
  have hls : hp.IsList l vs.toArray := ⟨_, (hT _ hl).1, rfl, n, rfl⟩
  refine wpAny_pyIter_list (s := ⟨hp, g, dr, tk, os⟩) hls ?_
  have hg : ∀ b o, hp.get? b = some o → b ≠ hp.objs.size := fun b o e => ne_of_get e (get_size _)
  have W := Walks.list (prog := prog) (w := w) hh hp.objs.size l (hg _ _ (hT _ hl).1) vs.toArray
  have hI0 : hp.get? hp.objs.size = none := get_size _
  have hTI : ∀ p ∈ T, p.1 ≠ hp.objs.size := fun p h => hg _ _ (hT p h).1
  refine wpAny_newObj_type (wpAny_newFunctionEnv hcell (by intro y hy; simp at hy) (fun h₁ hns₁ hsb₁ => ?_) hkind)
  dsimp only at hns₁ hsb₁ ⊢
  generalize hH1 : hp.push { cls := .type "list_iterator", data := .fields #[.ref l, .int 0 0] } = H1 at hns₁ hsb₁ ⊢
  generalize hH2 : H1.push { cls := .type "list", dict := none, data := .seq ([] : List Value).toArray } = H2 at hns₁ hsb₁ ⊢
  have z1 : H1.objs.size = hp.objs.size + 1 := by rw [← hH1, Heap.size_push]
  have z2 : H2.objs.size = hp.objs.size + 1 + 1 := by rw [← hH2, Heap.size_push, z1]
  have up1 : ∀ b o, hp.get? b = some o → H1.get? b = some o := fun b o e => hH1 ▸ Heap.get?_push_of_some _ e
  have up2 : ∀ b o, H1.get? b = some o → H2.get? b = some o := fun b o e => hH2 ▸ Heap.get?_push_of_some _ e
  have up3 : ∀ b o, H2.get? b = some o → h₁.get? b = some o := fun b o e => hsb₁.extBut b o (Nat.ne_of_lt (Heap.lt_size e)) (Heap.get?_push_of_some _ e)
  have hC0 : hp.get? H2.objs.size = none := none_of_le (by rw [z2]; exact Nat.le_succ_of_le (Nat.le_succ _))
  have hD0 : hp.get? H1.objs.size = none := none_of_le (by rw [z1]; exact Nat.le_succ _)
  have eI : H1.get? hp.objs.size = some { cls := .type "list_iterator", data := .fields #[.ref l, .int 0 0] } := hH1 ▸ Heap.get?_push_size _ rfl
  have eD : H2.get? H1.objs.size = some (listOf ([] : List Value).toArray 0) := hH2 ▸ Heap.get?_push_size _ rfl
  have F : Fn hp H2.objs.size (fun y => ([] : List (Str × Value)).reverse.lookup y) [(H1.objs.size, listOf ([] : List Value).toArray 0)] ((hp.objs.size, { cls := .type "list_iterator", data := .fields #[.ref l, .int 0 0] }) :: T) [] h₁ := {
    keep := .ext fun b o e => up3 _ _ (up2 _ _ (up1 _ _ e))
    ns := hns₁
    above := hC0
    own := fun p h => by
      rw [List.mem_singleton.mp h]
      exact ⟨up3 _ _ eD, nofun, hD0, by rw [z1, z2]; exact Nat.ne_of_lt (Nat.lt_succ_self _)⟩
    know := fun p h => by
      rcases List.mem_cons.mp h with rfl | h
      · exact ⟨up3 _ _ (up2 _ _ eI), (fun ps e => by cases e), by rw [z2]; exact Nat.ne_of_lt (Nat.lt_succ_of_lt (Nat.lt_succ_self _))⟩
      · exact ⟨up3 _ _ (up2 _ _ (up1 _ _ (hT p h).1)), (hT p h).2, Nat.ne_of_lt (by rw [z2]; exact Nat.lt_succ_of_lt (Nat.lt_succ_of_lt (Heap.lt_size (hT p h).1)))⟩
    sep := fun p h q hq => by
      rw [List.mem_singleton.mp h]
      rcases List.mem_cons.mp hq with rfl | hq
      · exact fun e => by have e' : H1.objs.size = hp.objs.size := e; rw [z1] at e'; exact absurd e' (Nat.succ_ne_self _)
      · exact fun e => by have := (hT q hq).1; rw [← e] at this; rw [hD0] at this; cases this
    nodup := by simp
    codes := fun _ h => nomatch h }
  have st : H1.IsListIter hp.objs.size l 0 ∧ H1.IsList l vs.toArray := ⟨⟨_, eI, rfl, rfl⟩, ⟨_, up1 _ _ (hT _ hl).1, rfl, n, rfl⟩⟩
  have st1 : h₁.IsListIter hp.objs.size l 0 ∧ h₁.IsList l vs.toArray := W.frame _ _ _ st fun b _ o e => up3 _ _ (up2 _ _ e)
  have hobj : ∀ (i : Nat) (h : Heap), (h.IsListIter hp.objs.size l i ∧ h.IsList l vs.toArray) → ∃ o, h.get? hp.objs.size = some o ∧ NT o ∧ o.cls ≠ .type "code" := fun i h st => by
    obtain ⟨⟨o, ho, hc, hd⟩, _⟩ := st
    exact ⟨o, ho, (fun ps e => by rw [e] at hc; cases hc), by rw [hc]; simp⟩
  have keepSt : ∀ {i : Nat} {h h' : Heap} {m' : Str → Option Value} {U : List (Addr × Obj)} {o : Obj}, (h.IsListIter hp.objs.size l i ∧ h.IsList l vs.toArray) → h.get? hp.objs.size = some o → h.get? l = some (listOf vs.toArray n) → Fn hp H2.objs.size m' U ((hp.objs.size, o) :: T) [] h' → (h'.IsListIter hp.objs.size l i ∧ h'.IsList l vs.toArray) := fun st eo el F' => W.frame _ _ _ st fun b hb ob e => by
    rcases List.mem_cons.mp hb with rfl | hb
    · rw [eo] at e; cases e; exact F'.get (.head _)
    · rw [List.mem_singleton.mp hb] at e ⊢
      rw [el] at e; cases e; exact F'.get (.tail _ hl)
  clear hls st up1 up2 up3 eI eD
  have loop : ∀ t₁ : Nat, codeAny (model prog w) A (.compLoop (.ListComp elt [⟨.Tuple [.Name x px, .Name x₂ px₂] kk tp, iter, [], 0⟩] scope pos) 0 (.ref hp.objs.size) (.ref H1.objs.size) (compEnvC scope cl H2.objs.size env)) (compPost (model prog w) A E none Q (.ref H1.objs.size) H2.objs.size) ⟨h₁, g, dr, t₁, os⟩ := by
    intro t₁
    refine LCp.codeAny_compLoop_pair (CbI (vs.length + 1) g dr os hp H2.objs.size H1.objs.size hp.objs.size l vs T J) ?_ (vs.length + 1)
      ⟨h₁, t₁, 0, [], 0, _, [], _, rfl, Nat.zero_le _, rfl, rfl, st1, F, h0⟩
    rintro k s' ⟨h', tk', i, ys, k', m', N, o, rfl, hi, rfl, hyl, st', F', hJ⟩
    obtain ⟨o₁, e₁, n₁, c₁⟩ := hobj _ _ st'
    have eo : o₁ = o := Option.some.inj (e₁.symm.trans (F'.get (.head _)))
    subst eo
    by_cases hlt : i < vs.length
    · refine W.item i _ _ _ (by simpa using hlt) st' fun v h₂ tk₂ hP st₂ hk => ?_
      obtain ⟨o₂, e₂, n₂, c₂⟩ := hobj _ _ st₂
      have hxb : Heap.ExtBut hp.objs.size h' h₂ := fun b ob hb e => hk b ob (fun q => hb (List.mem_singleton.mp q)) e
      have F₂ := (F'.other hI0 c₁ hxb hTI).addT e₂ n₂ (F'.know _ (.head _)).2.2 (fun p hp => F'.sep p hp _ (.head _))
      have hP' : vs[i]? = some v := by simpa using hP
      obtain ⟨t, v1, v2, rfl, hmt⟩ := hvs i v hP'
      refine wpAny_letOwnedTupleGo_listiter st₂.1 ?_
      refine assign_Tuple_tuple (items := #[v1, v2]) hh ⟨_, F₂.get (.tail _ hmt), rfl, 0, rfl⟩ rfl rfl fun h₅ he => ?_
      have F₅ := F₂.kept (Keep.ext fun b o e => he b o (Nat.ne_of_lt (Heap.lt_size e)) e)
      refine assignInOrder_cons (wpAny_assign_Name (wpAny_storeName_local (lookup_relabel_local hx) F₅.ns (fun h₆ hn₆ hs₆ => ?_) (by simp [compEnvC, relabel, hkind])))
      have F₆ := F₅.set hn₆ hs₆
      refine assignInOrder_cons (wpAny_assign_Name (wpAny_storeName_local (lookup_relabel_local hx₂) F₆.ns (fun h₇ hn₇ hs₇ => ?_) (by simp [compEnvC, relabel, hkind])))
      have F₇ := F₆.set hn₇ hs₇
      refine assignInOrder_nil ?_
      refine wpAny_mono (turn i t v1 v2 ys N H1.objs.size H2.objs.size _ h₇ hp.objs.size o₂ _ k' hP' hmt hJ F₇ (by simp [hxx]) (by simp)) (fun y s₄ h₄ => ?_) fun _ _ x => x.elim
      obtain ⟨h₈, tk₈, N', rfl, F₈, hJ'⟩ := h₄
      refine wpAny_mono (appendG (Q := fun v s' => ∃ h', s' = ⟨h', g, dr, tk₈, os⟩ ∧ Fn hp H2.objs.size _ ((H1.objs.size, listOf (ys ++ [y]).toArray (k' + 1)) :: N') ((hp.objs.size, o₂) :: T) [] h') (E := NoE) F₈ (fun h' F' => ⟨h', rfl, F'⟩) (by omega)) (fun _ s₅ h₅ => ?_) fun _ _ x => x.elim
      obtain ⟨h₉, rfl, F₉⟩ := h₅
      exact ⟨vs.length + 1 - (i + 1), by omega, h₉, tk₈, i + 1, ys ++ [y], k' + 1, _, N', o₂, rfl, hlt, rfl, by rw [List.length_append, List.length_singleton, hyl], keepSt st₂ e₂ (F₂.get (.tail _ hl)) F₉, F₉, hJ'⟩
    · have hin : i = vs.length := by omega
      subst hin
      refine W.done _ _ _ (by simpa using st') fun h₂ tk₂ hk => ?_
      have hxb : Heap.ExtBut hp.objs.size h' h₂ := fun b ob hb e => hk b ob (fun q => hb (List.mem_singleton.mp q)) e
      have F₂ := F'.other hI0 c₁ hxb hTI
      refine ⟨m', F₂.ns, fun h₃ hs₃ => done H1.objs.size h₃ tk₂ ys k' N ?_ (fun p hp => ?_) hJ⟩
      · obtain ⟨oL, eL, nL⟩ := F₂.getL
        exact F₂.keep.sameBut hs₃ F₂.above eL nL
      · have z := F₂.own p hp
        exact ⟨(hs₃.2 p.1 z.2.2.2).trans z.1, z.2.1.nt, z.2.2.1⟩
  exact codeAny_compStart_list (loop _) (W.self 0 _ _ _ st1 (loop _))
end


section
variable {prog : Program} {w : World} {A : Around} {E : Value → Shared → Prop} {s : Shared} {Q : Value → Shared → Prop}
open SeqAt in
theorem pairEq {a b : Addr} {i j i' j' : Int} {t u t' u' : Tok} (ha : s.heap.get? a = some (kdv_tup [.int i t, .int j u])) (hb : s.heap.get? b = some (kdv_tup [.int i' t', .int j' u'])) (hu : A.units < cLine) :
    EqAt A s (.ref a) (.ref b) (i == i' && j == j') := by
  by_cases e : a = b
  · subst e
    rw [ha] at hb
    cases hb
    simpa using EqAt.same (A := A) (s := s) (.ref a)
  · refine EqAt.of_refs e ?_
    have z := RcAt.tuples (A := A) (s := s) (l := a) (b := b) (e := fun k => if k = 0 then i == i' else j == j') ⟨_, ha, rfl, 0, rfl⟩ ⟨_, hb, rfl, 0, rfl⟩ hu fun k h1 h2 => (by
      match k, h1, h2 with
      | 0, _, _ => exact EqAt.int_int i t i' t'
      | 1, _, _ => exact EqAt.int_int j u j' u')
    simpa [List.range, List.range.loop] using z
open SeqAt Classical in
/-- x not in l, x one of the stretches in l -/
theorem notInP {T : List (Addr × Obj)} {l a : Addr} {vs : List Value} {n : Nat} {K : List (Nat × Nat)} {i j : Nat} {t u : Tok} (ho : s.heap.get? l = some (listOf vs.toArray n)) (tab : Tab T vs (prs K)) (hT : ∀ p ∈ T, s.heap.get? p.1 = some p.2) (ha : s.heap.get? a = some (kdv_tup [.int i t, .int j u])) (hm : (i, j) ∈ K) (hu : A.in1.units < cLine)
    (h : Q (.bool false) s) : wpAny (model prog w) A (compareOp .NotIn (.ref a) (.ref l)) Q E s := by
  have htl := tab.1
  rw [prs_len] at htl
  refine notIn_listAt (fun y => decide (∃ b t u, y = .ref b ∧ s.heap.get? b = some (kdv_tup [.int i t, .int j u]))) ⟨_, ho, rfl, n, rfl⟩ (fun y hy => ?_) ?_
  · obtain ⟨p, hp, ep⟩ := List.mem_iff_getElem.mp (show y ∈ vs by simpa using hy)
    obtain ⟨b, tb, ub, eb, mb⟩ := tab_pair tab (p := p) (by omega)
    have ey : y = .ref b := by
      rw [List.getElem?_eq_getElem hp, ep] at eb; exact Option.some.inj eb
    subst ey
    have hb := hT _ mb
    have z := pairEq (A := A.in1) hb ha hu
    have e : decide (∃ b' t u, Value.ref b = .ref b' ∧ s.heap.get? b' = some (kdv_tup [.int i t, .int j u])) = ((lo K p : Int) == i && (hi K p : Int) == j) := by
      by_cases c : lo K p = i ∧ hi K p = j
      · obtain ⟨c1, c2⟩ := c
        rw [c1, c2] at hb ⊢
        rw [decide_eq_true ⟨b, tb, ub, rfl, hb⟩]
        simp
      · rw [decide_eq_false (fun ⟨b', t', u', e1, e2⟩ => c (by
          cases e1
          rw [hb] at e2
          have e3 := Option.some.inj e2
          have e4 := congrArg Obj.data e3
          simp [kdv_tup] at e4
          omega))]
        symm
        by_cases c1 : (lo K p : Int) = i
        · have c2 : ¬ (hi K p : Int) = j := fun c2 => c ⟨by omega, by omega⟩
          simp [c2]
        · simp [c1]
    rw [e]; exact z
  · obtain ⟨p, hp, ep⟩ := mem_getD hm
    obtain ⟨b, tb, ub, eb, mb⟩ := tab_pair tab hp
    have hb := hT _ mb
    have el : lo K p = i := by unfold lo; rw [ep]
    have eh : hi K p = j := by unfold hi; rw [ep]
    rw [el, eh] at hb
    have : vs.toArray.any (fun y => decide (∃ b t u, y = .ref b ∧ s.heap.get? b = some (kdv_tup [.int i t, .int j u]))) = true := by
      rw [← Array.any_toList, List.any_eq_true]
      exact ⟨.ref b, by simpa using List.mem_of_getElem? eb, decide_eq_true ⟨b, tb, ub, rfl, hb⟩⟩
    rw [this]; exact h
open SeqAt in
theorem eqPP {T T' : List (Addr × Obj)} {l b : Addr} {vs ws : List Value} {n k : Nat} {K : List (Nat × Nat)} (ho : s.heap.get? l = some (listOf vs.toArray n)) (ho' : s.heap.get? b = some (listOf ws.toArray k)) (tab : Tab T vs (prs K)) (tab' : Tab T' ws (prs K)) (hT : ∀ p ∈ T, s.heap.get? p.1 = some p.2) (hT' : ∀ p ∈ T', s.heap.get? p.1 = some p.2)
    (hu : A.units < cLine) (hu1 : A.in1.units < cLine) (h : Q (.bool true) s) : wpAny (model prog w) A (compareOp .Eq (.ref l) (.ref b)) Q E s := by
  have htl := tab.1
  have htl' := tab'.1
  rw [prs_len] at htl htl'
  refine eq_listAt (e := fun _ => true) ⟨_, ho, rfl, n, rfl⟩ ⟨_, ho', rfl, k, rfl⟩ (by simp; omega) hu (fun j h1 h2 => ?_) (by rw [show (List.range vs.toArray.size).all (fun _ => true) = true from List.all_eq_true.mpr fun _ _ => rfl]; exact h)
  have hj : j < K.length := by simp at h1; omega
  obtain ⟨a1, t1, u1, e1, m1⟩ := tab_pair tab hj
  obtain ⟨a2, t2, u2, e2, m2⟩ := tab_pair tab' hj
  have f1 : vs.toArray[j] = .ref a1 := by simpa [List.getElem?_eq_some_iff] using (List.getElem?_eq_some_iff.mp e1).2
  have f2 : ws.toArray[j] = .ref a2 := by simpa [List.getElem?_eq_some_iff] using (List.getElem?_eq_some_iff.mp e2).2
  rw [f1, f2]
  have z := pairEq (A := A.in1) (hT _ m1) (hT' _ m2) hu1
  simpa using z
end
theorem pick_rev (vs : List Value) : slicePick vs.toArray none none (some (-1)) = vs.reverse.toArray := krv_pick _


section
variable {prog : Program} {w : World} {A : Around} {E : Value → Shared → Prop} {s : Shared} {env : Env} {Q : Value → Shared → Prop}
theorem ListComp_pair {elt iter : Expr} {x x₂ : Str} {px px₂ tp pos : Pos} {kk : Nat} {scope : Scope} {cl : List (Str × Addr)}
    (hclos : closureFor scope env = pure cl) (hkind : scope.kind = .function) (hnames : ∀ y ∈ scope.names, y.2 = .local → scope.names.lookup y.1 = some .local)
    (h : wpAny (model prog w) A (eval iter env) (fun xv s₁ => wpAny (model prog w) A (pyIter xv) (fun it s₂ => wpAny (model prog w) A (newList []) (fun acc s₃ => wpAny (model prog w) A (newFunctionEnv scope env.globals cl [] env.qual none .none (some env)) (fun cenv s₄ =>
      codeAny (model prog w) A (.compStart (.ListComp elt [⟨.Tuple [.Name x px, .Name x₂ px₂] kk tp, iter, [], 0⟩] scope pos) 0 it acc { cenv with scope := relabel scope env }) (compPost (model prog w) A E none Q acc cenv.locals) s₄) E s₃) E s₂) E s₁) E s)
    (hs : ∀ x, foldedSetIterable iter env x = pure x := by intro _; rfl) :
    wpAny (model prog w) A (eval (.ListComp elt [⟨.Tuple [.Name x px, .Name x₂ px₂] kk tp, iter, [], 0⟩] scope pos) env) Q E s := by
  rw [eval_ListComp]
  exact wpAny_comprehension_free (use := none) rfl hs hclos hkind hnames h
end
structure Sit (T : List (Addr × Obj)) (L : Addr) (ns : List Int) (K FL : List (Nat × Nat)) (kl : Addr) (kvs : List Value) (kn : Nat) (fl : Addr) (fvs : List Value) (fn : Nat) (nl : Addr) (nvs : List Value) (nn : Nat) (oZ : Obj) (tz : Tok) : Prop where
  mK : Kept T kl K kvs kn
  M : MaxF (fun j => (sumsL ns).getD j 0) ns.length K
  mF : Kept T fl FL fvs fn
  hF : ∀ x : Nat × Nat, x ∈ FL ↔ Full (fun j => (sumsL ns).getD j 0) x.1 x.2 ∧ x.2 ≤ ns.length
  hFs : FL.length < 20000
  mN : (nl, listOf nvs.toArray nn) ∈ T
  nI : IntsAre nvs ns
  mZ : (L + 1, oZ) ∈ T
  oZ : oZ.data = .cell (some (.int ns.length tz))
  n : ns.length < 50
theorem Kept.mono {T T' : List (Addr × Obj)} {kl : Addr} {K : List (Nat × Nat)} {kvs : List Value} {kn : Nat} (x : Kept T kl K kvs kn) (h : ∀ p ∈ T, p ∈ T') : Kept T' kl K kvs kn := ⟨h _ x.mem, x.tab.mono h⟩
theorem Sit.mono {T T' : List (Addr × Obj)} {L : Addr} {ns : List Int} {K FL : List (Nat × Nat)} {kl : Addr} {kvs : List Value} {kn : Nat} {fl : Addr} {fvs : List Value} {fn : Nat} {nl : Addr} {nvs : List Value} {nn : Nat} {oZ : Obj} {tz : Tok}
    (x : Sit T L ns K FL kl kvs kn fl fvs fn nl nvs nn oZ tz) (h : ∀ p ∈ T, p ∈ T') : Sit T' L ns K FL kl kvs kn fl fvs fn nl nvs nn oZ tz :=
  ⟨x.mK.mono h, x.M, x.mF.mono h, x.hF, x.hFs, h _ x.mN, x.nI, h _ x.mZ, x.oZ, x.n⟩
abbrev lawEnv (q : Str) (L fa c : Addr) : Env := envX q (FD pw2 14).2.2 L fa (.ref c) [("size", L + 1)]
theorem prs_reverse {K : List (Nat × Nat)} : (prs K).reverse = prs K.reverse := by simp [prs]
theorem sliceO {prog : Program} {w : World} {A : Around} {E : Value → Shared → Prop} {hp : Heap} {g : Array GenState} {dr : Drawn} {tk : Nat} {os : OsState} {h₀ : Heap} {L : Addr} {m : Str → Option Value} {U T : List (Addr × Obj)} {C : List Addr} {Q : Value → Shared → Prop} {ops : List Value}
    {value slice : Expr} {l sl : Addr} {vs : List Value} {n : Nat} {vl vu vst : Value} {lo hi st : Option Int} (F : Fn h₀ L m U ((sl, { cls := .type "slice", data := .fields #[vl, vu, vst] }) :: T) C hp) (ho : hp.get? l = some (listOf vs.toArray n)) (pl : IsPart vl lo) (pu : IsPart vu hi) (ps : IsPart vst st) (h0 : st ≠ some 0)
    (h : ∀ b h', hp.get? b = none → Fn h₀ L m U ((b, listOf (slicePick vs.toArray lo hi st) 0) :: T) C h' → Q (.ref b) ⟨h', g, dr, tk, os⟩) (hz : vs.length ≤ sizeLine)
    (hs : subscripted slice false (.ref l) (.ref sl) = operate ops (getItem (.ref l) (.ref sl)) := by with_unfolding_all rfl)
    (ht : ∀ r, letTemporaryGo value (.ref l) r = pure () := by intro _; with_unfolding_all rfl) :
    wpAny (model prog w) A (subscriptTail value slice (.ref l) (.ref sl)) Q E ⟨hp, g, dr, tk, os⟩ := by
  have hl : hp.IsList l vs.toArray := ⟨_, ho, rfl, n, rfl⟩
  refine subscriptTail_ops (Heap.IsList.typeIs (s := ⟨hp, g, dr, tk, os⟩) hl) list_getitem_lookup (wpAny_getItem_list_slice hl ⟨_, F.get (.head _), rfl, rfl⟩ pl pu ps h0 ?_ (by rw [List.size_toArray]; exact hz)) hs ht
  have F' := F.sub (T' := T) fun p hp => .tail _ hp
  exact h _ _ (get_size _) (F'.pushT _ rfl (NF.nt nofun))

theorem tail2_spec {prog : Program} {w : World} {h : Heap} {T : List (Addr × Obj)} {C : List Addr} {fa c L : Addr} {ns : List Int} {K FL : List (Nat × Nat)} {kl : Addr} {kvs : List Value} {kn : Nat} {fl : Addr} {fvs : List Value} {fn : Nat} {nl : Addr} {nvs : List Value} {nn : Nat} {oZ : Obj} {tz : Tok} {tD tK tD' tK' : Tok} {hsK hsK' : Int} {mg mb : Str → Option Value}
    (X : Glob2 h mg mb tD tK tD' tK' hsK hsK') (S : Sit T L ns K FL kl kvs kn fl fvs fn nl nvs nn oZ tz)
    (A : Around) (s₀ : Shared) (t : Nat) (q : Str) (h₁ : Heap) (hr : Room A 12) {m : Str → Option Value} (F : Fn h L m [] T C h₁)
    (mk : m "kept" = some (.ref kl)) (mn : m "numbers" = some (.ref nl)) :
    wpAny (model prog w) A (execs ((FD pw2 14).2.1.drop 10) (lawEnv q L fa c)) (Ret s₀ h fun v _ => v = .bool true) NoE (St s₀ h₁ t) := by
  have hh := hr.handled
  have G := X.gl
  have nha := X.nha
  have nsu := X.nsu
  have hn := S.n
  have hnl := S.nI.length
  show wpAny _ _ (execs (_ :: _) _) _ _ _
  walk_at "go"
  refine callDef X.dha ?_
  walk_at "go"
  refine callDef X.dsu ?_
  walk_at "go"
  rename_i Fa
  refine sliceO Fa (Fa.get (.tail _ S.mN)) .none .none (.int _ _) (by decide) ?_ (by show _ ≤ 16777216; omega)
  intro b h₂ _ F₂
  rw [pick_rev] at F₂
  clear Fa F
  walk_at "go"
  refine ⟨F₂.keep, ?_⟩
  have X₂ := X.kept F₂.keep
  refine callG (sums_spec X₂.dsu X₂.csu X₂.gl (F₂.get (.head _)) S.nI.reverse (by simp; omega)) (hr.less (by omega)) ?_
  rintro _ h₃ t₃ k₃ ⟨sl, svs, sn, rfl, sN, sI⟩
  have F₃ := F₂.learn k₃ sN
  clear F₂
  walk_at "go"
  refine ⟨F₃.keep, ?_⟩
  have X₃ := X.kept F₃.keep
  refine callG (ha_spec (n := ns.length) X₃ sI (by simp) (by omega) (F₃.get (.head _))) (hr.less (by omega)) ?_
  rintro _ h₄ t₄ k₄ ⟨hl, K', hvs, hn', N, rfl, hN, hK', M'⟩
  have F₄ := F₃.learn k₄ hN
  clear F₃
  have hlv : hvs.length = K'.length := by rw [hK'.tab.1, prs_len]
  have hKs := M'.small
  walk_at "go"
  rename Fn _ _ _ _ _ _ _ => F₅
  clear F₄
  refine ListComp_pair (cl := [("size", L + 1)]) rfl rfl (by decide) ?_
  walk_at "go"
  rename_i Fb
  refine sliceO Fb (Fb.get (.tail _ (List.mem_append.mpr (.inl hK'.mem)))) .none .none (.int _ _) (by decide) ?_ (by show _ ≤ 16777216; omega)
  intro b₂ h₆ _ F₆
  rw [pick_rev] at F₆
  clear Fb F₅
  have memL : ∀ {N M : List (Addr × Obj)} {q : Addr × Obj}, q ∈ N → q ∈ N ++ M := fun h => List.mem_append.mpr (.inl h)
  have memR : ∀ {N M : List (Addr × Obj)} {q : Addr × Obj}, q ∈ M → q ∈ N ++ M := fun h => List.mem_append.mpr (.inr h)
  have htab : Tab _ hvs.reverse (prs K'.reverse) := prs_reverse ▸ (hK'.tab.mono (T' := (b₂, listOf hvs.reverse.toArray 0) :: (N ++ ([(sl, listOf svs.toArray sn)] ++ (b, listOf nvs.reverse.toArray 0) :: T))) fun p hp => .tail _ (memL hp)).reverse
  have hZ := F₆.get (a := L + 1) (o := oZ) (.tail _ (memR (memR (.tail _ S.mZ))))
  have hrl : hvs.reverse.length = K'.length := by rw [List.length_reverse]; exact hlv
  refine compBlock (T := (b₂, listOf hvs.reverse.toArray 0) :: (N ++ ([(sl, listOf svs.toArray sn)] ++ (b, listOf nvs.reverse.toArray 0) :: T))) (vs := hvs.reverse) hh (by decide) rfl rfl rfl (by decide) (fun p hp => ⟨(F₆.know p hp).1, (F₆.know p hp).2.1⟩) (.head _) (by show _ ≤ 16777216; omega)
    (fun i ys N => Tab N ys (prs ((K'.reverse.take i).map fun x => (ns.length - x.2, ns.length - x.1)))) Tab.nil (fun i v hv => ?_) ?_ ?_
  · have hi := (List.getElem?_eq_some_iff.mp hv).1
    obtain ⟨a, t, u, e, m⟩ := tab_pair htab (p := i) (by rw [List.length_reverse]; omega)
    rw [hv] at e
    exact ⟨a, _, _, Option.some.inj e, m⟩
  · intro i t' v1 v2 ys N₂ D C' m' h' I o tk k hv hm hJ F m1 m2
    have hiv := (List.getElem?_eq_some_iff.mp hv).1
    obtain ⟨a, t₁, u₁, e, m₃⟩ := tab_pair htab (p := i) (by rw [List.length_reverse]; omega)
    rw [hv] at e
    cases e
    have e1 := (F₆.get hm).symm.trans (F₆.get m₃)
    have e2 := congrArg Obj.data (Option.some.inj e1)
    simp [kdv_tup] at e2
    obtain ⟨rfl, rfl⟩ := e2
    have hle := M'.le (K'.length - 1 - i) (by omega)
    have hfu := (M'.full (K'.length - 1 - i) (by omega)).1
    have hle2 : hi K'.reverse i ≤ ns.length ∧ lo K'.reverse i ≤ ns.length := by
      have e3 : K'.reverse.getD i (0, 0) = K'.getD (K'.length - 1 - i) (0, 0) := by simp only [List.getD]; rw [List.getElem?_reverse (by omega)]
      unfold hi at hle
      unfold hi lo at hfu
      unfold hi lo
      rw [e3]
      omega
    have f1 : h'.get? (L + 1) = some oZ := F.get (a := L + 1) (o := oZ) (.tail _ (.tail _ (memR (memR (.tail _ S.mZ)))))
    refine Tuple_ ?_
    walk_at "go"
    refine wpAny_Name (wpAny_loadName_cell (v := .int ns.length tz) rfl rfl (c := L + 1) rfl ⟨oZ, f1, S.oZ⟩ ?_) rfl
    refine wpAny_Name (wpAny_loadName_local rfl rfl F.ns m2 ?_) rfl
    walk_at "go"
    refine wpAny_Name (wpAny_loadName_cell (v := .int ns.length tz) rfl rfl (c := L + 1) rfl ⟨oZ, f1, S.oZ⟩ ?_) rfl
    refine wpAny_Name (wpAny_loadName_local rfl rfl F.ns m1 ?_) rfl
    walk_at "go"
    refine tupU F fun b₄ h₈ _ F₈ => ?_
    refine ⟨h₈, _, _, rfl, F₈.perm (List.Perm.swap ..), ?_⟩
    have e4 : prs ((K'.reverse.take (i + 1)).map fun x => (ns.length - x.2, ns.length - x.1)) = prs ((K'.reverse.take i).map fun x => (ns.length - x.2, ns.length - x.1)) ++ [[(ns.length : Int) - (hi K'.reverse i : Int), (ns.length : Int) - (lo K'.reverse i : Int)]] := by
      have e5 : K'.reverse.take (i + 1) = K'.reverse.take i ++ [K'.reverse.getD i (0, 0)] := by
        rw [List.take_add_one]
        congr 1
        rw [List.getD, List.getElem?_eq_getElem (by rw [List.length_reverse]; omega)]
        rfl
      rw [e5, List.map_append, prs, List.map_append]
      congr 1
      show [[((ns.length - hi K'.reverse i : Nat) : Int), ((ns.length - lo K'.reverse i : Nat) : Int)]] = _
      rw [Int.ofNat_sub hle2.1, Int.ofNat_sub hle2.2]
    rw [e4]
    exact Tab.app (hJ.mono fun p hp => .tail _ hp) (Tab.one (.head _) (.cons _ _ (.cons _ _ .nil)))
  · intro D h' tk ys k N₂ hk hN₂ hJ
    have hNk : New h₆ h' ((D, listOf ys.toArray k) :: N₂) := hN₂
    have F₇ := F₆.learn hk hNk
    have e3 : (K'.reverse.take hvs.reverse.length).map (fun x => (ns.length - x.2, ns.length - x.1)) = K := by
      rw [hrl, show K'.length = K'.reverse.length by simp, List.take_length]
      exact (same_turned S.M M').symm
    rw [e3] at hJ
    have hb0 : A.units + 1 < cLine := by have := hr.units; omega
    have mT : ∀ p ∈ T, p ∈ ((D, listOf ys.toArray k) :: N₂) ++ ((b₂, listOf hvs.reverse.toArray 0) :: (N ++ ([(sl, listOf svs.toArray sn)] ++ (b, listOf nvs.reverse.toArray 0) :: T))) := fun p hp => memR (.tail _ (memR (memR (.tail _ hp))))
    refine eqPP (T := T) (T' := N₂) (F₇.get (mT _ S.mK.mem)) (F₇.get (.head _)) S.mK.tab hJ (fun p hp => F₇.get (mT _ hp)) (fun p hp => F₇.get (memL (.tail _ hp))) (by omega) (by show A.units + 1 < cLine; omega) ?_
    exact Ret.mk F₇.keep rfl


theorem MaxF.cut {s : Nat → Int} {n : Nat} {K : List (Nat × Nat)} (M : MaxF s n K) (col : Nat) : ∃ r, r ≤ K.length ∧ (∀ p, p < r → hi K p ≤ col) ∧ ∀ p, r ≤ p → p < K.length → col < hi K p := by
  rcases last_dec (fun p => hi K p ≤ col) K.length with h | ⟨p, h1, h2, h3⟩
  · exact ⟨0, Nat.zero_le _, fun p hp => by omega, fun p _ hp => by have := h p hp; omega⟩
  · refine ⟨p + 1, h1, fun q hq => ?_, fun q hq1 hq2 => by have := h3 q (by omega) hq2; omega⟩
    by_cases e : q = p
    · subst e; exact h2
    · have := M.gap q p (by omega) h1
      have := (M.full p h1).1
      omega
theorem getD_hi {K : List (Nat × Nat)} {i : Nat} (h : i < K.length) : (K.map fun x => (x.2 : Int)).getD i 0 = hi K i := by simp [hi, List.getD, h]
theorem getD_lo {K : List (Nat × Nat)} {i : Nat} (h : i < K.length) : (K.map fun x => (x.1 : Int)).getD i 0 = lo K i := by simp [lo, List.getD, h]
theorem MaxF.hiS {s : Nat → Int} {n : Nat} {K : List (Nat × Nat)} (M : MaxF s n K) : Sorted (K.map fun x => (x.2 : Int)) := fun i j hij hj => by
  rw [List.length_map] at hj
  rw [getD_hi (by omega), getD_hi hj]
  by_cases e : i = j
  · subst e; exact Int.le_refl _
  · have := M.gap i j (by omega) hj
    have := (M.full j hj).1
    omega
theorem MaxF.loS {s : Nat → Int} {n : Nat} {K : List (Nat × Nat)} (M : MaxF s n K) : Sorted (K.map fun x => (x.1 : Int)) := fun i j hij hj => by
  rw [List.length_map] at hj
  rw [getD_lo (by omega), getD_lo hj]
  by_cases e : i = j
  · subst e; exact Int.le_refl _
  · have := M.gap i j (by omega) hj
    have := (M.full i (by omega)).1
    omega

theorem loop3_spec {prog : Program} {w : World} {h : Heap} {T : List (Addr × Obj)} {C : List Addr} {fa c L : Addr} {ns : List Int} {K FL : List (Nat × Nat)} {kl : Addr} {kvs : List Value} {kn : Nat} {fl : Addr} {fvs : List Value} {fn : Nat} {nl : Addr} {nvs : List Value} {nn : Nat} {oZ : Obj} {tz : Tok} {tD tK tD' tK' : Tok} {hsK hsK' : Int} {mg mb : Str → Option Value}
    (X : Glob2 h mg mb tD tK tD' tK' hsK hsK') (S : Sit T L ns K FL kl kvs kn fl fvs fn nl nvs nn oZ tz)
    (A : Around) (s₀ : Shared) (t : Nat) (q : Str) (h₁ : Heap) (hr : Room A 12) {m : Str → Option Value} (F : Fn h L m [] T C h₁) (hcC : c ∈ C)
    (mk : m "kept" = some (.ref kl)) (mn : m "numbers" = some (.ref nl)) :
    wpAny (model prog w) A (execs ((FD pw2 14).2.1.drop 7) (lawEnv q L fa c)) (Ret s₀ h fun v _ => v = .bool true) NoE (St s₀ h₁ t) := by
  have hh := hr.handled
  have G := X.gl
  have hrg := X.rng
  have hrg' := X.rng'
  have nli := X.nli
  have nru := X.nru
  have nsr := X.nsr
  have nbr := X.nbr
  have hn := S.n
  have hKn := S.M.small
  have hkl : kvs.length = K.length := by rw [S.mK.tab.1, prs_len]
  have hb0 : A.units < cLine := by have := hr.units; omega
  have memL : ∀ {N M : List (Addr × Obj)} {q : Addr × Obj}, q ∈ N → q ∈ N ++ M := fun h => List.mem_append.mpr (.inl h)
  have memR : ∀ {N M : List (Addr × Obj)} {q : Addr × Obj}, q ∈ M → q ∈ N ++ M := fun h => List.mem_append.mpr (.inr h)
  have memLc : ∀ {N M : List Addr} {q : Addr}, q ∈ N → q ∈ N ++ M := fun h => List.mem_append.mpr (.inl h)
  have memRc : ∀ {N M : List Addr} {q : Addr}, q ∈ M → q ∈ N ++ M := fun h => List.mem_append.mpr (.inr h)
  show wpAny _ _ (execs (_ :: _) _) _ _ _
  walk_at "go"
  refine callDef X.dli ?_
  walk_at "go"
  refine ldC (c := L + 1) (o := oZ) rfl (F.get S.mZ) S.oZ ?_ rfl rfl
  walk_at "go"
  refine ⟨F.keep, ?_⟩
  have X₁ := X.kept F.keep
  refine callG (li_spec (TK := T) X₁ (by omega) S.M (F.get S.mK.mem) S.mK.tab fun q hq => ⟨(F.know q hq).1, (F.know q hq).2.1⟩) (hr.less (by omega)) ?_
  rintro _ h₂ t₂ k₂ ⟨cs, tl, rfl, hcl, hcs⟩
  have F₂ := F.kept k₂
  clear F
  walk_at "go"
  rename Fn _ _ _ _ _ _ _ => F₃
  clear F₂
  have Dru := X.dru
  obtain ⟨nb, qb, docb, pmb, anb, ctb, ocb, odb, oslb, eb⟩ := Dru
  refine callWith_meth0 (o := ⟨ocb, odb, _, oslb⟩) rfl (F₃.keep.obj _ _ eb (NF.nt nofun)) ?_
  have X₂ := X.kept F₃.keep
  refine callG (runs_spec (ch := 52) X₂.dru X₂.cru X.len X.len' X.nht X₂.gl) (hr.less (by omega)) ?_
  rintro _ h₄ t₄ k₄ ⟨p, pN, pCs, rfl, hpN, hpC, hP⟩
  have F₄ := (F₃.learn k₄ hpN).learnAllC hpC
  clear F₃
  walk_at "go"
  rename Fn _ _ _ _ _ _ _ => F₅
  clear F₄
  refine ldC (c := L + 1) (o := oZ) rfl (F₅.get (memR S.mZ)) S.oZ ?_ rfl rfl
  walk_at "go"
  rename_i R' ta tb tc h₆ t₆ hR F₆
  clear F₅
  refine iter_range_H F₆ hh hR (by omega) (by omega) (by omega) (by omega) (fun i m U => U = [] ∧ m "kept" = some (.ref kl) ∧ m "numbers" = some (.ref nl) ∧ m "line" = some (.str ⟨cs.toArray⟩ tl) ∧ m "runs" = some (.ref p))
    ⟨rfl, mk, mn, rfl, rfl⟩ ?_ ?_ rfl rfl
  · clear F₆ mk mn
    rintro i ti m U h' I o tk P' hP' hib ⟨rfl, mk, mn, ml, mp⟩ F
    dsimp only
    rw [Int.zero_add] at F
    obtain ⟨r, hr1, hr2, hr3⟩ := S.M.cut i
    walk_at "go"
    refine callDef X.dsr ?_
    walk_at "go"
    refine ⟨F.keep, ?_⟩
    have X₃ := X.kept F.keep
    refine callG (sr_spec (GF := G2 mg mb 53 52) (d := 2) (x := .str ⟨cs.toArray⟩ tl) (S := Sr cs) (T := pN) (C := pCs) (res := toldAt K r) X₃.dsr X₃.csr X₃.gl.lim ⟨X₃.gl, X₃.dht, X₃.cht⟩ (fun _ _ k x => x.kept k)
      (hP cs tl _ (by omega) (Sr.ru cs)) ⟨fun q hq => F.get (.tail _ (memL hq)), fun c hc => F.codes c (memLc hc)⟩ (fun q hq => (hpN q hq).2.1) (Sr.first S.M hcl hcs hr1 hr2 hr3) (fun _ _ _ _ h => Sr.nonneg h)) (hr.less (by omega)) ?_
    intro v h₈ t₈ k₈ hpost
    -- what is known from here on
    obtain ⟨N, Cs, F₈, hv⟩ : ∃ N Cs, Fn h L (fun y => if y = "col" then some (.int i ti) else m y) [] (N ++ ((I, o) :: (pN ++ T))) (Cs ++ (pCs ++ C)) h₈ ∧ (match toldAt K r with | none => v = .none | some (i, j) => ∃ f, v = .ref f ∧ Hit prog w f i j N Cs) := by
      cases hto : toldAt K r with
      | none =>
        rw [hto] at hpost
        exact ⟨[], [], F.kept k₈, hpost⟩
      | some ij =>
        obtain ⟨i', j'⟩ := ij
        rw [hto] at hpost
        obtain ⟨f, N, Cs, rfl, hN, hC, hH⟩ := hpost
        exact ⟨N, Cs, (F.learn k₈ hN).learnAllC hC, f, rfl, hH⟩
    clear F
    walk_at "go"
    rename Fn _ _ _ _ _ _ _ => F₉
    clear F₈
    have Dr' := X.dbr
    obtain ⟨nb2, qb2, docb2, pmb2, anb2, ctb2, ocb2, odb2, oslb2, eb2⟩ := Dr'
    refine callWith_def_kw (o := ⟨ocb2, odb2, .func (fnX nb2 qb2 (FD pw2 1).1 (FD pw2 1).2.1 (FD pw2 1).2.2 [] (.ref 15) (.ref 16) docb2 pmb2 anb2 (.ref 22) ctb2), oslb2⟩) rfl ?_
    refine evalArgs_kw2 rfl ?_
    walk_at "go"
    refine kwAll_cons ?_
    refine lambdaT F₉ G rfl (memRc (memRc hcC)) rfl rfl rfl fun fk ck ctk dock pmk h₁₀ t₁₀ hfk k₁₀ F₁₀ => ?_
    clear F₉
    walk_at "go"
    refine kwAll_nil ?_
    refine ⟨(Keep.obj F₁₀.keep _ _ eb2 (NF.nt nofun)), ?_⟩
    have X₄ := X.kept F₁₀.keep
    refine callG (brk_spec (ks := K.map fun x => (x.2 : Int)) (vs := kvs) (d := 1) X₄.dbr X₄.cbr X₄.gl X₄.kbr X.len X.len' (F₁₀.get (.tail _ (memR (.tail _ (memR S.mK.mem))))) (by simp; omega) (by omega) S.M.hiS (F₁₀.get (.head _)) rfl fun a v h' hv' k' => ?_) (hr.less (by omega)) ?_
    · have ha : a < K.length := by
        have := (List.getElem?_eq_some_iff.mp hv').1
        omega
      obtain ⟨b, tb1, tb2, eb1, eb2⟩ := tab_pair S.mK.tab ha
      rw [hv'] at eb1
      cases eb1
      have F₁₁ := F₁₀.kept k'
      exact (key1 ⟨F₁₁.get (.head _), (F₁₁.codes _ (.head _)).rec', (G.kept F₁₁.keep).lim, fun s₀ t => BindsTo.of_eq rfl, rfl, rfl, rfl, fun _ => rfl, fun _ _ _ _ _ => rfl, rfl⟩ (F₁₁.get (.tail _ (memR (.tail _ (memR eb2))))) .nil (by decide)).mono fun v h' _ ⟨t, e⟩ => ⟨t, by rw [e, getD_hi ha]⟩
    rintro _ h₁₁ t₁₁ k₁₁ ⟨place, tp, rfl, hp0, hp1, hp2, hp3⟩
    have F₁₁ := F₁₀.kept k₁₁
    clear F₁₀
    rw [List.length_map] at hp1
    have hpr : place = r := by
      obtain ⟨pl, rfl⟩ : ∃ pl : Nat, place = pl := ⟨place.toNat, by omega⟩
      rcases Nat.lt_trichotomy pl r with e | e | e
      · have h1 := hr2 pl e
        have h2 := hp3 pl (by omega) (by rw [List.length_map]; omega)
        rw [getD_hi (by omega)] at h2
        omega
      · subst e; rfl
      · have h1 := hr3 r (Nat.le_refl _) (by omega)
        have h2 := hp2 r (by omega)
        rw [getD_hi (by omega)] at h2
        omega
    subst hpr
    have fin : ∀ (h' : Heap) (t' : Nat) (m' : Str → Option Value) (T' : List (Addr × Obj)) (C' : List Addr), Fn h L m' [] T' C' h' → (∀ p ∈ (I, o) :: (pN ++ T), p ∈ T') → (∀ c ∈ pCs ++ C, c ∈ C') → m' "kept" = some (.ref kl) → m' "numbers" = some (.ref nl) → m' "line" = some (.str ⟨cs.toArray⟩ tl) → m' "runs" = some (.ref p) →
        P' .next (St s₀ h' t') :=
      fun h' t' m' T' C' F hT hC a1 a2 a3 a4 => hP' _ _ (TurnPost.next (s := St s₀ h₆ t₆) (F.weak hT hC) ⟨rfl, a1, a2, a3, a4⟩)
    by_cases hr0 : r = 0
    · subst hr0
      cases (show v = .none from hv)
      walk_at "go"
      rename Fn _ _ _ _ _ _ _ => Fz
      exact fin _ _ _ _ _ Fz (fun p hp => .tail _ (memR hp)) (fun c hc => .tail _ (memRc hc)) mk mn ml mp
    · unfold toldAt at hv
      rw [if_neg hr0] at hv
      obtain ⟨f, rfl, hH⟩ := hv
      have hr0' : ((r : Int) == ((0 : Nat) : Int)) = false := by simpa using hr0
      walk_at "go"
      refine spanG (by assumption) G.lim (hr.less (by omega)) (hH.mono (fun _ hq => .tail _ (memL hq)) fun _ hq => .tail _ (memLc hq)) fun a ta' tb' h₁₂ t₁₂ _ F₁₂ => ?_
      walk_at "go"
      refine itemPr (F₁₂.get (.tail _ (.tail _ (memR (.tail _ (memR S.mK.mem)))))) S.mK.tab (fun q hq => F₁₂.get (.tail _ (.tail _ (memR (.tail _ (memR hq)))))) (by omega) (by omega) (by omega) fun a₄ ta₄ tb₄ _ _ hea => ?_
      rw [show ((r : Int) - 1).toNat = r - 1 by omega] at hea
      refine neTT (F₁₂.get (.head _)) hea hb0 ?_
      rw [show (!((lo K (r - 1) : Int) == (lo K (r - 1) : Int) && (hi K (r - 1) : Int) == (hi K (r - 1) : Int))) = false by simp]
      walk_at "go"
      exact fin _ _ _ _ _ F₁₂ (fun p hp => .tail _ (.tail _ (memR hp))) (fun c hc => .tail _ (memRc hc)) mk mn ml mp
  · rintro m U h' t' ⟨rfl, mk, mn, _, _⟩ F
    walk_at "gs"
    exact tail2_spec X (S.mono fun p hp => memR hp) A s₀ _ q h' hr F mk mn


theorem loop2_spec {prog : Program} {w : World} {h : Heap} {T : List (Addr × Obj)} {C : List Addr} {fa c L : Addr} {ns : List Int} {K FL : List (Nat × Nat)} {kl : Addr} {kvs : List Value} {kn : Nat} {fl : Addr} {fvs : List Value} {fn : Nat} {nl : Addr} {nvs : List Value} {nn : Nat} {oZ : Obj} {tz : Tok} {tD tK tD' tK' : Tok} {hsK hsK' : Int} {mg mb : Str → Option Value}
    (X : Glob2 h mg mb tD tK tD' tK' hsK hsK') (S : Sit T L ns K FL kl kvs kn fl fvs fn nl nvs nn oZ tz)
    (A : Around) (s₀ : Shared) (t : Nat) (q : Str) (h₁ : Heap) (hr : Room A 12) {m : Str → Option Value} (F : Fn h L m [] T C h₁) (hcC : c ∈ C)
    (mk : m "kept" = some (.ref kl)) (mn : m "numbers" = some (.ref nl)) (mf : m "full" = some (.ref fl)) :
    wpAny (model prog w) A (execs ((FD pw2 14).2.1.drop 6) (lawEnv q L fa c)) (Ret s₀ h fun v _ => v = .bool true) NoE (St s₀ h₁ t) := by
  have hh := hr.handled
  have G := X.gl
  have nbr := X.nbr
  have hn := S.n
  have hKn := S.M.small
  have hkl : kvs.length = K.length := by rw [S.mK.tab.1, prs_len]
  have hfl : fvs.length = FL.length := by rw [S.mF.tab.1, prs_len]
  show wpAny _ _ (execs (_ :: _) _) _ _ _
  walk_at "go"
  refine iter_list_H _ F hh S.mF.mem (let_pair S.mF.tab) (fun i m U => U = [] ∧ m "kept" = some (.ref kl) ∧ m "numbers" = some (.ref nl)) ⟨rfl, mk, mn⟩ ?_ ?_
  · rintro i v m U h' I o tk P hP hv ⟨rfl, mk, mn⟩ F₁
    clear F
    have hi' : i < FL.length := by rw [← hfl]; exact (List.getElem?_eq_some_iff.mp hv).1
    obtain ⟨a, ta, tb, ea, ma⟩ := tab_pair S.mF.tab hi'
    rw [hv] at ea
    cases ea
    obtain ⟨hfu, hle⟩ := (S.hF _).mp (getD_mem hi')
    refine unpack2 F₁ hh (.tail _ ma) (fun h₄ t₄ F₄ => ?_) rfl rfl rfl
    clear F₁
    walk_at "go"
    have Dr' := X.dbr
    obtain ⟨nb2, qb2, docb2, pmb2, anb2, ctb2, ocb2, odb2, oslb2, eb2⟩ := Dr'
    refine callWith_def_kw (o := ⟨ocb2, odb2, .func (fnX nb2 qb2 (FD pw2 1).1 (FD pw2 1).2.1 (FD pw2 1).2.2 [] (.ref 15) (.ref 16) docb2 pmb2 anb2 (.ref 22) ctb2), oslb2⟩) rfl ?_
    refine evalArgs_kw2 rfl ?_
    walk_at "go"
    refine kwAll_cons ?_
    refine lambdaT F₄ G rfl hcC rfl rfl rfl fun fk ck ctk dock pmk h₁₀ t₁₀ hfk k₁₀ F₁₀ => ?_
    clear F₄
    walk_at "go"
    refine kwAll_nil ?_
    refine ⟨(Keep.obj F₁₀.keep _ _ eb2 (NF.nt nofun)), ?_⟩
    have X₄ := X.kept F₁₀.keep
    refine callG (brk_spec (ks := K.map fun x => (x.1 : Int)) (vs := kvs) (d := 1) X₄.dbr X₄.cbr X₄.gl X₄.kbr X.len X.len' (F₁₀.get (.tail _ (.tail _ S.mK.mem))) (by simp; omega) (by omega) S.M.loS (F₁₀.get (.head _)) rfl fun a v h' hv' k' => ?_) (hr.less (by omega)) ?_
    · have ha : a < K.length := by
        have := (List.getElem?_eq_some_iff.mp hv').1
        omega
      obtain ⟨b, tb1, tb2, eb1, eb2⟩ := tab_pair S.mK.tab ha
      rw [hv'] at eb1
      cases eb1
      have F₁₁ := F₁₀.kept k'
      exact (key0 ⟨F₁₁.get (.head _), (F₁₁.codes _ (.head _)).rec', (G.kept F₁₁.keep).lim, fun s₀ t => BindsTo.of_eq rfl, rfl, rfl, rfl, fun _ => rfl, fun _ _ _ _ _ => rfl, rfl⟩ (F₁₁.get (.tail _ (.tail _ eb2))) (.cons _ _ .nil) (by show 1 < 50; omega)).mono fun v h' _ ⟨t, e⟩ => ⟨t, by rw [e, getD_lo ha]⟩
    rintro _ h₁₁ t₁₁ k₁₁ ⟨place, tp, rfl, hp0, hp1, hp2, hp3⟩
    have F₁₁ := F₁₀.kept k₁₁
    clear F₁₀
    rw [List.length_map] at hp1
    obtain ⟨r, rfl⟩ : ∃ r : Nat, place = r := ⟨place.toNat, by omega⟩
    obtain ⟨hr0, hre⟩ := S.M.find hfu hle (by omega : r ≤ K.length) (fun p hp => by
      have := hp2 p (by omega)
      rw [getD_lo (by omega)] at this
      show lo K p ≤ lo FL i
      omega) (fun p h1 h2 => by
      have := hp3 p (by omega) (by rw [List.length_map]; exact h2)
      rw [getD_lo h2] at this
      show lo FL i < lo K p
      omega)
    have hr0' : ((r : Int) == 0) = false := by simp; omega
    walk_at "go"
    rename Fn _ _ _ _ _ _ _ => F₁₂
    clear F₁₁
    refine itemPr (F₁₂.get (.tail _ (.tail _ S.mK.mem))) S.mK.tab (fun q hq => F₁₂.get (.tail _ (.tail _ hq))) (by omega) (by omega) (by omega) fun a₄ ta₄ tb₄ _ _ hea => ?_
    rw [show ((r : Int) - 1).toNat = r - 1 by omega] at hea
    walk_at "go"
    refine item1 hea .nil (by decide) fun t₁₃ => ?_
    walk_at "go"
    have hre' : hi FL i ≤ hi K (r - 1) := hre
    refine split_dec (fun hlt => by omega) (fun hlt => ?_)
    walk_at "go"
    exact hP _ _ (TurnPost.next (F₁₂.weak (T' := (I, o) :: T) (C' := C) (fun p hp => .tail _ hp) (fun c hc => .tail _ hc)) ⟨rfl, mk, mn⟩)
  · rintro m U h' t' ⟨rfl, mk, mn⟩ F
    walk_at "gs"
    exact loop3_spec X S A s₀ _ q h' hr F hcC mk mn

theorem loop1_spec {prog : Program} {w : World} {h : Heap} {T : List (Addr × Obj)} {C : List Addr} {fa c L : Addr} {ns : List Int} {K FL : List (Nat × Nat)} {kl : Addr} {kvs : List Value} {kn : Nat} {fl : Addr} {fvs : List Value} {fn : Nat} {nl : Addr} {nvs : List Value} {nn : Nat} {oZ : Obj} {tz : Tok} {tD tK tD' tK' : Tok} {hsK hsK' : Int} {mg mb : Str → Option Value}
    (X : Glob2 h mg mb tD tK tD' tK' hsK hsK') (S : Sit T L ns K FL kl kvs kn fl fvs fn nl nvs nn oZ tz)
    (A : Around) (s₀ : Shared) (t : Nat) (q : Str) (h₁ : Heap) (hr : Room A 12) {m : Str → Option Value} (F : Fn h L m [] T C h₁) (hcC : c ∈ C)
    (mk : m "kept" = some (.ref kl)) (mn : m "numbers" = some (.ref nl)) (mf : m "full" = some (.ref fl)) :
    wpAny (model prog w) A (execs ((FD pw2 14).2.1.drop 5) (lawEnv q L fa c)) (Ret s₀ h fun v _ => v = .bool true) NoE (St s₀ h₁ t) := by
  have hh := hr.handled
  have G := X.gl
  have hrg := X.rng
  have hrg' := X.rng'
  have hlen := X.len
  have hlen' := X.len'
  have hn := S.n
  have hKn := S.M.small
  have hkl : kvs.length = K.length := by rw [S.mK.tab.1, prs_len]
  have mkl := S.mK.mem
  have hb0 : A.units + 1 < cLine := by have := hr.units; omega
  show wpAny _ _ (execs (_ :: _) _) _ _ _
  walk_at "go"
  walk_at "len"
  walk_at "go"
  rename_i R' ta tb tc h₂ t₂ hR F₂
  clear F
  refine iter_range_H F₂ hh hR (by omega) (by omega) (by omega) (by omega) (fun i m U => U = [] ∧ m "kept" = some (.ref kl) ∧ m "numbers" = some (.ref nl) ∧ m "full" = some (.ref fl)) ⟨rfl, mk, mn, mf⟩ ?_ ?_ rfl rfl
  · clear F₂ mk mn mf
    rintro i ti m U h' I o tk P hP hib ⟨rfl, mk, mn, mf⟩ F
    dsimp only
    rw [Int.zero_add] at F
    walk_at "go"
    refine itemPr (k := (i : Int)) (F.get (.tail _ mkl)) S.mK.tab (fun q hq => F.get (.tail _ hq)) (by omega) (by omega) (by omega) fun a ta tb ha hat hea => ?_
    rw [show (i : Int).toNat = i by omega] at hea
    walk_at "go"
    have hmem : (lo K i, hi K i) ∈ FL := (S.hF _).mpr ⟨S.M.full i (by omega), S.M.le i (by omega)⟩
    refine notInP (F.get (.tail _ S.mF.mem)) S.mF.tab (fun q hq => F.get (.tail _ hq)) hea hmem (by show A.units + 1 < cLine; omega) ?_
    walk_at "go"
    refine split_dec (fun hgt => ?_) (fun hgt => ?_)
    · walk_at "go"
      refine itemPr (k := (i : Int) - 1) (F.get (.tail _ mkl)) S.mK.tab (fun q hq => F.get (.tail _ hq)) (by omega) (by omega) (by omega) fun a₂ ta₂ tb₂ ha₂ hat₂ hea₂ => ?_
      rw [show ((i : Int) - 1).toNat = i - 1 by omega] at hea₂
      walk_at "go"
      refine item1 hea₂ .nil (by decide) fun t₁₃ => ?_
      walk_at "go"
      refine itemPr (k := (i : Int)) (F.get (.tail _ mkl)) S.mK.tab (fun q hq => F.get (.tail _ hq)) (by omega) (by omega) (by omega) fun a₃ ta₃ tb₃ ha₃ hat₃ hea₃ => ?_
      rw [show (i : Int).toNat = i by omega] at hea₃
      walk_at "go"
      refine item0 hea₃ (.cons _ _ .nil) (by show 1 < 50; omega) fun t₁₄ => ?_
      walk_at "go"
      have g := S.M.gap (i - 1) i (by omega) (by omega)
      refine split_dec (fun hlt => by omega) (fun hlt => ?_)
      walk_at "go"
      exact hP _ _ (TurnPost.next F ⟨rfl, mk, mn, mf⟩)
    · walk_at "go"
      exact hP _ _ (TurnPost.next F ⟨rfl, mk, mn, mf⟩)
  · rintro m U h' t' ⟨rfl, mk, mn, mf⟩ F
    walk_at "gs"
    exact loop2_spec X S A s₀ _ q h' hr F hcC mk mn mf


abbrev numL (xs : List Int) : List Int := ((xs.take 8).map fun x => x.fmod 25 - 12) ++ [1, -2, 2, -1, 1, 2]
theorem ints_take {vs : List Value} {xs : List Int} (h : IntsAre vs xs) (k : Nat) : IntsAre (vs.take k) (xs.take k) := by
  induction h generalizing k with
  | nil => simp; exact .nil
  | cons a b c ih => cases k with
    | zero => exact .nil
    | succ k => exact .cons _ _ (ih k)
theorem ints_paired {g : Int → Int} {us ys : List Value} {xs : List Int} (hp : Paired (fun a b : Value => ∃ x t t', a = .int x t ∧ b = .int (g x) t') us ys) (hi : IntsAre us xs) : IntsAre ys (xs.map g) := by
  induction hp generalizing xs with
  | nil => cases hi; exact .nil
  | cons h _ ih =>
    obtain ⟨x, t, t', rfl, rfl⟩ := h
    cases hi with
    | cons _ _ hi => exact .cons _ _ (ih hi)
theorem Fn.nums {h₀ h : Heap} {L nl : Addr} {m : Str → Option Value} {U T : List (Addr × Obj)} {C : List Addr} {ys ws : List Value} {xs zs : List Int} {n : Nat} (F : Fn h₀ L m U ((nl, listOf (ys ++ ws).toArray n) :: T) C h) (hw : IntsAre ws zs) (hy : IntsAre ys xs) :
    ∃ nvs, IntsAre nvs (xs ++ zs) ∧ Fn h₀ L m U ((nl, listOf nvs.toArray n) :: T) C h := ⟨_, IntsAre.append hy hw, F⟩
theorem law2_spec {prog : Program} {w : World} {h : Heap} {l fa c : Addr} {vs : List Value} {xs : List Int} {n : Nat} {tD tK tD' tK' : Tok} {hsK hsK' : Int} {mg mb : Str → Option Value} (X : Glob2 h mg mb tD tK tD' tK' hsK hsK') (hc : CodeG h c)
    (hl : h.get? l = some (listOf vs.toArray n)) (hi : IntsAre vs xs) (hsz : xs.length < 1000)
    (A : Around) (s₀ : Shared) (t : Nat) (q : Str) (L : Addr) (h₁ : Heap) (hr : Room A 12) {m : Str → Option Value} {oC : Obj} (hoC : oC.data = .cell none) (F : Fn h L m [(L + 1, oC)] [] [] h₁) (hm : m "script" = some (.ref l)) :
    wpAny (model prog w) A (execs (FD pw2 14).2.1 (lawEnv q L fa c)) (Ret s₀ h fun v _ => v = .bool true) NoE (St s₀ h₁ t) := by
  have hh := hr.handled
  have G := X.gl
  have hlen := X.len
  have hlen' := X.len'
  have nsu := X.nsu
  have nlb := X.nlb
  have nfu := X.nfu
  have hlv : vs.length = xs.length := hi.length
  have hL0 : h.get? (L + 1) = none := (F.own _ (.head _)).2.2.1
  replace F := (F.recall hl (NF.nt nofun)).recallC hc
  show wpAny _ _ (execs (_ :: _) _) _ _ _
  walk_at "go"
  refine wpAny_ListComp_free (cl := []) (fun _ => true) (fun a b => ∃ x t t', a = .int x t ∧ b = .int (x.fmod 25 - 12) t') rfl (by decide) rfl (by decide) rfl ?_
  walk_at "go"
  rename_i Fa
  refine sliceO Fa (Fa.get (.tail _ (.head _))) .none (.int _ _) .none nofun ?_ (by show _ ≤ 16777216; omega)
  intro b h₂ hb F₂
  rw [pick_upto _ (by decide)] at F₂
  clear Fa F
  have hls : h₂.IsList b (vs.take (8 : Int).toNat).toArray := ⟨_, F₂.get (.head _), rfl, 0, rfl⟩
  refine wpAny_pyIter_list (s := St s₀ h₂ _) hls ?_
  have F₃ := F₂.pushT { cls := .type "list_iterator", data := .fields #[.ref b, .int 0 0] } rfl (fun ps e => by cases e)
  have hbI : b ≠ h₂.objs.size := ne_of_get (F₂.get (.head _)) (get_size _)
  refine ⟨_, _, _, _, _, _, rfl, Walks.list hh _ b hbI (vs.take (8 : Int).toNat).toArray, by show _ ≤ 16777216; simp; omega, ⟨⟨_, Heap.get?_push_size _ rfl, rfl, rfl⟩, hls.push _⟩, ?_, ⟨?_, ?_⟩, ?_⟩
  · intro b' hb'
    show _ < (Heap.push _ _).objs.size
    rw [Heap.size_push]
    rcases List.mem_cons.mp hb' with rfl | hb'
    · exact Nat.lt_succ_self _
    · rw [List.mem_singleton.mp hb']; exact Nat.lt_succ_of_lt (Heap.lt_size (F₂.get (.head _)))
  · rintro C i v ⟨hp₃, g₃, d₃, t₃, o₃⟩ m₃ E' _ hv hns hmx hext _
    exact wpAny_tests_nil ⟨rfl, hp₃, t₃, rfl, fun _ _ e => e⟩
  · rintro C i v ⟨hp₃, g₃, d₃, t₃, o₃⟩ m₃ E' _ hv _ hns hmx hext _
    have hv' : (vs.take 8)[i]? = some v := by simpa using hv
    have hi8 := (List.getElem?_eq_some_iff.mp hv').1
    obtain ⟨tv, ev⟩ := ints_at (ints_take hi 8) (j := i) (by rw [← (ints_take hi 8).length]; exact hi8)
    rw [hv'] at ev
    cases ev
    walk_at "go"
    refine wpAny_Name (wpAny_loadName_local rfl rfl hns hmx ?_) rfl
    walk_at "go"
    exact ⟨⟨_, _, _, rfl, rfl⟩, hp₃, _, rfl, fun _ _ e => e⟩
  · intro D h₈ t₈ ys us hD hlist hplain hul hus hpair hext
    have hg : ∀ b o, h₂.get? b = some o → b ≠ h₂.objs.size := fun b o e => ne_of_get e (get_size _)
    have up : ∀ b' o, h₂.get? b' = some o → (h₂.push { cls := .type "list_iterator", data := .fields #[.ref b, .int 0 0] }).get? b' = some o := fun b' o e => Heap.get?_push_of_some _ e
    have F₈ : Fn h L m [(L + 1, oC)] _ _ h₈ := F₃.other (F₂.keep.gone (get_size _)) (by simp) (fun b' o hb' e => hext b' o (by simpa using hb') e) (fun p hp => hg _ _ (F₂.know p hp).1)
    obtain ⟨dn, hDl⟩ := hplain
    have hus' : us = vs.take 8 := by
      refine List.ext_getElem? fun j => ?_
      cases e : us[j]? with
      | some v => have := hus j v e; simpa using this.symm
      | none =>
        have h1 := List.getElem?_eq_none_iff.mp e
        symm
        rw [List.getElem?_eq_none_iff]
        have h2 : us.length = (vs.take 8).length := by simpa using hul
        omega
    have hD' : (h₂.push { cls := .type "list_iterator", data := .fields #[.ref b, .int 0 0] }).get? D = none := hD
    have hDL : D ≠ L := by
      obtain ⟨oL, eL, _⟩ := F₂.getL
      exact Ne.symm (ne_of_get (up _ _ eL) hD')
    have hDU : ∀ p ∈ [(L + 1, oC)], p.1 ≠ D := fun p hp => ne_of_get (up _ _ (F₂.own p hp).1) hD'
    have hys : IntsAre ys.toList ((xs.take 8).map fun x => x.fmod 25 - 12) := by
      have e : us.filter (fun _ => true) = us := List.filter_eq_self.mpr fun _ _ => rfl
      rw [e, hus'] at hpair
      exact ints_paired hpair (ints_take hi 8)
    have F₉ := F₈.addT (o := listOf ys.toList.toArray dn) (a := D) (by rw [Array.toArray_toList]; exact hDl) (NF.nt nofun) hDL hDU
    clear F₈ F₃ F₂
    have hyl := hys.length
    walk_at "go"
    refine listG F₉ fun zl h₁₀ _ F₁₀ => ?_
    replace F₁₀ := F₁₀.freeze
    clear F₉
    walk_at "go"
    refine addL F₁₀ (F₁₀.get (.tail _ (.head _))) (F₁₀.get (.head _)) (fun nl h₁₁ _ F₁₁ => ?_) (by simp at hyl; show _ ≤ 16777216; simp; omega)
    clear F₁₀
    obtain ⟨nvs, nI, F₁₂⟩ := F₁₁.nums (zs := [1, -2, 2, -1, 1, 2]) (.cons _ _ (.cons _ _ (.cons _ _ (.cons _ _ (.cons _ _ (.cons _ _ .nil)))))) hys
    clear F₁₁
    have hnl := nI.length
    have hnl2 : (numL xs).length < 50 := by simp; omega
    change IntsAre nvs (numL xs) at nI
    change nvs.length = (numL xs).length at hnl
    generalize numL xs = ns at nI hnl hnl2
    walk_at "go"
    walk_at "len"
    walk_at "go"
    rename Fn _ _ _ _ _ _ _ => F₁₃
    clear F₁₂
    refine stC (c := L + 1) F₁₃ rfl hoC (fun h₁₄ oZ hoZ F₁₄ => ?_) rfl rfl
    replace F₁₄ := F₁₄.freeze
    clear F₁₃
    rw [hnl] at hoZ
    walk_at "go"
    refine callDef X.dsu ?_
    walk_at "go"
    refine ⟨F₁₄.keep, ?_⟩
    have X₁ := X.kept F₁₄.keep
    refine callG (sums_spec X₁.dsu X₁.csu X₁.gl (F₁₄.get (.tail _ (.head _))) nI (by omega)) (hr.less (by omega)) ?_
    rintro _ h₁₅ t₁₅ k₁₅ ⟨sl, svs, sn, rfl, sN, sI⟩
    have F₁₅ := F₁₄.learn k₁₅ sN
    clear F₁₄ X₁
    walk_at "go"
    rename Fn _ _ _ _ _ _ _ => F₁₆
    clear F₁₅
    refine callDef X.dlb ?_
    walk_at "go"
    refine ⟨F₁₆.keep, ?_⟩
    have X₁ := X.kept F₁₆.keep
    refine callG (lb_spec (n := ns.length) X₁ sI (by simp) (by omega) (F₁₆.get (.head _))) (hr.less (by omega)) ?_
    rintro _ h₁₇ t₁₇ k₁₇ ⟨kl, K, kvs, kn, kN, rfl, hkN, hK, M⟩
    have F₁₇ := F₁₆.learn k₁₇ hkN
    clear F₁₆ X₁
    walk_at "go"
    rename Fn _ _ _ _ _ _ _ => F₁₈
    clear F₁₇
    refine callDef X.dfu ?_
    walk_at "go"
    refine ⟨F₁₈.keep, ?_⟩
    have X₁ := X.kept F₁₈.keep
    refine callG (fu_spec (n := ns.length) X₁ sI (by simp) (by omega) (F₁₈.get (List.mem_append.mpr (.inr (.head _))))) (hr.less (by omega)) ?_
    rintro _ h₁₉ t₁₉ k₁₉ ⟨fl, FL, fvs, fn, fN, rfl, hfN, hFK, hFs, hF⟩
    have F₁₉ := F₁₈.learn k₁₉ hfN
    clear F₁₈ X₁
    refine stL F₁₉ (fun h₂₀ t₂₀ F₂₀ => ?_) rfl rfl
    have memL : ∀ {N M : List (Addr × Obj)} {q : Addr × Obj}, q ∈ N → q ∈ N ++ M := fun h => List.mem_append.mpr (.inl h)
    have memR : ∀ {N M : List (Addr × Obj)} {q : Addr × Obj}, q ∈ M → q ∈ N ++ M := fun h => List.mem_append.mpr (.inr h)
    exact loop1_spec X ⟨hK.mono fun p hp => memR (memL hp), M, hFK.mono fun p hp => memL hp, hF, hFs, memR (memR (.tail _ (.tail _ (.head _)))), nI, memR (memR (.tail _ (.head _))), hoZ, hnl2⟩ A s₀ _ q h₂₀ hr F₂₀ (.head _) rfl rfl rfl

end Mine

end

section
open PySem PySem.W PySem.Calls PyProof.Rows
open PySem PySem.W PyProof.Rows
namespace Mine
set_option maxRecDepth 100000 in
set_option maxHeartbeats 8000000 in
open_top hd for PySem.Challenge.rw_pg0091_02
end Mine

end

section
open PySem PySem.W PySem.Calls PyProof.Rows
open PySem PySem.W PySem.Calls PyProof.Rows
namespace Mine
set_option maxRecDepth 100000
set_option maxHeartbeats 8000000
theorem live_max {h : Heap} : ∀ n : Nat, (∃ b o, b < n ∧ h.get? b = some o) → ∃ b o, h.get? b = some o ∧ ∀ b' o', b' < n → h.get? b' = some o' → b' ≤ b
  | 0, ⟨_, _, hb, _⟩ => absurd hb (Nat.not_lt_zero _)
  | n + 1, ⟨b, o, hb, e⟩ => by
    cases q : h.get? n with
    | some on => exact ⟨n, on, q, fun b' o' hb' _ => Nat.le_of_lt_succ hb'⟩
    | none =>
      have ne : ∀ {b o}, h.get? b = some o → b ≠ n := fun e z => by rw [z, q] at e; cases e
      have hbn : b ≠ n := ne e
      obtain ⟨c, oc, ec, hc⟩ := live_max n ⟨b, o, Nat.lt_of_le_of_ne (Nat.le_of_lt_succ hb) hbn, e⟩
      exact ⟨c, oc, ec, fun b' o' hb' e' => hc b' o' (Nat.lt_of_le_of_ne (Nat.le_of_lt_succ hb') (ne e')) e'⟩
theorem in2 {a b : Addr} {o o' : Obj} {h : Heap} (e : h.get? a = some o) (e' : h.get? b = some o') : Frag.In [(a, o), (b, o')] h := fun x y q => by
  simp only [List.lookup] at q
  split at q
  · rename_i hx; cases q; rw [eq_of_beq hx]; exact e
  · split at q
    · rename_i hx; cases q; rw [eq_of_beq hx]; exact e'
    · cases q
theorem listWell {P : Params} {h : Heap} {a : Addr} {vs : List Value} {xs : List PyData} (x : Well P h (.ref a) (ofPy (PyData.list xs))) (hl : h.IsList a vs.toArray) : h.get? a = some (listOf vs.toArray 0) := by
  have e : ∃ ws, ofPy (PyData.list xs) = .list ws := ⟨_, rfl⟩
  obtain ⟨ws, e⟩ := e
  rw [e] at x
  cases x with
  | list ho _ =>
    obtain ⟨o, ho', hc, n, hd⟩ := hl
    rw [ho] at ho'
    cases ho'
    cases hd
    exact ho
abbrev TL2 : List (Addr × Addr) := [(94, 90), (73, 69), (52, 48), (59, 55), (99, 97)]
/-- what the head of the law gives, in the words of this text -/
theorem join2 {w : World} {s₁ : Shared} {fa l : Addr} {vs : List Value} {ns : List Int} {mg mb m : Str → Option Value} {loose : List Str} {mean : ExcName → Option Value} {h₁ : Heap} {tk₁ : Nat} {oC : Obj} {nm : Str} {A : Around}
    (hT : TabsAt TL2 s₁.heap) (X : (Mine.hd.heap_39 w.params).In (ghostOf s₁.heap TL2)) (T : Top topProg loose mean mg mb (ghostOf s₁.heap TL2))
    (F : Fr (ghostOf s₁.heap TL2) s₁.heap.objs.size h₁ m) (N : News (ghostOf s₁.heap TL2) s₁.heap.objs.size h₁ [(s₁.heap.objs.size + 1, oC), (90, tabObj #[]), (69, tabObj #[]), (48, tabObj #[]), (55, tabObj #[]), (97, tabObj #[])])
    (hoC : oC.data = .cell none) (hl : s₁.heap.IsList l vs.toArray) (hw : Well w.params s₁.heap (.ref l) (ofPy (PyData.list (ns.map PyData.int)))) (hI : IntsAre vs ns) (hlen : ¬ (63 : Int) < ns.length) (hm : m "script" = some (.ref l)) (hcd : s₁.heap.CodeRec (.ref 99) nm) (hr : Room A 12)
    {Q : Flow → Shared → Prop} {E : Value → Shared → Prop} 
    (hQ : ∀ f h' t', (∀ b o, (ghostOf s₁.heap TL2).get? b = some o → h'.get? b = some o) → GrownAll TL2 h' → (match f with | .ret v => v | _ => .none) = .bool true → Q f ⟨h', s₁.gens, s₁.drawn, t', s₁.os⟩) :
    wpAny (model Challenge.rw_pg0091_02.row.prog w) A (execs (FD pw2 14).2.1 (envX "law" (FD pw2 14).2.2 s₁.heap.objs.size fa (.ref 99) [("size", s₁.heap.objs.size + 1)])) Q E ⟨h₁, s₁.gens, s₁.drawn, tk₁, s₁.os⟩ := by
  have up : ∀ b o, (ghostOf s₁.heap TL2).get? b = some o → s₁.heap.get? b = some o := fun b o e => of_hideAll _ e
  have X' : (Mine.hd.heap_39 w.params).In s₁.heap := fun a o e => up _ _ (X a o e)
  obtain ⟨b₀, o₀, e₀, hmax⟩ := live_max (h := s₁.heap) s₁.heap.objs.size ⟨94, _, Heap.lt_size (X' 94 _ rfl), X' 94 _ rfl⟩
  letI : Base := ⟨[90, 69, 48, 55, 97], b₀ + 1⟩
  have hTb : ∀ q ∈ TL2, s₁.heap.get? q.2 = some (tabObj #[]) := fun q hq => (hT q hq).2
  have hNb : ∀ q ∈ TL2, h₁.get? q.2 = some (tabObj #[]) := fun q hq => (N (q.2, tabObj #[]) (by simp at hq; rcases hq with rfl | rfl | rfl | rfl | rfl <;> simp)).1
  have hNg : ∀ q ∈ TL2, (ghostOf s₁.heap TL2).get? q.2 = none := fun q hq => (N (q.2, tabObj #[]) (by simp at hq; rcases hq with rfl | rfl | rfl | rfl | rfl <;> simp)).2.2
  have hmem : ∀ b : Addr, b ∈ ([90, 69, 48, 55, 97] : List Addr) → ∃ q ∈ TL2, q.2 = b := fun b hb => by
    simp at hb
    rcases hb with rfl | rfl | rfl | rfl | rfl
    · exact ⟨(94, 90), by simp, rfl⟩
    · exact ⟨(73, 69), by simp, rfl⟩
    · exact ⟨(52, 48), by simp, rfl⟩
    · exact ⟨(59, 55), by simp, rfl⟩
    · exact ⟨(99, 97), by simp, rfl⟩
  have hmem' : ∀ q ∈ TL2, q.2 ∈ ([90, 69, 48, 55, 97] : List Addr) := fun q hq => by
    simp at hq; rcases hq with rfl | rfl | rfl | rfl | rfl <;> simp
  have hs1 : ∀ b o, s₁.heap.get? b = some o → h₁.get? b = some o := fun b o e => by
    by_cases hb : b ∈ ([90, 69, 48, 55, 97] : List Addr)
    · obtain ⟨q, hq, rfl⟩ := hmem b hb
      rw [hTb q hq] at e; cases e; exact hNb q hq
    · exact F.keep b o (ghost_ne e hb)
  have lk : Keep (ghostOf s₁.heap TL2) s₁.heap := .ext up
  have G : Gl mg mb s₁.heap := ⟨lk.ns T.g, lk.ns T.b, lk.lim T.nolimit, let ⟨bm, o, a, b, c, d, e, f⟩ := T.bmain; ⟨bm, o, a, b, up _ _ c, d, e, f⟩, ⟨b₀, o₀, e₀, Nat.le_refl _⟩⟩
  obtain ⟨og, es, ep, eg, dg, skg, fg⟩ := T.g
  have eg' := (X 3 _ rfl).symm.trans eg
  cases eg'
  cases dg
  have tb := T.builtins
  have hrec : ∀ q ∈ TL2, ∃ nm, s₁.heap.CodeRec (.ref q.1) nm := fun q hq => by
    simp at hq
    rcases hq with rfl | rfl | rfl | rfl | rfl
    · exact ⟨_, 94, _, _, _, rfl, X' 94 _ rfl, rfl, rfl⟩
    · exact ⟨_, 73, _, _, _, rfl, X' 73 _ rfl, rfl, rfl⟩
    · exact ⟨_, 52, _, _, _, rfl, X' 52 _ rfl, rfl, rfl⟩
    · exact ⟨_, 59, _, _, _, rfl, X' 59 _ rfl, rfl, rfl⟩
    · exact ⟨_, hcd⟩
  have hcode : ∀ q ∈ TL2, CodeG s₁.heap q.1 := fun q hq => CodeG.new (hrec q hq) (hT q hq).1 (hT q hq).2 (.inl (hmem' q hq))
  have Y : Glob2 s₁.heap mg mb 189 190 203 204 (PyData.keyHash w.params "key") (PyData.keyHash w.params "key") := {
    gl := G
    len := (fg "len").symm.trans rfl
    len' := (tb "len" (by decide)).trans rfl
    rng := (fg "range").symm.trans rfl
    rng' := (tb "range" (by decide)).trans rfl
    nsr := (fg "search_reverse").symm.trans rfl
    nbr := (fg "bisect_right").symm.trans rfl
    nbl := (fg "bisect_left").symm.trans rfl
    nsu := (fg "_law_sums").symm.trans rfl
    nht := (fg "_law_hit").symm.trans rfl
    npr := (fg "_law_prog").symm.trans rfl
    nlb := (fg "_law_looking_back").symm.trans rfl
    nha := (fg "_law_halving").symm.trans rfl
    nfu := (fg "_law_full").symm.trans rfl
    nli := (fg "_law_line").symm.trans rfl
    nru := (fg "_law_runs").symm.trans rfl
    dbr := ⟨_, _, _, _, _, _, _, _, _, X' 23 _ rfl⟩
    cbr := ⟨_, _, _, _, X' 22 _ rfl, nofun, rfl, rfl⟩
    kbr := in2 (X' 15 _ rfl) (X' 16 _ rfl)
    dbl := ⟨_, _, _, _, _, _, _, _, _, X' 32 _ rfl⟩
    cbl := ⟨_, _, _, _, X' 31 _ rfl, nofun, rfl, rfl⟩
    kbl := in2 (X' 24 _ rfl) (X' 25 _ rfl)
    dsr := ⟨_, _, _, _, _, _, _, _, _, X' 39 _ rfl⟩
    csr := ⟨_, _, _, _, X' 38 _ rfl, nofun, rfl, rfl⟩
    dsu := ⟨_, _, _, _, _, _, _, _, _, X' 46 _ rfl⟩
    csu := ⟨_, _, _, _, X' 45 _ rfl, nofun, rfl, rfl⟩
    dht := ⟨_, _, _, _, _, _, _, _, _, X' 53 _ rfl⟩
    cht := hcode (52, 48) (.tail _ (.tail _ (.head _)))
    dpr := ⟨_, _, _, _, _, _, _, _, _, X' 60 _ rfl⟩
    cpr := hcode (59, 55) (.tail _ (.tail _ (.tail _ (.head _))))
    dlb := ⟨_, _, _, _, _, _, _, _, _, X' 67 _ rfl⟩
    clb := ⟨_, _, _, _, X' 66 _ rfl, nofun, rfl, rfl⟩
    dha := ⟨_, _, _, _, _, _, _, _, _, X' 74 _ rfl⟩
    cha := hcode (73, 69) (.tail _ (.head _))
    dfu := ⟨_, _, _, _, _, _, _, _, _, X' 81 _ rfl⟩
    cfu := ⟨_, _, _, _, X' 80 _ rfl, nofun, rfl, rfl⟩
    dli := ⟨_, _, _, _, _, _, _, _, _, X' 88 _ rfl⟩
    cli := ⟨_, _, _, _, X' 87 _ rfl, nofun, rfl, rfl⟩
    dru := ⟨_, _, _, _, _, _, _, _, _, X' 95 _ rfl⟩
    cru := hcode (94, 90) (.head _) }
  have N0 := N _ (.head _)
  have Fq : Fn s₁.heap s₁.heap.objs.size m [(s₁.heap.objs.size + 1, oC)] [] [] h₁ := {
    keep := .ext hs1
    ns := F.ns
    above := get_size _
    own := fun p hp => by
      rw [List.mem_singleton.mp hp]
      have hNF : NF oC := fun vs e => by rw [hoC] at e; cases e
      exact ⟨N0.1, hNF, none_of_le (Nat.le_succ _), N0.2.1⟩
    know := fun _ h => nomatch h
    sep := fun _ _ _ h => nomatch h
    nodup := by simp
    codes := fun _ h => nomatch h }
  refine wpAny_mono (law2_spec (s₀ := s₁) Y (hcode (99, 97) (.tail _ (.tail _ (.tail _ (.tail _ (.head _)))))) (listWell hw hl) hI (by omega) A tk₁ "law" s₁.heap.objs.size h₁ hr hoC Fq hm) (fun f s' hf => ?_) (fun _ _ x => x.elim)
  obtain ⟨h', t', rfl, k, hv⟩ := hf
  have kt : ∀ q ∈ TL2, ∃ ps', h'.get? q.2 = some (tabObj ps') := fun q hq => k.tab q.2 _ (hTb q hq)
  refine hQ f h' t' (fun b o e => ?_) ⟨kt (94, 90) (.head _), kt (73, 69) (.tail _ (.head _)), kt (52, 48) (.tail _ (.tail _ (.head _))), kt (59, 55) (.tail _ (.tail _ (.tail _ (.head _)))), kt (99, 97) (.tail _ (.tail _ (.tail _ (.tail _ (.head _))))), trivial⟩ hv
  by_cases hn : NT o
  · exact k.obj _ _ (up _ _ e) hn
  · obtain ⟨ps, ho⟩ := Classical.not_forall.mp hn
    have ho' : o = tabObj ps := Classical.not_not.mp ho
    subst ho'
    refine k.old _ _ (up _ _ e) fun hg => ?_
    rcases hg with hg | hg
    · have hb : b ∈ ([90, 69, 48, 55, 97] : List Addr) := hg
      obtain ⟨q, hq, rfl⟩ := hmem b hb
      rw [hNg q hq] at e; cases e
    · have := hmax b _ (Heap.lt_size (up _ _ e)) (up _ _ e)
      have hg' : b₀ + 1 ≤ b := hg
      exact absurd (Nat.lt_of_lt_of_le (Nat.lt_succ_of_le this) hg') (Nat.lt_irrefl _)
end Mine

end

section
open PySem PySem.W PySem.Calls PyProof.Rows
open PySem PySem.W PySem.Calls PyProof.Rows
namespace Mine
set_option maxRecDepth 100000
set_option maxHeartbeats 8000000
theorem fin2 : PySem.Challenge.rw_pg0091_02.Holds := Mine.hd (by
  k_go0
  rename (_ : Obj).data = Data.cell _ => hcX
  rename _ = (#[] : Array GenState) => hgX
  refine join2 hT9 (by assumption) (by assumption) (by assumption) (by assumption) ?hoC (by assumption) (by assumption) (by assumption) (by assumption) ?hm (by assumption) ?hr ?hQ
  case hoC => exact hcX
  case hm => rfl
  case hr => exact ⟨rfl, by simp only [depth_deeper, depth_caller]; decide, by simp only [units_deeper, units_caller]; decide⟩
  case hQ =>
    intro f h' t' hk hg hv
    refine ⟨⟨.inl ⟨.bool true, .bool true, [], congrArg (fun v => Except.ok (Flow.ret v)) hv, raisesW_false ?_, .bool _, ?_, fun _ => ⟨List.nodup_nil, fun _ h => nomatch h⟩⟩, hk, rfl, hgX⟩, hg⟩
    · wrow_none_raised
    · first | kc_post | wrow_post)
end Mine

end

theorem PySem.Challenge.cw_pg0091_02_holds : PySem.Challenge.rw_pg0091_02.Holds :=
  Mine.fin2
