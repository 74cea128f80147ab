import PyProof.Rows.All
import Wide.All
import OpenK.AllK
import Wide.FinOn
import PySem.Challenge.RW_pg0091_01
set_option Elab.async false
set_option maxRecDepth 100000

section
open PySem PySem.W PySem.Calls PyProof.Rows
open PySem PySem.W PySem.Calls PyProof.Rows
namespace Mine
set_option maxRecDepth 100000

abbrev NT (o : Obj) : Prop := ∀ ps, o ≠ tabObj ps
abbrev NF (o : Obj) : Prop := ∀ vs, o.data ≠ .fields vs
theorem NF.nt {o : Obj} (x : NF o) : NT o := fun ps e => x ps (by rw [e])
/-- the code tables that may grow: those of the defs that make functions, and the new ones (the numbers are the law's) -/
class Base where
  tabs : List Addr
  lo : Nat
variable [Base]
def grow (P : Addr) : Prop := P ∈ Base.tabs ∨ Base.lo ≤ P
/-! ### code objects whose tables hold good code objects -/
def CodeN (h : Heap) : Nat → Addr → Prop
  | 0, c => (∃ q, h.CodeRec (.ref c) q) ∧ ∃ P, CodeHd h c P
  | n + 1, c => (∃ q, h.CodeRec (.ref c) q) ∧ ∃ P ps, (CodeHd h c P ∧ grow P) ∧ h.get? P = some (tabObj ps) ∧ TriplesOk ps.toList ∧
      ∀ pos v, codeAmong pos ps.toList = some v → ∃ c', v = .ref c' ∧ CodeN h n c'
def CodeG (h : Heap) (c : Addr) : Prop := ∀ n, CodeN h n c

theorem codeHd_unique {h : Heap} {c P P' : Addr} (x : CodeHd h c P) (y : CodeHd h c P') : P = P' := by
  obtain ⟨o, vs, _, _, _, _, _, _, _, e1, _, e3, e4, _⟩ := x
  obtain ⟨o', vs', _, _, _, _, _, _, _, f1, _, f3, f4, _⟩ := y
  rw [e1] at f1; cases f1
  rw [e3] at f3; cases f3
  rw [e4] at f4; cases f4; rfl

theorem CodeN.rec' {h : Heap} {c : Addr} : ∀ {n}, CodeN h n c → ∃ q, h.CodeRec (.ref c) q
  | 0, x => x.1
  | _ + 1, x => x.1
theorem CodeN.hd {h : Heap} {c : Addr} : ∀ {n}, CodeN h n c → ∃ P, CodeHd h c P
  | 0, x => x.2
  | _ + 1, x => let ⟨_, P, _, hp, _⟩ := x; ⟨P, hp.1⟩

theorem CodeG.open {h : Heap} {c : Addr} (x : CodeG h c) : ∃ P ps, CodeHd h c P ∧ h.get? P = some (tabObj ps) ∧ TriplesOk ps.toList ∧
      (∀ pos v, codeAmong pos ps.toList = some v → ∃ c', v = .ref c' ∧ CodeG h c') ∧ grow P := by
  obtain ⟨_, P, ps, ⟨h1, hgr⟩, h2, h3, _⟩ := x 1
  refine ⟨P, ps, h1, h2, h3, fun pos v hv => ?_, hgr⟩
  obtain ⟨_, P0, ps0, ⟨g1, _⟩, g2, g3, g4⟩ := x 1
  have e := codeHd_unique h1 g1; subst e
  rw [h2] at g2; cases g2
  obtain ⟨c', rfl, _⟩ := g4 pos v hv
  refine ⟨c', rfl, fun n => ?_⟩
  obtain ⟨_, P1, ps1, ⟨k1, _⟩, k2, k3, k4⟩ := x (n + 1)
  have e := codeHd_unique h1 k1; subst e
  rw [h2] at k2; cases k2
  obtain ⟨c'', e, y⟩ := k4 pos _ hv
  cases e; exact y
theorem CodeG.rec' {h : Heap} {c : Addr} (x : CodeG h c) : ∃ q, h.CodeRec (.ref c) q := (x 0).rec'

theorem CodeG.new {h : Heap} {c P : Addr} (r : ∃ q, h.CodeRec (.ref c) q) (x : CodeHd h c P) (y : h.get? P = some (tabObj #[])) (hg : grow P) : CodeG h c
  | 0 => ⟨r, P, x⟩
  | n + 1 => ⟨r, P, #[], ⟨x, hg⟩, y, trivial, fun pos v hv => by cases hv⟩

theorem codeHd_sameBut {h h' : Heap} {a c P : Addr} {o : Obj} (x : CodeHd h c P) (hs : Heap.ExtBut a h h') (ho : h.get? a = some o) (hd : NF o ∨ o.cls ≠ .type "code") : CodeHd h' c P := by
  obtain ⟨o1, vs, file, tf, flags, tg, inF, text, tt, e, hc, r⟩ := x
  refine ⟨o1, vs, file, tf, flags, tg, inF, text, tt, hs _ _ (fun q => ?_) e, hc, r⟩
  subst q; rw [ho] at e; cases e; exact hd.elim (fun n => n _ r.1) fun n => n hc
theorem codeRec_sameBut {h h' : Heap} {a c P : Addr} {o : Obj} {q : Str} (r : h.CodeRec (.ref c) q) (x : CodeHd h c P) (hs : Heap.ExtBut a h h') (ho : h.get? a = some o) (hd : NF o ∨ o.cls ≠ .type "code") : h'.CodeRec (.ref c) q := by
  obtain ⟨o1, vs, file, tf, flags, tg, inF, text, tt, e, hc, r0⟩ := x
  obtain ⟨c', o2, vs', t, e1, e2, r⟩ := r
  cases e1
  refine ⟨_, o2, vs', t, rfl, hs _ _ (fun q => ?_) e2, r⟩
  subst q; rw [ho] at e; cases e; exact hd.elim (fun n => n _ r0.1) fun n => n hc

theorem CodeN.ext {h h' : Heap} (k : ∀ b o, h.get? b = some o → h'.get? b = some o) : ∀ {n c}, CodeN h n c → CodeN h' n c
  | 0, _, ⟨⟨q, r⟩, P, x⟩ => ⟨⟨q, r.keeps k⟩, P, x.keeps k⟩
  | n + 1, _, ⟨⟨q, r⟩, P, ps, ⟨x, gp⟩, y, z, u⟩ => ⟨⟨q, r.keeps k⟩, P, ps, ⟨x.keeps k, gp⟩, k _ _ y, z, fun pos v hv => let ⟨c', e, w⟩ := u pos v hv; ⟨c', e, w.ext k⟩⟩

/-- a change at an object that is neither a code object nor a code table -/
theorem CodeN.sameBut {h h' : Heap} {a : Addr} {o : Obj} (hs : Heap.ExtBut a h h') (ho : h.get? a = some o) (hn : NT o) (hc : NF o ∨ o.cls ≠ .type "code") : ∀ {n c}, CodeN h n c → CodeN h' n c
  | 0, _, ⟨⟨q, r⟩, P, x⟩ => ⟨⟨q, codeRec_sameBut r x hs ho hc⟩, P, codeHd_sameBut x hs ho hc⟩
  | n + 1, _, ⟨⟨q, r⟩, P, ps, ⟨x, gp⟩, y, z, u⟩ => ⟨⟨q, codeRec_sameBut r x hs ho hc⟩, P, ps, ⟨codeHd_sameBut x hs ho hc, gp⟩,
      hs _ _ (fun e => by subst e; rw [ho] at y; cases y; exact hn _ rfl) y, z, fun pos v hv => let ⟨c', e, w⟩ := u pos v hv; ⟨c', e, w.sameBut hs ho hn hc⟩⟩

theorem codeAmong_app {pos pos' : Pos} {c v : Value} (l : List Value) (h : TriplesOk l) (hv : codeAmong pos (l ++ [rawInt pos'.line, rawInt pos'.col, c]) = some v) :
    codeAmong pos l = some v ∨ v = c := by
  fun_induction TriplesOk l with
  | case1 =>
    simp only [List.nil_append, codeAmong, rawInt] at hv
    split at hv
    · cases hv; exact .inr rfl
    · cases hv
  | case2 a t b u x rest ih =>
    simp only [List.cons_append, codeAmong] at hv ⊢
    split at hv
    · rename_i q; rw [if_pos q]; exact .inl hv
    · rename_i q; rw [if_neg q]; exact ih h hv
  | case3 l h1 h2 => exact h.elim

/-- a code table grows by one good code object -/
theorem CodeN.table {h h' : Heap} {P₀ : Addr} {ps₀ : Array Value} {pos₀ : Pos} {c₀ : Addr} (hs : Heap.ExtBut P₀ h h') (ho : h.get? P₀ = some (tabObj ps₀))
    (ho' : h'.get? P₀ = some (tabObj (ps₀ ++ #[rawInt pos₀.line, rawInt pos₀.col, .ref c₀]))) (hg : CodeG h' c₀) : ∀ {n c}, CodeN h n c → CodeN h' n c
  | 0, _, ⟨⟨q, r⟩, P, x⟩ => ⟨⟨q, codeRec_sameBut r x hs ho (.inr nofun)⟩, P, codeHd_sameBut x hs ho (.inr nofun)⟩
  | n + 1, c, ⟨⟨q, r⟩, P, ps, ⟨x, gp⟩, y, z, u⟩ => by
    have ih : ∀ {c}, CodeN h n c → CodeN h' n c := fun w => CodeN.table hs ho ho' hg w
    by_cases e : P = P₀
    · subst e
      rw [ho] at y; cases y
      refine ⟨⟨q, codeRec_sameBut r x hs ho (.inr nofun)⟩, P, _, ⟨codeHd_sameBut x hs ho (.inr nofun), gp⟩, ho', ?_, fun pos v hv => ?_⟩
      · rw [Array.toList_append]; exact TriplesOk_snoc _ _ _ _ z
      · rw [Array.toList_append] at hv
        rcases codeAmong_app _ z hv with hv | rfl
        · obtain ⟨c', e, w⟩ := u pos v hv; exact ⟨c', e, ih w⟩
        · exact ⟨c₀, rfl, hg n⟩
    · exact ⟨⟨q, codeRec_sameBut r x hs ho (.inr nofun)⟩, P, ps, ⟨codeHd_sameBut x hs ho (.inr nofun), gp⟩, hs _ _ e y, z, fun pos v hv => let ⟨c', e, w⟩ := u pos v hv; ⟨c', e, ih w⟩⟩

/-! ### what a call leaves as it was -/
structure Keep (h h' : Heap) : Prop where
  obj : ∀ b o, h.get? b = some o → NT o → h'.get? b = some o
  code : ∀ c, CodeG h c → CodeG h' c
  live : ∀ b o, h.get? b = some o → ∃ o', h'.get? b = some o'
  tab : ∀ b ps, h.get? b = some (tabObj ps) → ∃ ps', h'.get? b = some (tabObj ps')
  old : ∀ b ps, h.get? b = some (tabObj ps) → ¬ grow b → h'.get? b = some (tabObj ps)

theorem Keep.refl (h : Heap) : Keep h h := ⟨fun _ _ e _ => e, fun _ x => x, fun _ o e => ⟨o, e⟩, fun _ ps e => ⟨ps, e⟩, fun _ _ e _ => e⟩
theorem Keep.trans {h₁ h₂ h₃ : Heap} (x : Keep h₁ h₂) (y : Keep h₂ h₃) : Keep h₁ h₃ :=
  ⟨fun b o e n => y.obj b o (x.obj b o e n) n, fun c z => y.code c (x.code c z), fun b o e => let ⟨_, e'⟩ := x.live b o e; y.live b _ e', fun b ps e => let ⟨_, e'⟩ := x.tab b ps e; y.tab b _ e', fun b ps e g => y.old b ps (x.old b ps e g) g⟩
theorem Keep.ext {h h' : Heap} (k : ∀ b o, h.get? b = some o → h'.get? b = some o) : Keep h h' :=
  ⟨fun b o e _ => k b o e, fun _ x n => (x n).ext k, fun b o e => ⟨o, k b o e⟩, fun b ps e => ⟨ps, k b _ e⟩, fun b ps e _ => k b _ e⟩
theorem Keep.gone {h h' : Heap} (k : Keep h h') {a : Addr} (e : h'.get? a = none) : h.get? a = none := by
  cases q : h.get? a with
  | none => rfl
  | some o => obtain ⟨o', e'⟩ := k.live a o q; rw [e] at e'; cases e'
theorem Keep.push (h : Heap) (o : Obj) : Keep h (h.push o) := .ext fun _ _ e => Heap.get?_push_of_some o e
theorem get_size (h : Heap) : h.get? h.objs.size = none := by
  cases q : h.get? h.objs.size with
  | none => rfl
  | some o => exact absurd (Heap.lt_size q) (Nat.lt_irrefl _)
theorem ne_of_get {h : Heap} {a b : Addr} {o : Obj} (e : h.get? a = some o) (e' : h.get? b = none) : a ≠ b := fun q => by rw [q, e'] at e; cases e
theorem Keep.table {h h' : Heap} {P₀ : Addr} {ps₀ : Array Value} {pos₀ : Pos} {c₀ : Addr} (hs : Heap.ExtBut P₀ h h') (ho : h.get? P₀ = some (tabObj ps₀))
    (ho' : h'.get? P₀ = some (tabObj (ps₀ ++ #[rawInt pos₀.line, rawInt pos₀.col, .ref c₀]))) (hg : CodeG h' c₀) (hgr : grow P₀) : Keep h h' :=
  ⟨fun b o e n => hs b o (fun q => by subst q; rw [ho] at e; cases e; exact n _ rfl) e, fun _ x k => (x k).table hs ho ho' hg, fun b o e => by
    by_cases q : b = P₀
    · subst q; exact ⟨_, ho'⟩
    · exact ⟨o, hs b _ q e⟩, fun b ps e => by
    by_cases q : b = P₀
    · subst q; exact ⟨_, ho'⟩
    · exact ⟨ps, hs b _ q e⟩, fun b ps e g => hs b _ (fun q => g (q ▸ hgr)) e⟩

/-! ### the state within a call of a def -/
structure Fn (h₀ : Heap) (L : Addr) (m : Str → Option Value) (U T : List (Addr × Obj)) (C : List Addr) (h : Heap) : Prop where
  keep : Keep h₀ h
  ns : h.Ns L m
  above : h₀.get? L = none
  own : ∀ p ∈ U, h.get? p.1 = some p.2 ∧ NF p.2 ∧ h₀.get? p.1 = none ∧ p.1 ≠ L
  know : ∀ p ∈ T, h.get? p.1 = some p.2 ∧ NT p.2 ∧ p.1 ≠ L
  sep : ∀ p ∈ U, ∀ q ∈ T, p.1 ≠ q.1
  nodup : (U.map (·.1)).Nodup
  codes : ∀ c ∈ C, CodeG h c

section
variable {h₀ h h' : Heap} {L : Addr} {m : Str → Option Value} {U T N : List (Addr × Obj)} {C : List Addr}

theorem Fn.get (F : Fn h₀ L m U T C h) {a : Addr} {o : Obj} (hm : (a, o) ∈ T) : h.get? a = some o := (F.know _ hm).1
theorem Fn.getU (F : Fn h₀ L m U T C h) {a : Addr} {o : Obj} (hm : (a, o) ∈ U) : h.get? a = some o := (F.own _ hm).1
theorem Fn.getL (F : Fn h₀ L m U T C h) : ∃ o, h.get? L = some o ∧ NF o := let ⟨o, es, ep, e, d, _⟩ := F.ns; ⟨o, e, fun vs q => by rw [d] at q; cases q⟩

theorem Fn.kept (F : Fn h₀ L m U T C h) (k : Keep h h') : Fn h₀ L m U T C h' where
  keep := F.keep.trans k
  ns := by
    obtain ⟨o, es, ep, e, d, r⟩ := F.ns
    exact ⟨o, es, ep, k.obj _ _ e (NF.nt fun vs q => by rw [d] at q; cases q), d, r⟩
  above := F.above
  own := fun p hp => ⟨k.obj _ _ (F.own p hp).1 (F.own p hp).2.1.nt, (F.own p hp).2⟩
  know := fun p hp => ⟨k.obj _ _ (F.know p hp).1 (F.know p hp).2.1, (F.know p hp).2⟩
  sep := F.sep
  nodup := F.nodup
  codes := fun c hc => k.code c (F.codes c hc)

/-- new facts from a call -/
def New (h h' : Heap) (N : List (Addr × Obj)) : Prop := ∀ p ∈ N, h'.get? p.1 = some p.2 ∧ NT p.2 ∧ h.get? p.1 = none
theorem New.nil (h h' : Heap) : New h h' [] := fun _ hp => nomatch hp
theorem New.kept {h'' : Heap} (x : New h h' N) (k : Keep h' h'') : New h h'' N := fun p hp => ⟨k.obj _ _ (x p hp).1 (x p hp).2.1, (x p hp).2⟩
theorem New.before {g : Heap} (x : New h h' N) (k : Keep g h) : New g h' N := fun p hp => ⟨(x p hp).1, (x p hp).2.1, k.gone (x p hp).2.2⟩
theorem New.append {M : List (Addr × Obj)} (x : New h h' N) (y : New h h' M) : New h h' (N ++ M) := fun p hp => (List.mem_append.mp hp).elim (x p) (y p)
theorem Fn.learn (F : Fn h₀ L m U T C h) (k : Keep h h') (x : New h h' N) : Fn h₀ L m U (N ++ T) C h' :=
  let G := F.kept k
  { G with
    know := fun p hp => (List.mem_append.mp hp).elim (fun q => ⟨(x p q).1, (x p q).2.1, fun e => let ⟨_, e', _⟩ := F.getL; ne_of_get e' (x p q).2.2 e.symm⟩) (G.know p)
    sep := fun p hp q hq => (List.mem_append.mp hq).elim (fun z => ne_of_get (F.own p hp).1 (x q z).2.2) (F.sep p hp q) }
theorem Fn.push (F : Fn h₀ L m U T C h) (o : Obj) : Fn h₀ L m U T C (h.push o) := F.kept (.push h o)
theorem New.one (o : Obj) (hf : o.isFreed = false) (hc : NT o) : New h (h.push o) [(h.objs.size, o)] := fun p hp => by
    rw [List.mem_singleton.mp hp]; exact ⟨Heap.get?_push_size _ hf, hc, get_size h⟩
theorem Fn.pushT (F : Fn h₀ L m U T C h) (o : Obj) (hf : o.isFreed = false) (hc : NT o) : Fn h₀ L m U ((h.objs.size, o) :: T) C (h.push o) :=
  F.learn (N := [(h.objs.size, o)]) (.push h o) (New.one o hf hc)
theorem Fn.pushU (F : Fn h₀ L m U T C h) (o : Obj) (hf : o.isFreed = false) (hc : NF o) : Fn h₀ L m ((h.objs.size, o) :: U) T C (h.push o) :=
  let G := F.push o
  have ne : ∀ a o', h.get? a = some o' → h.objs.size ≠ a := fun a o' e q => ne_of_get e (get_size h) q.symm
  { G with
    own := fun p hp => (List.mem_cons.mp hp).elim (fun e => by subst e; exact ⟨Heap.get?_push_size _ hf, hc, F.keep.gone (get_size h), let ⟨_, e, _⟩ := F.getL; ne _ _ e⟩) (G.own p)
    sep := fun p hp q hq => (List.mem_cons.mp hp).elim (fun e => by subst e; exact ne _ _ (F.know q hq).1) (fun z => F.sep p z q hq)
    nodup := List.nodup_cons.mpr ⟨fun hm => by
      obtain ⟨p, hp, e⟩ := List.mem_map.mp hm
      exact ne _ _ (F.own p hp).1 e.symm, F.nodup⟩ }

theorem Keep.sameBut {a : Addr} {o : Obj} (k : Keep h₀ h) (hs : Heap.SameBut a h h') (ha : h₀.get? a = none) (ho : h.get? a = some o) (hn : NF o) : Keep h₀ h' := by
  have ne : ∀ b o', h₀.get? b = some o' → b ≠ a := fun b o' e => ne_of_get e ha
  refine ⟨fun b o' e' n' => (hs.2 b (ne _ _ e')).trans (k.obj b o' e' n'), fun c' x n => ((k.code c' x) n).sameBut hs.extBut ho hn.nt (.inl hn), fun b o' e' => ?_, fun b ps e' => ?_, fun b ps e' g => (hs.2 b (ne _ _ e')).trans (k.old b ps e' g)⟩
  · obtain ⟨o2, e2⟩ := k.live b o' e'
    exact ⟨o2, (hs.2 b (ne _ _ e')).trans e2⟩
  · obtain ⟨ps', e2⟩ := k.tab b ps e'
    exact ⟨ps', (hs.2 b (ne _ _ e')).trans e2⟩

/-- a change at the frame's own object -/
theorem Fn.set {m' : Str → Option Value} (F : Fn h₀ L m U T C h) (hn : h'.Ns L m') (hs : Heap.SameBut L h h') : Fn h₀ L m' U T C h' where
  keep := by obtain ⟨o, e, n⟩ := F.getL; exact F.keep.sameBut hs F.above e n
  ns := hn
  above := F.above
  own := fun p hp => ⟨(hs.2 p.1 (F.own p hp).2.2.2).trans (F.own p hp).1, (F.own p hp).2⟩
  know := fun p hp => ⟨(hs.2 p.1 (F.know p hp).2.2).trans (F.know p hp).1, (F.know p hp).2⟩
  sep := F.sep
  nodup := F.nodup
  codes := fun c hc n => by obtain ⟨o, e, z⟩ := F.getL; exact (F.codes c hc n).sameBut hs.extBut e z.nt (.inl z)

/-- a change at an object of the call's own that may change (the first one) -/
theorem Fn.upd {a : Addr} {o o' : Obj} (F : Fn h₀ L m ((a, o) :: U) T C h) (hs : Heap.SameBut a h h') (ho : h'.get? a = some o') (hc : NF o') : Fn h₀ L m ((a, o') :: U) T C h' := by
  have M := F.own _ (.head _)
  have nd := List.nodup_cons.mp F.nodup
  have neU : ∀ p ∈ U, p.1 ≠ a := fun p hp e => nd.1 (List.mem_map.mpr ⟨p, hp, e⟩)
  refine ⟨F.keep.sameBut hs M.2.2.1 M.1 M.2.1, F.ns.sameBut hs (Ne.symm M.2.2.2), F.above, fun p hp => ?_, fun p hp => ?_, fun p hp q hq => ?_, List.nodup_cons.mpr nd, fun c hc n => (F.codes c hc n).sameBut hs.extBut M.1 M.2.1.nt (.inl M.2.1)⟩
  · rcases List.mem_cons.mp hp with e | hp
    · subst e; exact ⟨ho, hc, M.2.2⟩
    · have z := F.own p (.tail _ hp)
      exact ⟨(hs.2 _ (neU p hp)).trans z.1, z.2⟩
  · have z := F.know p hp
    exact ⟨(hs.2 _ (Ne.symm (F.sep _ (.head _) p hp))).trans z.1, z.2⟩
  · rcases List.mem_cons.mp hp with e | hp
    · subst e; exact F.sep _ (.head _) q hq
    · exact F.sep _ (.tail _ hp) q hq
theorem Fn.swap {a b : Addr × Obj} (F : Fn h₀ L m (a :: b :: U) T C h) : Fn h₀ L m (b :: a :: U) T C h :=
  { F with
    own := fun p hp => F.own p (by rcases List.mem_cons.mp hp with e | hp; · subst e; exact .tail _ (.head _)
                                   · rcases List.mem_cons.mp hp with e | hp; · subst e; exact .head _
                                     · exact .tail _ (.tail _ hp))
    sep := fun p hp => F.sep p (by rcases List.mem_cons.mp hp with e | hp; · subst e; exact .tail _ (.head _)
                                   · rcases List.mem_cons.mp hp with e | hp; · subst e; exact .head _
                                     · exact .tail _ (.tail _ hp))
    nodup := by
      have nd := F.nodup
      simp only [List.map_cons, List.nodup_cons, List.mem_cons] at nd ⊢
      exact ⟨fun e => e.elim (fun e => nd.1 (.inl e.symm)) nd.2.1, fun e => nd.1 (.inr e), nd.2.2⟩ }
/-- the first object that may change is from now on known -/
theorem Fn.freeze {a : Addr × Obj} (F : Fn h₀ L m (a :: U) T C h) : Fn h₀ L m U (a :: T) C h := by
  have M := F.own _ (.head _)
  have nd := List.nodup_cons.mp F.nodup
  exact { F with
    own := fun p hp => F.own p (.tail _ hp)
    know := fun p hp => (List.mem_cons.mp hp).elim (fun e => by subst e; exact ⟨M.1, M.2.1.nt, M.2.2.2⟩) (F.know p)
    sep := fun p hp q hq => (List.mem_cons.mp hq).elim (fun e => by subst e; exact fun e => nd.1 (List.mem_map.mpr ⟨p, hp, e⟩)) (F.sep p (.tail _ hp) q)
    nodup := nd.2 }
theorem Fn.sub {T' : List (Addr × Obj)} (F : Fn h₀ L m U T C h) (hs : ∀ p ∈ T', p ∈ T) : Fn h₀ L m U T' C h :=
  { F with know := fun p hp => F.know p (hs p hp), sep := fun p hp q hq => F.sep p hp q (hs q hq) }
theorem Fn.recall {a : Addr} {o : Obj} (F : Fn h₀ L m U T C h) (e : h₀.get? a = some o) (hn : NT o) : Fn h₀ L m U ((a, o) :: T) C h :=
  { F with
    know := fun p hp => (List.mem_cons.mp hp).elim (fun q => by subst q; exact ⟨F.keep.obj _ _ e hn, hn, ne_of_get e F.above⟩) (F.know p)
    sep := fun p hp q hq => (List.mem_cons.mp hq).elim (fun z => by subst z; exact Ne.symm (ne_of_get e (F.own p hp).2.2.1)) (F.sep p hp q) }
theorem Fn.recallC {c : Addr} (F : Fn h₀ L m U T C h) (e : CodeG h₀ c) : Fn h₀ L m U T (c :: C) h :=
  { F with codes := fun c' hc => (List.mem_cons.mp hc).elim (fun q => by subst q; exact F.keep.code _ e) (F.codes c') }
theorem Fn.recallAll {T' : List (Addr × Obj)} (F : Fn h₀ L m U T C h) (e : ∀ p ∈ T', h₀.get? p.1 = some p.2 ∧ NT p.2) : Fn h₀ L m U (T' ++ T) C h := by
  induction T' with
  | nil => exact F
  | cons p r ih => exact (ih fun q hq => e q (.tail _ hq)).recall (e p (.head _)).1 (e p (.head _)).2
theorem Fn.recallAllC {C' : List Addr} (F : Fn h₀ L m U T C h) (e : ∀ c ∈ C', CodeG h₀ c) : Fn h₀ L m U T (C' ++ C) h := by
  induction C' with
  | nil => exact F
  | cons p r ih => exact (ih fun q hq => e q (.tail _ hq)).recallC (e p (.head _))
theorem Fn.learnAllC {C' : List Addr} (F : Fn h₀ L m U T C h) (e : ∀ c ∈ C', CodeG h c) : Fn h₀ L m U T (C' ++ C) h :=
  { F with codes := fun c' hc => (List.mem_append.mp hc).elim (e c') (F.codes c') }
theorem Fn.learnC {c : Addr} (F : Fn h₀ L m U T C h) (e : CodeG h c) : Fn h₀ L m U T (c :: C) h :=
  { F with codes := fun c' hc => (List.mem_cons.mp hc).elim (fun q => by subst q; exact e) (F.codes c') }
theorem Fn.learnU {a : Addr} {o : Obj} (F : Fn h₀ L m U T C h) (k : Keep h h') (e : h'.get? a = some o) (hn : NF o) (hg : h.get? a = none) : Fn h₀ L m ((a, o) :: U) T C h' :=
  let G := F.kept k
  have ne : ∀ b o', h.get? b = some o' → a ≠ b := fun b o' e q => ne_of_get e hg q.symm
  { G with
    own := fun p hp => (List.mem_cons.mp hp).elim (fun q => by subst q; exact ⟨e, hn, F.keep.gone hg, let ⟨_, e, _⟩ := F.getL; ne _ _ e⟩) (G.own p)
    sep := fun p hp q hq => (List.mem_cons.mp hp).elim (fun z => by subst z; exact ne _ _ (F.know q hq).1) (fun z => F.sep p z q hq)
    nodup := List.nodup_cons.mpr ⟨fun hm => by
      obtain ⟨p, hp, e⟩ := List.mem_map.mp hm
      exact ne _ _ (F.own p hp).1 e.symm, F.nodup⟩ }
/-- a change at a known object that is no object of before the call (an iterator) -/
theorem Fn.other {I : Addr} {o : Obj} (F : Fn h₀ L m U ((I, o) :: T) C h) (hI : h₀.get? I = none) (hc : o.cls ≠ .type "code") (hx : Heap.ExtBut I h h') (hT : ∀ p ∈ T, p.1 ≠ I) : Fn h₀ L m U T C h' := by
  have M := F.know _ (.head _)
  have ne : ∀ b o', h₀.get? b = some o' → b ≠ I := fun b o' e => ne_of_get e hI
  refine ⟨⟨fun b o' e n => hx b o' (ne _ _ e) (F.keep.obj b o' e n), fun c x n => (F.keep.code c x n).sameBut hx M.1 M.2.1 (.inr hc), fun b o' e => ?_, fun b ps e => ?_, fun b ps e g => hx _ _ (ne _ _ e) (F.keep.old b ps e g)⟩, F.ns.extBut hx (Ne.symm M.2.2), F.above,
    fun p hp => ⟨hx _ _ (F.sep p hp _ (.head _)) (F.own p hp).1, (F.own p hp).2⟩, fun p hp => ⟨hx _ _ (hT p hp) (F.know p (.tail _ hp)).1, (F.know p (.tail _ hp)).2⟩, fun p hp q hq => F.sep p hp q (.tail _ hq), F.nodup, fun c hc' n => (F.codes c hc' n).sameBut hx M.1 M.2.1 (.inr hc)⟩
  · obtain ⟨o2, e2⟩ := F.keep.live b o' e
    exact ⟨o2, hx _ _ (ne _ _ e) e2⟩
  · obtain ⟨ps', e2⟩ := F.keep.tab b ps e
    exact ⟨ps', hx _ _ (ne _ _ e) e2⟩
theorem Fn.addT {a : Addr} {o : Obj} (F : Fn h₀ L m U T C h) (e : h.get? a = some o) (hn : NT o) (hL : a ≠ L) (hU : ∀ p ∈ U, p.1 ≠ a) : Fn h₀ L m U ((a, o) :: T) C h :=
  { F with
    know := fun p hp => (List.mem_cons.mp hp).elim (fun q => by subst q; exact ⟨e, hn, hL⟩) (F.know p)
    sep := fun p hp q hq => (List.mem_cons.mp hq).elim (fun z => by subst z; exact hU p hp) (F.sep p hp q) }
theorem Fn.newU (F : Fn h₀ L m U T C h) : New h₀ h U := fun p hp => ⟨(F.own p hp).1, (F.own p hp).2.1.nt, (F.own p hp).2.2.1⟩
end
end Mine

end

section
open PySem PySem.W PySem.Calls PyProof.Rows
open PySem PySem.W PySem.Calls PyProof.Rows
namespace Mine
variable [Base]
set_option maxRecDepth 100000

/-! ### what the top laid -/
structure Gl (mg mb : Str → Option Value) (h : Heap) : Prop where
  g : h.Ns mainGlobals mg
  b : h.Ns builtinsNs mb
  lim : h.NoLimit
  bm : ∃ bm o, mg "__builtins__" = some (.ref bm) ∧ bm ≠ builtinsNs ∧ h.get? bm = some o ∧ o.cls = .type "module" ∧ o.dict = some builtinsNs ∧ o.data = .plain
  big : ∃ b o, h.get? b = some o ∧ Base.lo ≤ b + 1

theorem Keep.ns {h h' : Heap} {a : Addr} {m : Str → Option Value} (k : Keep h h') (x : h.Ns a m) : h'.Ns a m := by
  obtain ⟨o, es, ep, e, d, r⟩ := x
  exact ⟨o, es, ep, k.obj _ _ e (NF.nt fun vs q => by rw [d] at q; cases q), d, r⟩
theorem Keep.lim {h h' : Heap} (k : Keep h h') (x : h.NoLimit) : h'.NoLimit := let ⟨mc, a, b⟩ := x; ⟨mc, k.ns a, b⟩
theorem Gl.kept {mg mb : Str → Option Value} {h h' : Heap} (x : Gl mg mb h) (k : Keep h h') : Gl mg mb h' :=
  ⟨k.ns x.g, k.ns x.b, k.lim x.lim, let ⟨bm, o, a, b, c, d, e, f⟩ := x.bm; ⟨bm, o, a, b, k.obj _ _ c (NF.nt fun vs q => by rw [f] at q; cases q), d, e, f⟩, let ⟨b, o, e, hb⟩ := x.big; let ⟨o', e'⟩ := k.live _ _ e; ⟨b, o', e', hb⟩⟩
theorem Keep.list {h h' : Heap} {a : Addr} {its : Array Value} (k : Keep h h') (x : h.IsList a its) : h'.IsList a its := by
  obtain ⟨o, e, c, n, d⟩ := x
  exact ⟨o, k.obj _ _ e (NF.nt fun vs q => by rw [d] at q; cases q), c, n, d⟩

abbrev St (s₀ : Shared) (h : Heap) (t : Nat) : Shared := { s₀ with heap := h, toks := t }
abbrev NoE : Value → Shared → Prop := fun _ _ => False

structure Room (A : Around) (d : Nat) : Prop where
  handled : A.handled = none
  depth : A.depth + d < recursionLimit
  units : A.units + 10 * d < cLine

/-- the def or lambda at f, called, ends with a value and a heap as told -/
def Calls (prog : Program) (w : World) (d : Nat) (f : Value) (args : Args) (h : Heap) (P : Value → Heap → Prop) : Prop :=
  ∀ (A : Around) (s₀ : Shared) (t : Nat) (R : Result → Shared → Prop), Room A d →
    (∀ v h' t', Keep h h' → P v h' → R (.ok (.ret v)) (St s₀ h' t')) → codeAny (model prog w) A (.call f args) R (St s₀ h t)

theorem Calls.mono {prog : Program} {w : World} {d : Nat} {f : Value} {args : Args} {h : Heap} {P P' : Value → Heap → Prop} (x : Calls prog w d f args h P) (k : ∀ v h', Keep h h' → P v h' → P' v h') : Calls prog w d f args h P' :=
  fun A s₀ t R hr z => x A s₀ t R hr fun v h' t' kk p => z v h' t' kk (k v h' kk p)
theorem Room.less {A : Around} {d d' : Nat} (x : Room A d) (h : d' ≤ d) : Room A d' := ⟨x.handled, by have := x.depth; omega, by have := x.units; omega⟩

/-! ### function creation -/
section
variable {M : Model} {A : Around} {E : Value → Shared → Prop} {s : Shared} {name qual : Str} {params : Arguments} {body : FuncBody} {scope : Scope} {env : Env} {c : Addr} {pos : Pos} {firstLine : Nat} {mg mb : Str → Option Value}
  {clos : List (Str × Addr)} {Q : Value → Shared → Prop}

theorem codeN_new {h : Heap} {c P : Addr} {q : Str} (hr : h.CodeRec (.ref c) q) (hc : h.IsCode c P #[]) (ht : h.TableAt c P #[]) (hg : grow P) : CodeG h c := CodeG.new ⟨q, hr⟩ (CodeHd.of hc ht) ht.2 hg

theorem makeTail_G {dV : Value} (hcl : closureFor scope env = pure clos) (hge0 : env.globals = mainGlobals) (G : Gl mg mb s.heap) (hcode : env.code = .ref c) (C : CodeG s.heap c)
    (h : ∀ f c' ctv doc h' tk, Keep s.heap h' → s.heap.get? f = none → h'.get? f = some (kdv_obj name qual params body scope clos dV doc ((mg "__name__").getD .none) c' ctv) → CodeG h' c' →
      Q (.ref f) { s with heap := h', toks := tk }) :
    wpAny M A (makeTail name qual params body scope env dV .none none pos firstLine) Q E s := by
  obtain ⟨P, ps, C1, hP, ht, hall, hgrP⟩ := C.open
  obtain ⟨bm, ob, hbm, hne0, hbo, hcls, hdict, hdata⟩ := G.bm
  have hgP : mainGlobals ≠ P := fun q => by
    obtain ⟨o, es, ep, e, hd, _⟩ := G.g
    rw [q, hP] at e; cases e; cases hd
  have hbP : bm ≠ P := fun q => by rw [q, hP] at hbo; cases hbo; cases hcls
  have hbG : bm ≠ mainGlobals := fun q => by
    obtain ⟨o, es, ep, e, hd, _⟩ := G.g
    rw [q, e] at hbo; cases hbo; rw [hd] at hdata; cases hdata
  cases hf : codeAmong pos ps.toList with
  | some cv =>
    obtain ⟨c', rfl, hc'⟩ := hall pos cv hf
    refine kdv_makeTailHit (mg := mg) hcl hge0 G.g hcode C1 hP ht hf ⟨bm, ob, hbm, hne0, hbG, hbP, hbo, hcls, hdict, hdata⟩ fun ctv doc h' tk hk hsz => ?_
    have K1 : Keep s.heap h' := .ext hk
    refine h _ c' ctv doc _ tk (K1.trans (.push _ _)) (K1.gone (get_size h')) (Heap.get?_push_size _ rfl) (Keep.code (K1.trans (.push _ _)) c' hc')
  | none =>
    have go : ∀ (s₁ : Shared) (ctv : Value), (∀ b o, s.heap.get? b = some o → s₁.heap.get? b = some o) → s₁.gens = s.gens → s₁.drawn = s.drawn → s₁.os = s.os →
        wpAny M A (functionCode env pos firstLine name qual params scope body) (fun cv s₂ => wpAny M A (do
          let b ← builtinsFor env.globals env.builtins
          let nm ← nsGet env.globals "__name__"
          match body with
          | .stmts bb => do
            let dc ← (match docOf bb with | some s => mkText s | none => pure .none)
            newObj (.type "function") (.func { name := name, qualname := qual, params := params, body := body, scope := scope, globals := env.globals, closure := clos, closureTuple := ctv, code := cv, builtins := b, defaults := dV, kwdefaults := .none, annotations := none, pyModule := nm.getD .none, doc := dc })
          | .expr _ => do
            let dc ← pure .none
            newObj (.type "function") (.func { name := name, qualname := qual, params := params, body := body, scope := scope, globals := env.globals, closure := clos, closureTuple := ctv, code := cv, builtins := b, defaults := dV, kwdefaults := .none, annotations := none, pyModule := nm.getD .none, doc := dc })) Q E s₂) E s₁ := by
      intro s₁ ctv hk hg hdr hos
      have K0 : Keep s.heap s₁.heap := .ext hk
      have P1 := hk _ _ hP
      refine wpAny_functionCodeX hcode ((C1.keeps hk).code P1 ht) ((C1.keeps hk).tab P1) hf fun c' h' tk hx hge hlt hok hrec htb hnew => ?_
      obtain ⟨P', hP', hi', ht'⟩ := hnew
      have CG : CodeG h' c' := codeN_new hrec hi' ht' (.inr (by obtain ⟨bz, oz, ez, hz⟩ := G.big; obtain ⟨oz', ez'⟩ := K0.live _ _ ez; have hlt := Heap.lt_size ez'; exact Nat.le_trans hz (Nat.le_trans hlt hP')))
      have K1 : Keep s₁.heap h' := Keep.table hx P1 htb.2 CG hgrP
      have K2 := K0.trans K1
      have hbo' : h'.get? bm = some ob := K2.obj _ _ hbo (NF.nt fun vs q => by rw [hdata] at q; cases q)
      have hg' : h'.Ns env.globals mg := by rw [hge0]; exact K2.ns G.g
      refine wpAny_bind (wpAny_builtinsFor hg' hbm hne0 hbo' hcls hdict hdata ?_)
      refine wpAny_bind (wpAny_nsGet hg' ?_)
      have fin : ∀ (dc : Value) (tk' : Nat), Q (.ref h'.objs.size) { s₁ with heap := h'.push (kdv_obj name qual params body scope clos dV dc ((mg "__name__").getD .none) c' ctv), toks := tk' } := fun dc tk' => by
        have z := h h'.objs.size c' ctv dc (h'.push (kdv_obj name qual params body scope clos dV dc ((mg "__name__").getD .none) c' ctv)) tk' (K2.trans (.push _ _)) (K2.gone (get_size h')) (Heap.get?_push_size _ rfl) (Keep.code (.push _ _) c' CG)
        have e : ({ s₁ with heap := h'.push (kdv_obj name qual params body scope clos dV dc ((mg "__name__").getD .none) c' ctv), toks := tk' } : Shared) = { s with heap := h'.push (kdv_obj name qual params body scope clos dV dc ((mg "__name__").getD .none) c' ctv), toks := tk' } := by
          cases s; cases s₁; simp only at hg hdr hos; subst hg hdr hos; rfl
        rw [e]; exact z
      rw [hge0]
      cases body with
      | expr e => exact wpAny_bind (wpAny_pure (wpAny_newObj_type (fin .none tk) (by size_fits)))
      | stmts b =>
        cases hdoc : docOf b with
        | none => exact wpAny_bind (by simp only [hdoc]; exact wpAny_pure (wpAny_newObj_type (fin .none tk) (by size_fits)))
        | some t => exact wpAny_bind (by simp only [hdoc]; exact wpAny_mkText (wpAny_newObj_type (fin _ _) (by size_fits)))
    unfold makeTail
    rw [hcl]
    refine wpAny_bind (wpAny_pure ?_)
    cases clos with
    | nil =>
      simp only [List.isEmpty_nil, if_true]
      refine wpAny_bind (wpAny_pure ?_)
      exact wpAny_bind (go s .none (fun _ _ e => e) rfl rfl rfl)
    | cons q r =>
      simp only [List.isEmpty_cons, Bool.false_eq_true, if_false]
      refine wpAny_bind (wpAny_newTextTuple ?_)
      exact wpAny_bind (go _ _ (fun b o e => Heap.get?_push_of_some _ e) rfl rfl rfl)

/-- a lambda without defaults -/
theorem lambda_G {e : Expr} (hdef : defaultsOf params env = ([], [])) (hcl : closureFor scope env = pure clos) (hge0 : env.globals = mainGlobals) (G : Gl mg mb s.heap) (hcode : env.code = .ref c) (C : CodeG s.heap c)
    (h : ∀ f c' ctv doc h' tk, Keep s.heap h' → s.heap.get? f = none → h'.get? f = some (kdv_obj "<lambda>" (env.qual ++ "<lambda>") params (.expr e) scope clos .none doc ((mg "__name__").getD .none) c' ctv) → CodeG h' c' →
      Q (.ref f) { s with heap := h', toks := tk }) :
    wpAny M A (eval (.Lambda params e scope pos) env) Q E s := by
  refine kla_eval hdef ?_
  rw [makeFunction_eq]
  simp only [List.zip_nil_right, List.filterMap_nil, List.isEmpty_nil, if_true, pure_bind]
  exact makeTail_G hcl hge0 G hcode C h
/-- a def with plain constants as defaults -/
theorem def_G {b : List Stmt} {Q : Flow → Shared → Prop} (hk0 : params.kw_defaults = []) (ha : annTrees params none env = []) (hcl : closureFor scope env = pure clos) (hge0 : env.globals = mainGlobals)
    (hdv : params.defaults.isEmpty = false)
    (h : wpAny M A (evalAll (evalEach params.defaults env)) (fun dv s₁ => ∃ (_ : dv.isEmpty = false) (_ : Gl mg mb s₁.heap) (c : Addr) (_ : env.code = .ref c) (_ : CodeG s₁.heap c),
      ∀ f d c' ctv doc h' tk, Keep s₁.heap h' → s₁.heap.get? f = none → s₁.heap.get? d = none → h'.get? d = some (kdv_tup dv) → h'.get? f = some (kdv_obj name (qualnameIn env name name) params (.stmts b) scope clos (.ref d) doc ((mg "__name__").getD .none) c' ctv) → CodeG h' c' →
      wpAny M A (storeName env name (.ref f)) (fun _ s'' => Q .next s'') E { s₁ with heap := h', toks := tk }) E s) :
    wpAny M A (exec (.FunctionDef name params b [] none [] scope none name pos) env) Q E s := by
  refine kdv_def hdv hk0 ha (wpAny_mono h (fun dv s₁ h₁ => ?_) fun _ _ x => x)
  obtain ⟨hne, G, c, hcode, C, h₁⟩ := h₁
  rw [makeFunction_eq]
  simp only [List.zip_nil_right, List.filterMap_nil, List.isEmpty_nil, if_true, pure_bind, hne, Bool.false_eq_true, if_false]
  refine wpAny_bind (wpAny_newTextTuple ?_)
  have K0 : Keep s₁.heap (s₁.heap.push (kdv_tup dv)) := .push _ _
  refine makeTail_G hcl hge0 (G.kept K0) hcode (K0.code _ C) fun f c' ctv doc h' tk k hf hf' hc' => ?_
  exact h₁ f s₁.heap.objs.size c' ctv doc h' tk (K0.trans k) (K0.gone hf) (get_size _) (k.obj _ _ (Heap.get?_push_size _ rfl) (NF.nt nofun)) hf' hc'
end
end Mine

end

section
open PySem PySem.W PySem.Calls PyProof.Rows
open PySem PySem.W PySem.Calls PyProof.Rows
namespace Mine
variable [Base]
set_option maxRecDepth 100000

/-- what a call hands back -/
def Ret (s₀ : Shared) (h : Heap) (P : Value → Heap → Prop) (f : Flow) (s' : Shared) : Prop :=
  ∃ h' t', s' = St s₀ h' t' ∧ Keep h h' ∧ P (match f with | .ret v => v | _ => .none) h'
theorem Ret.mk {s₀ : Shared} {h h' : Heap} {t : Nat} {P : Value → Heap → Prop} {v : Value} (k : Keep h h') (p : P v h') : Ret s₀ h P (.ret v) (St s₀ h' t) := ⟨h', t, rfl, k, p⟩

section
variable {prog : Program} {w : World} {A : Around} {R : Result → Shared → Prop} {s : Shared}

theorem callQ {a : Addr} {args : Args} {o : Obj} {fd : FuncData} {q : Str} (hroom : A.depth < recursionLimit) (ho : s.heap.get? a = some o)
    (hd' : o.data = .func fd) (hco : fd.scope.isCoroutine = false) (hgen : fd.scope.isGenerator = false) (hcd : s.heap.CodeRec fd.code q)
    (h : wpAny (model prog w) A.in1 (bindArgs fd args) (fun binds s₁ =>
      wpAny (model prog w) A.in1 (newFunctionEnv fd.scope fd.globals fd.closure binds (q ++ ".<locals>.") (some a) fd.code none fd.builtins)
        (fun env s₂ => s₂.heap.NoLimit ∧ codeAny (model prog w) A (match fd.body with | .stmts b => .func b env | .expr e => .expr e env) R s₂) (fun e s' => R (.error e) s') s₁) (fun e s' => R (.error e) s') s) :
    codeAny (model prog w) A (.call (.ref a) args) R s := by
  refine codeAny_of_tree ?_
  show wpAny _ A.in1 (callAny (.ref a) args) _ _ s
  simp only [callAny]
  refine wpAny_bind (wpAny_load ho ?_)
  obtain ⟨c, oc, vs, tq, hc, hoc, hdc, hq⟩ := hcd
  simp only [hd', callFunction, hco, hgen, hc]
  rw [hc] at h
  refine wpAny_bind (m := field (.ref c) 1) (wpAny_field hoc hdc hq (wpAny_bind (wpAny_pure ?_)))
  refine wpAny_bind (wpAny_mono h (fun binds s₁ h₁ => wpAny_bind (wpAny_mono h₁ (fun env s₂ h₂ => wpAny_bind (wpAny_enterFrame h₂.1 hroom ?_)) fun _ _ h' => h')) fun _ _ h' => h')
  have h₃ := h₂.2
  cases hb : fd.body with
  | stmts b => rw [hb] at h₃; exact wpAny_pure (And.intro rfl h₃)
  | expr e => rw [hb] at h₃; exact wpAny_pure (And.intro rfl h₃)
end

def BindAll (M : Model) (A : Around) (env : Env) (E : Value → Shared → Prop) (K : Shared → Prop) : List (Str × Value) → Shared → Prop
  | [], s => K s
  | (n, v) :: r, s => wpAny M A (storeName env n v) (fun _ s' => BindAll M A env E K r s') E s

abbrev cellObj (v : Option Value) : Obj := { cls := .type "cell", data := .cell v }
abbrev cellsU (l : List (Str × Addr)) : List (Addr × Obj) := l.map fun x => (x.2, cellObj none)

theorem cellsFrom_app : ∀ (names : List (Str × NameKind)) (n : Nat) (acc acc' : List (Str × Addr)), cellsFrom n names (acc ++ acc') = cellsFrom n names acc ++ acc'
  | [], _, _, _ => rfl
  | (x, k) :: r, n, acc, acc' => by
    unfold cellsFrom
    split
    · exact cellsFrom_app r (n + 1) ((x, n) :: acc) acc'
    · exact cellsFrom_app r n acc acc'

theorem Fn.cells {h₀ : Heap} {L : Addr} {m : Str → Option Value} {T : List (Addr × Obj)} {C : List Addr} : ∀ (names : List (Str × NameKind)) {acc : List (Str × Addr)} {h : Heap}, Fn h₀ L m (cellsU acc) T C h →
    Fn h₀ L m (cellsU (cellsFrom h.objs.size names acc)) T C (pushCells h names)
  | [], _, _, F => F
  | (x, k) :: r, acc, h, F => by
    unfold cellsFrom pushCells
    split
    · have z := Fn.cells r (acc := (x, h.objs.size) :: acc) (F.pushU (cellObj none) rfl nofun)
      rw [Heap.size_push] at z
      exact z
    · exact Fn.cells r F

theorem Fn.start (h : Heap) : Fn h h.objs.size (fun _ => none) [] [] [] (h.push { cls := .type "frame", data := .dict #[] }) where
  keep := .push _ _
  ns := Heap.Ns.new h (.type "frame")
  above := get_size h
  own := fun _ hp => nomatch hp
  know := fun _ hp => nomatch hp
  sep := fun _ hp => nomatch hp
  nodup := List.nodup_nil
  codes := fun _ hp => nomatch hp

theorem forIn_binds {M : Model} {A : Around} {E : Value → Shared → Prop} {env : Env} {Q : PUnit → Shared → Prop} (f : Str × Value → PUnit → Sem (ForInStep PUnit)) (hf : ∀ n v u, f (n, v) u = (do storeName env n v; pure (.yield ⟨⟩))) :
    ∀ (l : List (Str × Value)) (s : Shared), BindAll M A env E (fun s' => Q ⟨⟩ s') l s → wpAny M A (forIn l ⟨⟩ f) Q E s
  | [], s, h => by rw [List.forIn_nil]; exact wpAny_pure h
  | (n, v) :: r, s, h => by
    rw [List.forIn_cons, hf]
    refine wpAny_bind (wpAny_bind ?_)
    exact wpAny_mono h (fun _ s' z => wpAny_pure (forIn_binds f hf r s' z)) fun _ _ x => x

theorem newEnv_G {M : Model} {A : Around} {E : Value → Shared → Prop} {s : Shared} {scope : Scope} {closure : List (Str × Addr)} {binds : List (Str × Value)} {q : Str} {a : Addr} {code : Value} {Q : Env → Shared → Prop}
    (h : ∀ h₁, Fn s.heap s.heap.objs.size (fun _ => none) (cellsU (cellsFrom (s.heap.objs.size + 1) scope.names [])) [] [] h₁ →
      BindAll M A (envX q scope s.heap.objs.size a code (cellsFrom (s.heap.objs.size + 1) scope.names [] ++ closure)) E (fun s' => Q (envX q scope s.heap.objs.size a code (cellsFrom (s.heap.objs.size + 1) scope.names [] ++ closure)) s') binds { s with heap := h₁ }) :
    wpAny M A (newFunctionEnv scope mainGlobals closure binds (q ++ ".<locals>.") (some a) code none builtinsNs) Q E s := by
  simp only [newFunctionEnv, Option.isSome_none, Bool.false_eq_true, if_false]
  refine wpAny_bind (wpAny_alloc ?_)
  refine wpAny_bind (wpAny_layCells _ (fun name kind cells => by cases hkc : kind == NameKind.cell <;> simp [hkc]) _ _ _ _ ?_)
  have F := Fn.cells scope.names (acc := []) (Fn.start s.heap)
  rw [Heap.size_push] at F
  rw [show ({ s with heap := s.heap.push { cls := .type "frame", data := .dict #[] } } : Shared).heap.objs.size = s.heap.objs.size + 1 from Heap.size_push ..]
  have e := cellsFrom_app scope.names (s.heap.objs.size + 1) [] closure
  rw [List.nil_append] at e
  rw [e]
  refine wpAny_bind (forIn_binds (env := envX q scope s.heap.objs.size a code (cellsFrom (s.heap.objs.size + 1) scope.names [] ++ closure)) _ (fun _ _ _ => rfl) binds _ ?_)
  have z := h _ F
  have mono : ∀ (K K' : Shared → Prop) (l : List (Str × Value)) (s' : Shared), (∀ s, K s → K' s) → BindAll M A (envX q scope s.heap.objs.size a code (cellsFrom (s.heap.objs.size + 1) scope.names [] ++ closure)) E K l s' → BindAll M A (envX q scope s.heap.objs.size a code (cellsFrom (s.heap.objs.size + 1) scope.names [] ++ closure)) E K' l s' := by
    intro K K' l
    induction l with
    | nil => intro s' k x; exact k s' x
    | cons y r ih => intro s' k x; exact wpAny_mono x (fun _ s'' z => ih s'' k z) fun _ _ x => x
  exact mono _ _ binds _ (fun s' z => wpAny_pure z) z

/-- entering a def or a lambda: the parameters are still to be bound -/
theorem Calls.enter {prog : Program} {w : World} {d : Nat} {a : Addr} {args : Args} {h : Heap} {P : Value → Heap → Prop} {o : Obj} {fd : FuncData} {binds : List (Str × Value)}
    (ho : h.get? a = some o) (hd : o.data = .func fd) (hc : ∃ q, h.CodeRec fd.code q) (lim : h.NoLimit) (hb : ∀ s₀ t, BindsTo (St s₀ h t) fd args binds)
    (run : ∀ (A : Around) (s₀ : Shared) (t : Nat) (q : Str) (L : Addr) (h₁ : Heap), Room A d → Fn h L (fun _ => none) (cellsU (cellsFrom (L + 1) fd.scope.names [])) [] [] h₁ →
      BindAll (model prog w) A (envX q fd.scope L a fd.code (cellsFrom (L + 1) fd.scope.names [] ++ fd.closure)) NoE (fun s' => ∃ h₂ t₂, s' = St s₀ h₂ t₂ ∧ Keep h h₂ ∧
        ∀ A, Room A d → match fd.body with
          | .stmts b => wpAny (model prog w) A (execs b (envX q fd.scope L a fd.code (cellsFrom (L + 1) fd.scope.names [] ++ fd.closure))) (Ret s₀ h P) NoE s'
          | .expr e => wpAny (model prog w) A (eval e (envX q fd.scope L a fd.code (cellsFrom (L + 1) fd.scope.names [] ++ fd.closure))) (fun v => Ret s₀ h P (.ret v)) NoE s') binds (St s₀ h₁ t))
    (hg : fd.globals = mainGlobals := by rfl) (hbn : fd.builtins = builtinsNs := by rfl) (hco : fd.scope.isCoroutine = false := by rfl) (hgen : fd.scope.isGenerator = false := by rfl) :
    Calls prog w (d + 1) (.ref a) args h P := by
  intro A s₀ t R hr z
  obtain ⟨q, hq⟩ := hc
  have hroom : A.depth < recursionLimit := by have := hr.depth; omega
  have hr1 : Room A.in1 d := ⟨hr.handled, by show A.depth + d < _; have := hr.depth; omega, by show A.units + 1 + 10 * d < _; have := hr.units; omega⟩
  have hr2 : ∀ env, Room (A.deeper env) d := fun env => ⟨hr.handled, by show A.depth + 1 + d < _; have := hr.depth; omega, by show A.units + 3 + 10 * d < _; have := hr.units; omega⟩
  refine callQ hroom ho hd hco hgen hq (hb s₀ t _ _ _ _ ?_)
  rw [hg, hbn]
  refine newEnv_G fun h₁ F => ?_
  have y := run A.in1 s₀ t q _ h₁ hr1 F
  have mono : ∀ (K K' : Shared → Prop) (env : Env) (E' : Value → Shared → Prop) (l : List (Str × Value)) (s' : Shared), (∀ s, K s → K' s) → BindAll (model prog w) A.in1 env NoE K l s' → BindAll (model prog w) A.in1 env E' K' l s' := by
    intro K K' env E' l
    induction l with
    | nil => intro s' k x; exact k s' x
    | cons y r ih => intro s' k x; exact wpAny_mono x (fun _ s'' z => ih s'' k z) fun _ _ x => x.elim
  refine mono _ _ _ _ binds _ (fun s' z' => ?_) y
  obtain ⟨h₂, t₂, rfl, k₂, z'⟩ := z'
  refine ⟨k₂.lim lim, ?_⟩
  cases hbd : fd.body with
  | stmts b =>
    have z'' := z' (A.deeper (envX q fd.scope h.objs.size a fd.code (cellsFrom (h.objs.size + 1) fd.scope.names [] ++ fd.closure))) (hr2 _)
    rw [hbd] at z''
    refine codeAny_func (wpAny_mono z'' (fun f s' x => ?_) fun _ _ x => x.elim)
    obtain ⟨h', t', rfl, k, p⟩ := x
    exact z _ h' t' k p
  | expr e =>
    have z'' := z' (A.deeper (envX q fd.scope h.objs.size a fd.code (cellsFrom (h.objs.size + 1) fd.scope.names [] ++ fd.closure))) (hr2 _)
    rw [hbd] at z''
    refine kla_codeExpr (wpAny_mono z'' (fun f s' x => ?_) fun _ _ x => x.elim)
    obtain ⟨h', t', rfl, k, p⟩ := x
    exact z _ h' t' k p
end Mine

end

section
open PySem PySem.W PySem.Calls PyProof.Rows
open PySem PySem.W PySem.Calls PyProof.Rows
namespace Mine
variable [Base]
set_option maxRecDepth 100000

section
variable {M : Model} {A : Around} {E : Value → Shared → Prop} {s : Shared} {h₀ : Heap} {L a : Addr} {m : Str → Option Value} {U T : List (Addr × Obj)} {C : List Addr} {q : Str} {sc : Scope} {cd : Value} {cl : List (Str × Addr)}
  {x : Str} {pos : Pos} {v : Value} {Q : Value → Shared → Prop} {mg mb : Str → Option Value}
theorem ldL (F : Fn h₀ L m U T C s.heap) (hv : m x = some v) (h : Q v s)
    (hk : sc.kind = .function := by rfl) (hx : (envX q sc L a cd cl).kindOf x = some .local := by rfl) (hd : (x == ("__debug__" : Str)) = false := by decide) :
    wpAny M A (eval (.Name x pos) (envX q sc L a cd cl)) Q E s := wpAny_Name (wpAny_loadName_local hk hx F.ns hv h) hd
theorem ldnL (F : Fn h₀ L m U T C s.heap) (hv : m x = some v) (h : Q v s)
    (hk : sc.kind = .function := by rfl) (hx : (envX q sc L a cd cl).kindOf x = some .local := by rfl) :
    wpAny M A (loadName (envX q sc L a cd cl) x) Q E s := wpAny_loadName_local hk hx F.ns hv h
theorem ldG (F : Fn h₀ L m U T C s.heap) (G : Gl mg mb h₀) (hv : mg x = some v) (h : Q v s)
    (hk : sc.kind = .function := by rfl) (hx : (envX q sc L a cd cl).kindOf x = some .globalImplicit := by rfl) (hd : (x == ("__debug__" : Str)) = false := by decide) :
    wpAny M A (eval (.Name x pos) (envX q sc L a cd cl)) Q E s := Name_function_global hk hx (loadGlobal_global (env := envX q sc L a cd cl) (G.kept F.keep).g hv h) hd
theorem ldB (F : Fn h₀ L m U T C s.heap) (G : Gl mg mb h₀) (hn : mg x = none) (hv : mb x = some v) (h : Q v s)
    (hk : sc.kind = .function := by rfl) (hx : (envX q sc L a cd cl).kindOf x = some .globalImplicit := by rfl) (hd : (x == ("__debug__" : Str)) = false := by decide) :
    wpAny M A (eval (.Name x pos) (envX q sc L a cd cl)) Q E s := Name_function_global hk hx (loadGlobal_builtin (env := envX q sc L a cd cl) (G.kept F.keep).g hn (G.kept F.keep).b hv h) hd
theorem ldC {c : Addr} {o : Obj} (hc : cl.lookup x = some c) (ho : s.heap.get? c = some o) (hd : o.data = .cell (some v)) (h : Q v s)
    (hk : sc.kind = .function := by rfl) (hx : (envX q sc L a cd cl).kindOf x = some .cell := by rfl) (hb : (x == ("__debug__" : Str)) = false := by decide) :
    wpAny M A (eval (.Name x pos) (envX q sc L a cd cl)) Q E s := wpAny_Name (wpAny_loadName_cell hk hx hc ⟨o, ho, hd⟩ h) hb
theorem ldF {c : Addr} {o : Obj} (hc : cl.lookup x = some c) (ho : s.heap.get? c = some o) (hd : o.data = .cell (some v)) (h : Q v s)
    (hk : sc.kind = .function := by rfl) (hx : (envX q sc L a cd cl).kindOf x = some .free := by rfl) (hb : (x == ("__debug__" : Str)) = false := by decide) (hn : (x == ("__classdict__" : Str)) = false := by decide) :
    wpAny M A (eval (.Name x pos) (envX q sc L a cd cl)) Q E s := wpAny_Name (wpAny_loadName_free hk hx hc ⟨o, ho, hd⟩ h hn) hb
end
section
variable {M : Model} {A : Around} {E : Value → Shared → Prop} {hp : Heap} {g : Array GenState} {dr : Drawn} {tk : Nat} {os : OsState} {h₀ : Heap} {L a : Addr} {m : Str → Option Value} {U T : List (Addr × Obj)} {C : List Addr} {q : Str} {sc : Scope} {cd : Value} {cl : List (Str × Addr)}
  {x : Str} {v : Value} {Q : Unit → Shared → Prop}
theorem stL (F : Fn h₀ L m U T C hp) (h : ∀ h' t, Fn h₀ L (fun y => if y = x then some v else m y) U T C h' → Q () ⟨h', g, dr, t, os⟩)
    (hk : sc.kind = .function := by rfl) (hx : (envX q sc L a cd cl).kindOf x = some .local := by rfl) : wpAny M A (storeName (envX q sc L a cd cl) x v) Q E ⟨hp, g, dr, tk, os⟩ :=
  wpAny_storeName_local (s := ⟨hp, g, dr, tk, os⟩) hx F.ns (fun h' hn hs => h h' _ (F.set hn hs)) (by show (sc.kind == .class || (sc.kind == .module && L != mainGlobals)) = false; rw [hk]; rfl)
theorem stC {c : Addr} {o : Obj} {v₀ : Option Value} (F : Fn h₀ L m ((c, o) :: U) T C hp) (hc : cl.lookup x = some c) (hd : o.data = .cell v₀)
    (h : ∀ h' o', o'.data = .cell (some v) → Fn h₀ L m ((c, o') :: U) T C h' → Q () ⟨h', g, dr, tk, os⟩)
    (hk : sc.kind = .function := by rfl) (hx : (envX q sc L a cd cl).kindOf x = some .cell := by rfl) : wpAny M A (storeName (envX q sc L a cd cl) x v) Q E ⟨hp, g, dr, tk, os⟩ := by
  refine wpAny_storeName_cell (s := ⟨hp, g, dr, tk, os⟩) hk hx hc ⟨o, F.getU (.head _), hd⟩ fun h' hv hs => ?_
  obtain ⟨o', ho', hd'⟩ := hv
  exact h h' o' hd' (F.upd hs ho' fun vs e => by rw [hd'] at e; cases e)
end

/-! ### calls -/
section
variable {prog : Program} {w : World} {A : Around} {E : Value → Shared → Prop} {hp : Heap} {g : Array GenState} {dr : Drawn} {tk : Nat} {os : OsState} {Q : Value → Shared → Prop}
theorem callG {d : Nat} {f : Value} {pos : List Value} {kw : List (Str × Value)} {P : Value → Heap → Prop} (X : Mine.Calls prog w d f ⟨pos, kw⟩ hp P) (hr : Room A d)
    (k : ∀ v h' t', Keep hp h' → P v h' → Q v ⟨h', g, dr, t', os⟩) : wpAny (model prog w) A (call f pos kw) Q E ⟨hp, g, dr, tk, os⟩ :=
  wpAny_call (X A ⟨hp, g, dr, tk, os⟩ tk _ hr fun v h' t' kk p => k v h' t' kk p)
end

def FD (p : Program) (i : Nat) : Arguments × List Stmt × Scope := match p.main.body[i]? with
  | some (.FunctionDef _ a b _ _ _ sc _ _ _) => (a, b, sc)
  | _ => (⟨[], [], none, [], [], none, []⟩, [], { kind := .function, names := [], isGenerator := false, isCoroutine := false })

/-- a code object that a def may be entered by -/
def CodeP (h : Heap) (c : Addr) : Prop := ∃ o vs q t, h.get? c = some o ∧ NT o ∧ o.data = .fields vs ∧ vs[1]? = some (.str q t)
theorem CodeP.rec' {h : Heap} {c : Addr} (x : CodeP h c) : ∃ q, h.CodeRec (.ref c) q := let ⟨o, vs, q, t, e, _, d, r⟩ := x; ⟨q, c, o, vs, t, rfl, e, d, r⟩
theorem CodeP.kept {h h' : Heap} {c : Addr} (x : CodeP h c) (k : Keep h h') : CodeP h' c := let ⟨o, vs, q, t, e, n, r⟩ := x; ⟨o, vs, q, t, k.obj _ _ e n, n, r⟩

/-- the def number i of the text stands at a -/
def IsDef (p : Program) (i : Nat) (h : Heap) (a : Addr) (dV kV : Value) (c : Addr) : Prop :=
  ∃ name qual doc pm an ct oc od osl, h.get? a = some ⟨oc, od, .func (fnX name qual (FD p i).1 (FD p i).2.1 (FD p i).2.2 [] dV kV doc pm an (.ref c) ct), osl⟩
theorem IsDef.kept {p : Program} {i : Nat} {h h' : Heap} {a : Addr} {dV kV : Value} {c : Addr} (x : IsDef p i h a dV kV c) (k : Keep h h') : IsDef p i h' a dV kV c :=
  let ⟨name, qual, doc, pm, an, ct, oc, od, osl, e⟩ := x; ⟨name, qual, doc, pm, an, ct, oc, od, osl, k.obj _ _ e (NF.nt nofun)⟩

/-- a def whose parameters are all plain locals -/
theorem IsDef.calls {prog p : Program} {w : World} {i : Nat} {h : Heap} {a : Addr} {dV kV : Value} {c : Addr} {args : Args} {binds : List (Str × Value)} {d : Nat} {P : Value → Heap → Prop}
    (x : IsDef p i h a dV kV c) (hc : ∃ q, h.CodeRec (.ref c) q) (lim : h.NoLimit)
    (hb : ∀ name qual doc pm an ct s₀ t, BindsTo (St s₀ h t) (fnX name qual (FD p i).1 (FD p i).2.1 (FD p i).2.2 [] dV kV doc pm an (.ref c) ct) args binds)
    (hcells : cellsFrom 0 (FD p i).2.2.names [] = []) (hl : ∀ b ∈ binds, (FD p i).2.2.names.lookup b.1 = some .local)
    (run : ∀ (A : Around) (s₀ : Shared) (t : Nat) (q : Str) (L : Addr) (h₁ : Heap), Room A d → Fn h L (fun y => binds.reverse.lookup y) [] [] [] h₁ →
      wpAny (model prog w) A (execs (FD p i).2.1 (envX q (FD p i).2.2 L a (.ref c) [])) (Ret s₀ h P) NoE (St s₀ h₁ t))
    (hk : (FD p i).2.2.kind = .function := by rfl) (hco : (FD p i).2.2.isCoroutine = false := by rfl) (hgen : (FD p i).2.2.isGenerator = false := by rfl) :
    Mine.Calls prog w (d + 1) (.ref a) args h P := by
  obtain ⟨name, qual, doc, pm, an, ct, oc, od, osl, e⟩ := x
  refine Calls.enter e rfl hc lim (hb name qual doc pm an ct) ?_ rfl rfl hco hgen
  intro A s₀ t q L h₁ hr F
  have nocell : ∀ (names : List (Str × NameKind)) (n n' : Nat) (acc : List (Str × Addr)), cellsFrom n names [] = [] → cellsFrom n' names [] = [] := by
    intro names
    have len : ∀ (names : List (Str × NameKind)) (n n' : Nat) (acc acc' : List (Str × Addr)), acc.length = acc'.length → (cellsFrom n names acc).length = (cellsFrom n' names acc').length := by
      intro names
      induction names with
      | nil => intro n n' acc acc' e; exact e
      | cons x r ih =>
        intro n n' acc acc' e
        unfold cellsFrom
        split
        · exact ih _ _ _ _ (by simp [e])
        · exact ih _ _ _ _ e
    intro n n' _ e
    have := len names n n' [] [] rfl
    rw [e] at this
    exact List.length_eq_zero_iff.mp this.symm
  have e0 : cellsFrom (L + 1) (FD p i).2.2.names [] = [] := nocell _ 0 _ [] hcells
  simp only [e0, List.nil_append] at F ⊢
  have go : ∀ (r done : List (Str × Value)) (t : Nat) (h₂ : Heap), (∀ b ∈ r, (FD p i).2.2.names.lookup b.1 = some .local) → binds = done ++ r → Fn h L (fun y => done.reverse.lookup y) [] [] [] h₂ →
      BindAll (model prog w) A (envX q (FD p i).2.2 L a (.ref c) []) NoE (fun s' => ∃ h₂ t₂, s' = St s₀ h₂ t₂ ∧ Keep h h₂ ∧ ∀ A, Room A d → wpAny (model prog w) A (execs (FD p i).2.1 (envX q (FD p i).2.2 L a (.ref c) [])) (Ret s₀ h P) NoE s') r (St s₀ h₂ t) := by
    intro r
    induction r with
    | nil =>
      intro done t h₂ _ hb F
      rw [List.append_nil] at hb
      subst hb
      exact ⟨h₂, t, rfl, F.keep, fun A hr => run A s₀ t q L h₂ hr F⟩
    | cons y r ih =>
      obtain ⟨n, v⟩ := y
      intro done t h₂ hl hb F
      refine stL (hp := h₂) F (fun h' t' F' => ?_) hk (hl (n, v) (.head _))
      refine ih (done ++ [(n, v)]) t' h' (fun b hb => hl b (.tail _ hb)) (by rw [hb]; simp) ?_
      have e : (fun y => (done ++ [(n, v)]).reverse.lookup y) = fun y => if y = n then some v else done.reverse.lookup y := by
        funext y
        rw [List.reverse_append, List.reverse_singleton, List.singleton_append, List.lookup_cons]
        by_cases hy : y = n
        · subst hy; simp
        · have : (y == n) = false := by simpa using hy
          simp [this, hy]
      rw [e]; exact F'
  exact go binds [] t h₁ hl rfl F
end Mine

end

section
open PySem PySem.W PySem.Calls PyProof.Rows
open PySem PySem.W PySem.Calls PyProof.Rows
namespace Mine
variable [Base]
set_option maxRecDepth 100000

theorem notedBy_false {M : Model} {A : Around} {env : Env} {E : Value → Shared → Prop} {e : Value} {s : Shared} (h : False) : notedBy M A env E e s := h.elim

section
variable {prog : Program} {w : World} {A : Around} {E : Value → Shared → Prop} {s : Shared}
/-- a while by an invariant and a measure -/
theorem while_G {test : Expr} {body : List Stmt} {env : Env} {pos : Pos} {Q : Flow → Shared → Prop} (I : Nat → Shared → Prop) (n : Nat) (h : I n s)
    (turn : ∀ n s, I n s → wpAny (model prog w) A (isTrue test env (eval test env)) (fun b s₂ =>
      if b = true then wpAny (model prog w) A (execs body env) (fun f s₃ => match f with
            | .next | .cont => ∃ m, m < n ∧ I m s₃
            | .brk => Q .next s₃
            | .ret v => Q (.ret v) s₃) NoE s₂
      else Q .next s₂) NoE s) :
    wpAny (model prog w) A (exec (.While test body [] pos) env) Q E s := by
  refine wpAny_While (codeAny_whileLoop I (fun n s hI => ?_) n h)
  refine wpAny_mono (turn n s hI) (fun b s₂ h₂ => ?_) fun _ _ x => x.elim
  cases b with
  | false => exact wpAny_execs_nil h₂
  | true =>
    refine wpAny_mono h₂ (fun f s₃ h₃ => ?_) fun _ _ x => x.elim
    cases f <;> exact h₃

/-- a for over an iterator that walks n items -/
theorem forLoop_G {body : List Stmt} {env : Env} {I : Addr} {fp : List Addr} {n : Nat} {P : Nat → Value → Prop} {St' : Nat → Heap → Prop} {h₀ : Heap} {L : Addr} {m : Str → Option Value} {U T : List (Addr × Obj)} {C : List Addr}
    {R : Result → Shared → Prop} {o : Obj} (target : Expr) (hlet : ∀ i v s Q, St' i s.heap → Q () s → wpAny (model prog w) A (letOwnedTupleGo target (.ref I) v) Q NoE s)
    (W : Walks prog w A I fp [I] n P St') (hobj : ∀ i h, St' i h → ∃ o, h.get? I = some o ∧ NT o ∧ o.cls ≠ .type "code") (hfp : ∀ b ∈ fp, b = I ∨ ∃ o, (b, o) ∈ T)
    (hI : h₀.get? I = none) (hT : ∀ p ∈ T, p.1 ≠ I) (st : St' 0 s.heap) (F : Fn h₀ L m U ((I, o) :: T) C s.heap)
    (J : Nat → (Str → Option Value) → List (Addr × Obj) → Prop) (h0 : J 0 m U)
    (turn : ∀ i v m U h o t, i < n → P i v → J i m U → Fn h₀ L m U ((I, o) :: T) C h →
      wpAny (model prog w) A (assign target env v) (fun _ s₂ => wpAny (model prog w) A (execs body env) (fun f s₃ => match f with
            | .next | .cont => ∃ m' U' h' t', s₃ = { s with heap := h', toks := t' } ∧ Fn h₀ L m' U' ((I, o) :: T) C h' ∧ J (i + 1) m' U'
            | .brk => R (.ok .next) s₃
            | .ret v => R (.ok (.ret v)) s₃) NoE s₂) NoE { s with heap := h, toks := t })
    (done : ∀ m U h t, J n m U → Fn h₀ L m U T C h → R (.ok .next) { s with heap := h, toks := t }) :
    codeAny (model prog w) A (.forLoop target (.ref I) body [] env) R s := by
  refine codeAny_forLoop_any (fun k s' => ∃ h t m U o i, s' = { s with heap := h, toks := t } ∧ St' i h ∧ Fn h₀ L m U ((I, o) :: T) C h ∧ J i m U ∧ i ≤ n ∧ k = n + 1 - i) ?_ (n + 1)
    ⟨s.heap, s.toks, m, U, o, 0, rfl, st, F, h0, Nat.zero_le _, rfl⟩
  rintro k s' ⟨h, t, m, U, o, i, rfl, st, F, hJ, hi, rfl⟩
  obtain ⟨o₁, e₁, n₁, c₁⟩ := hobj _ _ st
  have eo : o₁ = o := Option.some.inj (e₁.symm.trans (F.get (.head _)))
  subst eo
  by_cases hlt : i < n
  · refine W.item i _ _ _ hlt st fun v h' t' hP st' hk => ?_
    obtain ⟨o₂, e₂, n₂, c₂⟩ := hobj _ _ st'
    have hx : Heap.ExtBut I h h' := fun b ob hb e => hk b ob (fun q => hb (List.mem_singleton.mp q)) e
    have F' := (F.other hI c₁ hx hT).addT e₂ n₂ (F.know _ (.head _)).2.2 (fun p hp => F.sep p hp _ (.head _))
    refine wpAny_mono (hlet _ v _ (fun _ s' => s' = { s with heap := h', toks := t' }) st' rfl) (fun _ s₁ e => ?_) fun _ _ x => x.elim
    subst e
    refine wpAny_mono (turn i v m U h' o₂ t' hlt hP hJ F') (fun _ s₂ h₂ => wpAny_mono h₂ (fun f s₃ h₃ => ?_) fun _ _ x => x.elim) fun _ _ x => x.elim
    have nxt : (∃ m' U' h'' t'', s₃ = { s with heap := h'', toks := t'' } ∧ Fn h₀ L m' U' ((I, o₂) :: T) C h'' ∧ J (i + 1) m' U') → ∃ k, k < n + 1 - i ∧ ∃ h t m U o j, s₃ = { s with heap := h, toks := t } ∧ St' j h ∧ Fn h₀ L m U ((I, o) :: T) C h ∧ J j m U ∧ j ≤ n ∧ k = n + 1 - j := by
      rintro ⟨m', U', h'', t'', rfl, F'', hJ'⟩
      refine ⟨n + 1 - (i + 1), by omega, h'', t'', m', U', o₂, i + 1, rfl, ?_, F'', hJ', hlt, rfl⟩
      refine W.frame _ _ _ st' fun b hb ob e => ?_
      rcases hfp b hb with rfl | ⟨ob', hm⟩
      · rw [e₂] at e; cases e; exact F''.get (.head _)
      · have z := F'.get (.tail _ hm)
        rw [e] at z; cases z
        exact F''.get (.tail _ hm)
    cases f with
    | next => exact nxt h₃
    | cont => exact nxt h₃
    | brk => exact h₃
    | ret v => exact h₃
  · have hin : i = n := by omega
    subst hin
    refine W.done _ _ _ st fun h' t' hk => wpAny_execs_nil ?_
    have hx : Heap.ExtBut I h h' := fun b ob hb e => hk b ob (fun q => hb (List.mem_singleton.mp q)) e
    exact done m U h' t' hJ (F.other hI c₁ hx hT)
end
end Mine

end

section
open PySem PySem.W PySem.Calls PyProof.Rows
open PySem PySem.W PySem.Calls PyProof.Rows
namespace Mine
variable [Base]
set_option maxRecDepth 100000

section
variable {prog : Program} {w : World} {A : Around} {E : Value → Shared → Prop} {s : Shared} {h₀ : Heap} {L fa : Addr} {m : Str → Option Value} {U T : List (Addr × Obj)} {C : List Addr} {q : Str} {sc : Scope} {cd : Value} {cl : List (Str × Addr)}
  {x : Str} {px : Pos} {body : List Stmt} {Q : Flow → Shared → Prop}

/-- what a turn of a loop must end in -/
def TurnPost (s : Shared) (h₀ : Heap) (L : Addr) (T : List (Addr × Obj)) (C : List Addr) (J : (Str → Option Value) → List (Addr × Obj) → Prop) (Q : Flow → Shared → Prop) (f : Flow) (s₃ : Shared) : Prop :=
  match f with
  | .next | .cont => ∃ m' U' h' t', s₃ = { s with heap := h', toks := t' } ∧ Fn h₀ L m' U' T C h' ∧ J m' U'
  | .brk => Q .next s₃
  | .ret v => Q (.ret v) s₃
theorem TurnPost.next {J : (Str → Option Value) → List (Addr × Obj) → Prop} {h : Heap} {t : Nat} (F : Fn h₀ L m U T C h) (hJ : J m U) : TurnPost s h₀ L T C J Q .next { s with heap := h, toks := t } := ⟨m, U, h, t, rfl, F, hJ⟩

theorem iter_range {R : Addr} {a b : Int} {t u v : Tok} (F : Fn h₀ L m U T C s.heap) (hh : A.handled = none) (hR : IsRange s.heap R a b 1 t u v) (ha : -(2 ^ 62) ≤ a) (ha' : a < 2 ^ 62) (hb : -(2 ^ 62) ≤ b) (hb' : b < 2 ^ 62)
    (J : Nat → (Str → Option Value) → List (Addr × Obj) → Prop) (h0 : J 0 m U)
    (turn : ∀ (i : Nat) t m U h I o tk, a + (i : Int) < b → J i m U → Fn h₀ L (fun y => if y = x then some (.int (a + i) t) else m y) U ((I, o) :: T) C h →
      wpAny (model prog w) A (execs body (envX q sc L fa cd cl)) (TurnPost s h₀ L ((I, o) :: T) C (J (i + 1)) Q) NoE { s with heap := h, toks := tk })
    (done : ∀ m U h t, J (b - a).toNat m U → Fn h₀ L m U T C h → Q .next { s with heap := h, toks := t })
    (hk : sc.kind = .function := by rfl) (hx : (envX q sc L fa cd cl).kindOf x = some .local := by rfl) :
    wpAny (model prog w) A (pyIter (.ref R)) (fun it s₂ => codeAny (model prog w) A (.forLoop (.Name x px) it body [] (envX q sc L fa cd cl)) (fun r s' => match r with | .ok f => Q f s' | .error e => cameBackBy (model prog w) A (envX q sc L fa cd cl) E e s') s₂) E s := by
  refine wpAny_pyIter_range hR (small_one ha ha' hb hb') ?_
  have hsz : Builtin.Range.rangeSize a b 1 = ((b - a).toNat : Int) := by rw [rangeSize_one]; split <;> omega
  rw [hsz]
  have W := Walks.range (prog := prog) (w := w) hh s.heap.objs.size a 1 (b - a).toNat
  have F' := F.pushT { cls := .type "range_iterator", dict := none, data := .fields #[rawInt a, rawInt ((b - a).toNat : Int), rawInt 1], slots := #[] } rfl (fun ps e => by cases e)
  have hg : ∀ b o, s.heap.get? b = some o → b ≠ s.heap.objs.size := fun b o e => ne_of_get e (get_size _)
  refine forLoop_G (s := { s with heap := _ }) (T := T) (fp := [s.heap.objs.size]) (.Name x px) (fun i v s Q _ hq => wpAny_pure hq) W (fun i h st => ⟨_, st, fun ps e => (by cases e), by simp⟩) (fun b hb => .inl (List.mem_singleton.mp hb)) (F.keep.gone (get_size _)) (fun p hp => hg _ _ (F.know p hp).1) ?_ F' J h0 ?_ ?_
  · have e1 : (a + ((0 : Nat) : Int) * 1) = a := by simp
    have e2 : (((b - a).toNat : Int) - ((0 : Nat) : Int)) = ((b - a).toNat : Int) := by simp
    rw [e1, e2]
    exact Heap.get?_push_size _ rfl
  · rintro i v m U h o tk hi ⟨t, rfl⟩ hJ F
    refine wpAny_assign_Name (stL F (fun h' t' F' => ?_) hk hx)
    have e : a + (i : Int) * 1 = a + i := by omega
    rw [e] at F'
    refine wpAny_mono (turn i t m U h' _ o t' (by omega) hJ F') (fun f s₃ h₃ => ?_) fun _ _ x => x
    cases f <;> exact h₃
  · intro m U h t hJ F
    exact done m U h t hJ F

theorem iter_list {l : Addr} {vs : List Value} {n : Nat} (target : Expr) (F : Fn h₀ L m U T C s.heap) (hh : A.handled = none) (hl : (l, listOf vs.toArray n) ∈ T)
    (J : Nat → (Str → Option Value) → List (Addr × Obj) → Prop) (h0 : J 0 m U)
    (turn : ∀ (i : Nat) v m U h I o tk, vs[i]? = some v → J i m U → Fn h₀ L m U ((I, o) :: T) C h →
      wpAny (model prog w) A (assign target (envX q sc L fa cd cl) v) (fun _ s₂ => wpAny (model prog w) A (execs body (envX q sc L fa cd cl)) (TurnPost s h₀ L ((I, o) :: T) C (J (i + 1)) Q) NoE s₂) NoE { s with heap := h, toks := tk })
    (done : ∀ m U h t, J vs.length m U → Fn h₀ L m U T C h → Q .next { s with heap := h, toks := t }) :
    wpAny (model prog w) A (pyIter (.ref l)) (fun it s₂ => codeAny (model prog w) A (.forLoop target it body [] (envX q sc L fa cd cl)) (fun r s' => match r with | .ok f => Q f s' | .error e => cameBackBy (model prog w) A (envX q sc L fa cd cl) E e s') s₂) E s := by
  have hls : s.heap.IsList l vs.toArray := ⟨_, F.get hl, rfl, n, rfl⟩
  refine wpAny_pyIter_list hls ?_
  have hg : ∀ b o, s.heap.get? b = some o → b ≠ s.heap.objs.size := fun b o e => ne_of_get e (get_size _)
  have W := Walks.list (prog := prog) (w := w) hh s.heap.objs.size l (hg _ _ (F.get hl)) vs.toArray
  have F' := F.pushT { cls := .type "list_iterator", data := .fields #[.ref l, .int 0 0] } rfl (fun ps e => by cases e)
  refine forLoop_G (s := { s with heap := _ }) (T := T) (fp := [s.heap.objs.size, l]) target (fun i v s Q st hq => ?_) W (fun i h st => ?_) (fun b hb => ?_) (F.keep.gone (get_size _)) (fun p hp => hg _ _ (F.know p hp).1)
    ⟨⟨_, Heap.get?_push_size _ rfl, rfl, rfl⟩, ⟨_, Heap.get?_push_of_some _ (F.get hl), rfl, n, rfl⟩⟩ F' J h0 ?_ ?_
  · obtain ⟨⟨o, ho, hc, hd⟩, _⟩ := st
    unfold letOwnedTupleGo
    split
    · cases v with
      | ref a =>
        refine wpAny_bind (wpAny_load ho ?_)
        rw [hc, hd]
        exact wpAny_pure hq
      | _ => exact wpAny_pure hq
    · cases v with
      | ref a =>
        refine wpAny_bind (wpAny_load ho ?_)
        rw [hc, hd]
        exact wpAny_pure hq
      | _ => exact wpAny_pure hq
    · exact wpAny_pure hq
  · obtain ⟨⟨o, ho, hc, hd⟩, _⟩ := st
    exact ⟨o, ho, (fun ps e => by rw [e] at hc; cases hc), by rw [hc]; simp⟩
  · rcases List.mem_cons.mp hb with e | hb
    · exact .inl e
    · rw [List.mem_singleton.mp hb]; exact .inr ⟨_, hl⟩
  · intro i v m U h o tk hi hP hJ F
    refine wpAny_mono (turn i v m U h _ o tk (by simpa using hP) hJ F) (fun _ s₂ h₂ => wpAny_mono h₂ (fun f s₃ h₃ => ?_) fun _ _ x => x) fun _ _ x => x
    cases f <;> exact h₃
  · intro m U h t hJ F
    rw [show vs.toArray.size = vs.length from List.size_toArray ..] at hJ
    exact done m U h t hJ F
end
end Mine

end

section
open PySem PySem.W PySem.Calls PyProof.Rows
open PySem PySem.W PySem.Calls PyProof.Rows
namespace Mine
variable [Base]
set_option maxRecDepth 100000

section
variable {prog : Program} {w : World} {A : Around} {E : Value → Shared → Prop} {s : Shared} {Q : Value → Shared → Prop}

theorem ints_at {vs : List Value} {xs : List Int} (hi : IntsAre vs xs) {j : Nat} (h : j < xs.length) : ∃ t, vs[j]? = some (.int (xs.getD j 0) t) := by
  obtain ⟨t, e⟩ := hi.get j xs[j] (by simp [h])
  refine ⟨t, ?_⟩
  rw [e]; simp [List.getD, h]

/-- an item of a list of ints -/
theorem itemI {value slice : Expr} {l : Addr} {vs : List Value} {n : Nat} {xs : List Int} {k : Int} {u : Tok} (ho : s.heap.get? l = some (listOf vs.toArray n)) (hi : IntsAre vs xs) (h0 : 0 ≤ k) (h1 : k < xs.length) (hb : xs.length < 2 ^ 62)
    (h : ∀ t, Q (.int (xs.getD k.toNat 0) t) s)
    (hs : subscripted slice false (.ref l) (.int k u) = operate [.ref l, .int k u] (getItem (.ref l) (.int k u)) := by with_unfolding_all rfl) (ht : ∀ r, letTemporaryGo value (.ref l) r = pure () := by intro _; with_unfolding_all rfl) :
    wpAny (model prog w) A (subscriptTail value slice (.ref l) (.int k u)) Q E s := by
  have hl : s.heap.IsList l vs.toArray := ⟨_, ho, rfl, n, rfl⟩
  obtain ⟨t, e⟩ := ints_at hi (j := k.toNat) (by omega)
  exact subscriptTail_builtin hl.typeIs slot_list_getitem.lookup (wpAny_getItem_list hl h0 (by omega) (by simpa using e) (h t)) hs ht
/-- an item of a list -/
theorem itemV {value slice : Expr} {l : Addr} {vs : List Value} {n : Nat} {k : Int} {u : Tok} (ho : s.heap.get? l = some (listOf vs.toArray n)) (h0 : 0 ≤ k) (h1 : k < vs.length) (hb : vs.length < 2 ^ 62)
    (h : ∀ v, vs[k.toNat]? = some v → Q v s)
    (hs : subscripted slice false (.ref l) (.int k u) = operate [.ref l, .int k u] (getItem (.ref l) (.int k u)) := by with_unfolding_all rfl) (ht : ∀ r, letTemporaryGo value (.ref l) r = pure () := by intro _; with_unfolding_all rfl) :
    wpAny (model prog w) A (subscriptTail value slice (.ref l) (.int k u)) Q E s := by
  have hl : s.heap.IsList l vs.toArray := ⟨_, ho, rfl, n, rfl⟩
  obtain ⟨v, e⟩ : ∃ v, vs[k.toNat]? = some v := ⟨vs[k.toNat]'(by omega), by simp⟩
  exact subscriptTail_builtin hl.typeIs slot_list_getitem.lookup (wpAny_getItem_list hl h0 (by omega) (by simpa using e) (h v e)) hs ht
/-- the last item of a list of ints -/
theorem itemLast {value slice : Expr} {l : Addr} {vs : List Value} {n : Nat} {xs : List Int} {u : Tok} (ho : s.heap.get? l = some (listOf vs.toArray n)) (hi : IntsAre vs xs) (h1 : 0 < xs.length) (hb : xs.length < 2 ^ 62)
    (h : ∀ t, Q (.int (xs.getD (xs.length - 1) 0) t) s)
    (hs : subscripted slice false (.ref l) (.int (-1) u) = operate [.ref l, .int (-1) u] (getItem (.ref l) (.int (-1) u)) := by with_unfolding_all rfl) (ht : ∀ r, letTemporaryGo value (.ref l) r = pure () := by intro _; with_unfolding_all rfl) :
    wpAny (model prog w) A (subscriptTail value slice (.ref l) (.int (-1) u)) Q E s := by
  have hl : s.heap.IsList l vs.toArray := ⟨_, ho, rfl, n, rfl⟩
  obtain ⟨t, e⟩ := ints_at hi (j := xs.length - 1) (by omega)
  have hlen : vs.length = xs.length := hi.length
  refine subscriptTail_builtin hl.typeIs slot_list_getitem.lookup (wpAny_getItem_list_neg hl (by decide) ?_ (by decide) ?_ (h t)) hs ht
  · simp only [List.size_toArray]; omega
  · simp only [List.size_toArray]
    have : (-1 + (vs.length : Int)).toNat = xs.length - 1 := by omega
    rw [this]; simpa using e

end
section
variable {prog : Program} {w : World} {A : Around} {E : Value → Shared → Prop} {hp : Heap} {g : Array GenState} {dr : Drawn} {tk : Nat} {os : OsState} {Q : Value → Shared → Prop} {a b : Int} {t u : Tok}
theorem lenL {l : Addr} {vs : List Value} {n : Nat} (ho : hp.get? l = some (listOf vs.toArray n)) (hb : vs.length < 2 ^ 62) (h : ∀ t u, Q (.int vs.length t) ⟨hp, g, dr, u, os⟩) :
    wpAny (model prog w) A (call (.builtin "len") [.ref l]) Q E ⟨hp, g, dr, tk, os⟩ := by
  have hl : hp.IsList l vs.toArray := ⟨_, ho, rfl, n, rfl⟩
  exact PyProof.Rows.len_list (s := ⟨hp, g, dr, tk, os⟩) hl (by simp only [List.size_toArray]; omega) (by simpa using h (tk + 1) (tk + 1 + 1))
theorem cInt {M : Model} {i : Int} {k : Nat} {pos : Pos} {env : Env} (h : ∀ t u, Q (.int i t) ⟨hp, g, dr, u, os⟩) : wpAny M A (eval (.Constant (.int i) k pos) env) Q E ⟨hp, g, dr, tk, os⟩ := wpAny_Constant_int (h _ _)
theorem cStr {M : Model} {x : Str} {k : Nat} {pos : Pos} {env : Env} (h : ∀ t u, Q (.str x t) ⟨hp, g, dr, u, os⟩) : wpAny M A (eval (.Constant (.str x) k pos) env) Q E ⟨hp, g, dr, tk, os⟩ := by
  rw [eval_Constant]; exact wpAny_mkText (h _ _)
theorem addI (h : ∀ t u, Q (.int (a + b) t) ⟨hp, g, dr, u, os⟩) : wpAny (model prog w) A (binaryOp .Add (.int a t) (.int b u)) Q E ⟨hp, g, dr, tk, os⟩ := PyProof.Rows.add_int (h _ _)
theorem subI (h : ∀ t u, Q (.int (a - b) t) ⟨hp, g, dr, u, os⟩) : wpAny (model prog w) A (binaryOp .Sub (.int a t) (.int b u)) Q E ⟨hp, g, dr, tk, os⟩ := PyProof.Rows.sub_int (h _ _)
theorem fdivI (hb : b ≠ 0) (hs : b.natAbs < 1073741824) (h : ∀ t u, Q (.int (a.fdiv b) t) ⟨hp, g, dr, u, os⟩) : wpAny (model prog w) A (binaryOp .FloorDiv (.int a t) (.int b u)) Q E ⟨hp, g, dr, tk, os⟩ := PyProof.Rows.floordiv_int hb (h _ _) (.inl (PyProof.noPylong_small hs))
theorem modI (hb : b ≠ 0) (h : ∀ t u, Q (.int (a.fmod b) t) ⟨hp, g, dr, u, os⟩) : wpAny (model prog w) A (binaryOp .Mod (.int a t) (.int b u)) Q E ⟨hp, g, dr, tk, os⟩ := PyProof.Rows.mod_int hb (h _ _)
theorem negI (h : ∀ t u, Q (.int (-a) t) ⟨hp, g, dr, u, os⟩) : wpAny (model prog w) A (unaryOp .USub (.int a t)) Q E ⟨hp, g, dr, tk, os⟩ := PyProof.Rows.neg_int (h _ _)
theorem iaddI (h : ∀ t u, Q (.int (a + b) t) ⟨hp, g, dr, u, os⟩) : wpAny (model prog w) A (inplaceOp .Add (.int a t) (.int b u)) Q E ⟨hp, g, dr, tk, os⟩ := PyProof.Rows.iadd_int (h _ _)
theorem ite_t {b : Bool} {X Y : Prop} (h : b = true) (x : X) : if b = true then X else Y := by rw [h]; exact x
theorem ite_f {b : Bool} {X Y : Prop} (h : b = false) (y : Y) : if b = true then X else Y := by rw [h]; exact y
end
end Mine

end

section
open PySem PySem.W PySem.Calls PyProof.Rows
open PySem PySem.W PySem.Calls PyProof.Rows
namespace Mine
variable [Base]
set_option maxRecDepth 100000
open PySem.Builtin PySem.Builtin.ObjectAttr

theorem fn_set : Slot "function" "__setattr__" "object.__setattr__" :=
  .of (owner := "object") (n := "__setattr__") (by rw [typeLookup_type, builtinLookup_eq_fast]; kernel_rfl) (by decide +kernel) (by decide +kernel) (by decide +kernel)
    (by first | exact .inl (by decide +kernel) | exact .inr (by decide +kernel)) (by rw [isSubtype_type]; kernel_rfl)
theorem fn_ga : Slot "function" "__getattribute__" "object.__getattribute__" :=
  .of (owner := "object") (n := "__getattribute__") (by rw [typeLookup_type, builtinLookup_eq_fast]; kernel_rfl) (by decide +kernel) (by decide +kernel) (by decide +kernel)
    (by first | exact .inl (by decide +kernel) | exact .inr (by decide +kernel)) (by rw [isSubtype_type]; kernel_rfl)
theorem entry_set : entryFor table "object.__setattr__" = some Builtin.«object.__setattr__» := entryFor_of_tree (by kernel_rfl)
theorem entry_ga : entryFor table "object.__getattribute__" = some Builtin.«object.__getattribute__» := entryFor_of_tree (by kernel_rfl)
theorem args_set (a b c : Value) : argsOk "object.__setattr__" ⟨[a, b, c], []⟩ := by unfold argsOk; kernel_rfl
theorem args_ga (a b : Value) : argsOk "object.__getattribute__" ⟨[a, b], []⟩ := by unfold argsOk; kernel_rfl
theorem fn_span : typeLookup (.type "function") "span" = pure none := by rw [typeLookup_type, builtinLookup_eq_fast]; kernel_rfl
theorem fn_search : typeLookup (.type "function") "search" = pure none := by rw [typeLookup_type, builtinLookup_eq_fast]; kernel_rfl
theorem fn_getattr : typeLookup (.type "function") "__getattr__" = pure none := by rw [typeLookup_type, builtinLookup_eq_fast]; kernel_rfl
theorem fn_bool : typeLookup (.type "function") "__bool__" = pure none := by rw [typeLookup_type, builtinLookup_eq_fast]; kernel_rfl
theorem fn_len : typeLookup (.type "function") "__len__" = pure none := by rw [typeLookup_type, builtinLookup_eq_fast]; kernel_rfl

theorem fn_mro : mroOf (.type "function") = pure [.type "function", .type "object"] := by rw [mroOf_type]; kernel_rfl
theorem fn_refuse (self : Value) : refuseLoop self "__setattr__" [.type "function", .type "object"] = pure () := by kernel_rfl
theorem fn_hasDict : typeHasDict (.type "function") = true := by kernel_rfl
theorem fn_fin : finalisedInACycleAlone "function" = false := by kernel_rfl

/-- the attributes' dict of a function object -/
def DictIs (o : Obj) (m : Str → Option Value) : Prop := ∃ es ep, o.data = .dict es ep ∧ StrKeys es ∧ ∀ n, nsFind es n = m n
theorem DictIs.ns {h : Heap} {a : Addr} {o : Obj} {m : Str → Option Value} (x : DictIs o m) (e : h.get? a = some o) : h.Ns a m := let ⟨es, ep, d, r⟩ := x; ⟨o, es, ep, e, d, r⟩
theorem DictIs.nf {o : Obj} {m : Str → Option Value} (x : DictIs o m) : NF o := let ⟨es, ep, d, _⟩ := x; fun vs e => by rw [d] at e; cases e

section
variable {prog : Program} {w : World} {A : Around} {E : Value → Shared → Prop} {hp : Heap} {g : Array GenState} {dr : Drawn} {tk : Nat} {os : OsState} {h₀ : Heap} {L : Addr} {m : Str → Option Value} {U T : List (Addr × Obj)} {C : List Addr}

/-- f.name = v, f a function object without attributes -/
theorem fn_setattr {f : Addr} {fd : FuncData} {name : Str} {v : Value} {Q : Unit → Shared → Prop} (F : Fn h₀ L m ((f, { cls := .type "function", data := .func fd }) :: U) T C hp) (hl : typeLookup (.type "function") name = pure none)
    (h : ∀ d od h' t', DictIs od (fun x => if x = name then some v else none) → Fn h₀ L m ((f, { cls := .type "function", dict := some d, data := .func fd }) :: (d, od) :: U) T C h' → Q () ⟨h', g, dr, t', os⟩) :
    wpAny (model prog w) A (setAttr (.ref f) name v) Q E ⟨hp, g, dr, tk, os⟩ := by
  unfold setAttr
  refine wpAny_bind (wpAny_mkText ?_)
  have ho : hp.get? f = some { cls := .type "function", data := .func fd } := F.getU (.head _)
  have hT : (⟨hp, g, dr, tk + 1, os⟩ : Shared).TypeIs (.ref f) "function" := ⟨_, ho, rfl⟩
  refine wpAny_bind (wpAny_callSpecial?_slot hT fn_set (wpAny_call_entry fn_set hT entry_set ?_ (args_set _ _ _)))
  rw [osa_eq, refuse_eq]
  refine wpAny_bind (wpAny_bind (wpAny_typeOf hT (wpAny_bind ?_)))
  rw [fn_mro]
  refine wpAny_pure ?_
  rw [fn_refuse]
  refine wpAny_pure (wpAny_bind (wpAny_typeOf hT (wpAny_bind ?_)))
  rw [hl]
  refine wpAny_pure (wpAny_bind (wpAny_pure ?_))
  show wpAny _ _ (storeInOwnDict _ _ _ _ _ _) _ _ _
  unfold storeInOwnDict
  refine wpAny_bind (m := ownStreamTells _ _) (wpAny_pure ?_)
  show wpAny _ _ (ownDictForStores (.ref f) >>= _) _ _ _
  refine wpAny_bind ?_
  unfold ownDictForStores instanceDict
  refine wpAny_bind (wpAny_loadPart ho ?_)
  dsimp only
  rw [fn_hasDict]
  refine wpAny_bind (wpAny_alloc (wpAny_bind (wpAny_update (Heap.get?_push_of_some _ ho) ?_)))
  unfold dictMade
  dsimp only
  rw [fn_fin]
  refine wpAny_pure ?_
  have F1 := (F.pushU { cls := .type "dict", data := .dict #[] } rfl nofun).swap
  have F2 := F1.upd (o' := { cls := .type "function", dict := some hp.objs.size, data := .func fd }) (Heap.SameBut.update (hp.push { cls := .type "dict", data := .dict #[] }) f fun o => { o with dict := some hp.objs.size }) (Heap.get?_update_self _ (Heap.get?_push_of_some _ ho) rfl) nofun
  have F3 := F2.swap
  have hns : (Heap.update (hp.push { cls := .type "dict", data := .dict #[] }) f fun o => { o with dict := some hp.objs.size }).Ns hp.objs.size (fun _ => none) :=
    ⟨_, #[], 0, F3.getU (.head _), rfl, fun _ he => by simp at he, fun _ => rfl⟩
  show wpAny _ _ (storeInDict _ _ _ _) _ _ _
  unfold storeInDict
  refine wpAny_bind (m := newKeyGuard _ _ _) (wpAny_pure ?_)
  refine wpAny_bind (wpAny_nsSet1 (Heap.Ns1.of_empty hns) fun h' hn1 hs => ?_)
  obtain ⟨od, es, ep, eo, ed, ek, ef⟩ := hn1.ns
  have F4 := (F3.upd hs eo (fun vs e => by rw [ed] at e; cases e)).swap
  have hsize : es.size ≤ sizeLine + 1 := by
    obtain ⟨o2, es2, ep2, e2, d2, l2⟩ := hn1.count (ns := [name]) (fun y hy => by
      by_cases q : y = name
      · subst q; exact .head _
      · simp [q] at hy)
    rw [eo] at e2; cases e2
    rw [ed] at d2; cases d2
    exact Nat.le_trans l2 (by rw [sizeLine_eq]; simp)
  refine wpAny_bind (wpAny_lookBehind eo (by rw [ed]; exact pastItsLine_dict hsize) ?_)
  refine wpAny_pure ⟨_, rfl, ?_⟩
  exact wpAny_pure (h _ od h' _ ⟨es, ep, ed, ek, ef⟩ F4)

theorem ga_eq (self : Value) (name : Str) (tk : Tok) : Builtin.«object.__getattribute__» ⟨[self, .str name tk], []⟩ = (typeOf self >>= fun tp => find self tp name >>= fun r => (match r with
  | .value v => ret v
  | .bind g a => bindTo g a self tp
  | .missing => do
    if tp == .type "module" then
      if ← isOpaqueModuleObj self then
        let byTheModulesOwnEntry := match (← stack).drop 1 with
          | (.builtin "module.__getattribute__" ⟨m :: _, _⟩, _) :: _ => m == self
          | _ => false
        if !byTheModulesOwnEntry then unsupported "thirdparty:object.__getattribute__:a-miss-on-an-opaque-module"
    if tp == .type "type" then
      if let some key ← opaqueClassAbove self then unsupported s!"thirdparty:{key.toString}.{name.toString}:object.__getattribute__-misses-on-an-opaque-class"
    noSuchAttribute self name : Sem Fin)) := rfl

/-- f.name, f a function object with that attribute -/
theorem fn_getattr' {s : Shared} {f d : Addr} {fd : FuncData} {name : Str} {fa : Addr} {mm : Str → Option Value} {ex : Bool} {Q : Value → Shared → Prop} (ho : s.heap.get? f = some { cls := .type "function", dict := some d, data := .func fd }) (hd : s.heap.Ns d mm)
    (hv : mm name = some (.ref fa)) (hl : typeLookup (.type "function") name = pure none) (h : ∀ t, Q (.ref fa) { s with toks := t }) : wpAny (model prog w) A (getAttr (.ref f) name ex) Q E s := by
  unfold getAttr
  refine wpAny_bind (wpAny_mkText ?_)
  have hT : ({ s with toks := s.toks + 1 } : Shared).TypeIs (.ref f) "function" := ⟨_, ho, rfl⟩
  unfold getAttrBy
  refine wpAny_holding (wpAny_bind (wpAny_typeOf hT (wpAny_bind ?_)))
  rw [fn_ga.lookup]
  refine wpAny_pure ?_
  show wpAny _ _ (getAttrByItsOwn _ _ _ _ _ _) _ _ _
  unfold getAttrByItsOwn
  refine wpAny_bind (m := hookBefore _) (wpAny_pure ?_)
  refine wpAny_bind (wpAny_attempt (wpAny_holding ?_))
  unfold callGetattribute
  show wpAny _ _ (if (ex && false) = true then _ else _) _ _ _
  rw [Bool.and_false, if_neg Bool.false_ne_true]
  unfold boundAndCalled
  rw [fn_ga.bind]
  refine wpAny_bind (wpAny_pure ?_)
  refine wpAny_call_entry fn_ga hT entry_ga ?_ (args_ga _ _)
  show wpAny _ _ (Builtin.«object.__getattribute__» ⟨[.ref f, .str name s.toks], []⟩) _ _ _
  rw [ga_eq]
  refine wpAny_bind (wpAny_typeOf hT (wpAny_bind ?_))
  unfold find
  rw [hl]
  refine wpAny_bind (wpAny_pure (wpAny_bind (m := getOf none) (wpAny_pure (wpAny_bind (m := dataDescriptor? none none) (wpAny_pure ?_)))))
  unfold ownThenClass
  refine wpAny_bind ?_
  unfold inOwnDict ObjectAttr.ownDict
  refine wpAny_bind (wpAny_bind (wpAny_loadPart ho ?_))
  dsimp only
  unfold instanceDict
  refine wpAny_bind (wpAny_loadPart ho ?_)
  dsimp only
  refine wpAny_pure ?_
  unfold inDict
  refine wpAny_nsGet hd ?_
  rw [hv]
  refine wpAny_bind (wpAny_rule (wpAny_pure ?_))
  refine wpAny_pure ⟨_, rfl, ?_⟩
  exact wpAny_pure (h _)

theorem fn_getMethod {s : Shared} {f d : Addr} {fd : FuncData} {name : Str} {fa : Addr} {mm : Str → Option Value} {pl : Sem Bool} {Q : Value × List Value → Shared → Prop} (ho : s.heap.get? f = some { cls := .type "function", dict := some d, data := .func fd }) (hd : s.heap.Ns d mm)
    (hv : mm name = some (.ref fa)) (hl : typeLookup (.type "function") name = pure none) (h : ∀ t, Q (.ref fa, []) { s with toks := t }) : wpAny (model prog w) A (getMethod (.ref f) name pl) Q E s := by
  have hT : s.TypeIs (.ref f) "function" := ⟨_, ho, rfl⟩
  unfold getMethod
  refine wpAny_bind (wpAny_specialOf hT fn_ga.lookup ?_)
  show wpAny _ _ (if (Manifest.canonical "object.__getattribute__" != "object.__getattribute__") = true then _ else _) Q E s
  rw [PySem.F.canon_object_ga, if_neg Bool.false_ne_true]
  refine wpAny_bind (wpAny_specialOf hT fn_getattr ?_)
  refine wpAny_bind (wpAny_specialOf hT hl ?_)
  exact wpAny_bind (fn_getattr' ho hd hv hl fun t => wpAny_pure (h t))

/-- the truth of a function object -/
theorem fn_truthy {s : Shared} {f : Addr} {o : Obj} {Q : Bool → Shared → Prop} (ho : s.heap.get? f = some o) (hc : o.cls = .type "function") (h : Q true s) : wpAny (model prog w) A (truthy (.ref f)) Q E s := by
  have hT : s.TypeIs (.ref f) "function" := ⟨_, ho, hc⟩
  unfold truthy
  refine wpAny_bind (wpAny_callSpecial?_none hT fn_bool ?_)
  refine wpAny_bind (wpAny_specialOf hT fn_len ?_)
  exact wpAny_pure h
end
end Mine

end

section
open PySem PySem.W PySem.Calls PyProof.Rows
open PySem PySem.W PySem.Calls PyProof.Rows
namespace Mine
variable [Base]
set_option maxRecDepth 100000

section
variable {prog : Program} {w : World} {A : Around} {E : Value → Shared → Prop} {hp : Heap} {g : Array GenState} {dr : Drawn} {tk : Nat} {os : OsState} {h₀ : Heap} {L a : Addr} {m : Str → Option Value} {U T : List (Addr × Obj)} {C : List Addr} {q : Str} {sc : Scope} {cd : Value} {cl : List (Str × Addr)}

theorem tupG {vs : List Value} {Q : Value → Shared → Prop} (F : Fn h₀ L m U T C hp) (h : ∀ b h', hp.get? b = none → Keep hp h' → h'.get? b = some (kdv_tup vs) → Fn h₀ L m U ((b, kdv_tup vs) :: T) C h' → Q (.ref b) ⟨h', g, dr, tk, os⟩) (hsz : vs.length ≤ sizeLine := by size_fits) :
    wpAny (model prog w) A (newTuple vs) Q E ⟨hp, g, dr, tk, os⟩ :=
  wpAny_newObj_type (s := ⟨hp, g, dr, tk, os⟩) (h _ _ (get_size _) (.push _ _) (Heap.get?_push_size _ rfl) (F.pushT _ rfl (NF.nt nofun))) (by show vs.toArray.size ≤ sizeLine; rw [List.size_toArray]; exact hsz)
theorem listG {vs : List Value} {Q : Value → Shared → Prop} (F : Fn h₀ L m U T C hp) (h : ∀ b h', hp.get? b = none → Fn h₀ L m ((b, listOf vs.toArray 0) :: U) T C h' → Q (.ref b) ⟨h', g, dr, tk, os⟩) (hsz : vs.length ≤ sizeLine := by size_fits) :
    wpAny (model prog w) A (newList vs) Q E ⟨hp, g, dr, tk, os⟩ :=
  wpAny_newObj_type (s := ⟨hp, g, dr, tk, os⟩) (h _ _ (get_size _) (F.pushU _ rfl nofun)) (by show vs.toArray.size ≤ sizeLine; rw [List.size_toArray]; exact hsz)
/-- xs.append(v), xs the first object that may change -/
theorem appendG {l : Addr} {vs : List Value} {n : Nat} {v : Value} {Q : Value → Shared → Prop} (F : Fn h₀ L m ((l, listOf vs.toArray n) :: U) T C hp)
    (h : ∀ h', Fn h₀ L m ((l, listOf (vs ++ [v]).toArray (n + 1)) :: U) T C h' → Q .none ⟨h', g, dr, tk, os⟩) (hsz : vs.length ≤ sizeLine) :
    wpAny (model prog w) A (call (.builtin "list.append") [.ref l, v]) Q E ⟨hp, g, dr, tk, os⟩ :=
  append_at (s := ⟨hp, g, dr, tk, os⟩) (F.getU (.head _)) (fun h' hs ho => by
    refine h h' (F.upd hs ?_ nofun)
    rw [ho]; simp) (by rw [List.size_toArray]; exact hsz)
theorem appendM {l : Addr} {o : Obj} {pl : Sem Bool} {Q : Value × List Value → Shared → Prop} {s : Shared} (ho : s.heap.get? l = some o) (hc : o.cls = .type "list") (hd : o.dict = none) (h : Q (.builtin "list.append", [.ref l]) s) :
    wpAny (model prog w) A (getMethod (.ref l) "append" pl) Q E s := Calls.getMethod_list_append ho hc hd h

/-- x, y = t, t a tuple of two -/
theorem unpack2 {x y : Str} {p1 p2 pos : Pos} {k : Nat} {t : Addr} {v1 v2 : Value} {Q : Unit → Shared → Prop} (F : Fn h₀ L m U T C hp) (hh : A.handled = none) (ht : (t, kdv_tup [v1, v2]) ∈ T)
    (h : ∀ h' t', Fn h₀ L (fun z => if z = y then some v2 else if z = x then some v1 else m z) U T C h' → Q () ⟨h', g, dr, t', os⟩)
    (hk : sc.kind = .function := by rfl) (hx : (envX q sc L a cd cl).kindOf x = some .local := by rfl) (hy : (envX q sc L a cd cl).kindOf y = some .local := by rfl) :
    wpAny (model prog w) A (assign (.Tuple [.Name x p1, .Name y p2] k pos) (envX q sc L a cd cl) (.ref t)) Q E ⟨hp, g, dr, tk, os⟩ := by
  refine assign_Tuple_tuple (items := #[v1, v2]) hh ⟨_, F.get ht, rfl, 0, rfl⟩ rfl rfl fun h' hx' => ?_
  have F' := F.kept (Keep.ext fun b o e => hx' b o (Nat.ne_of_lt (Heap.lt_size e)) e)
  show wpAny _ _ (do holding [v2] (assign (.Name x p1) (envX q sc L a cd cl) v1); do holding [] (assign (.Name y p2) (envX q sc L a cd cl) v2); pure ()) _ _ _
  refine wpAny_bind (wpAny_holding (wpAny_assign_Name (stL F' (fun h₂ t₂ F₂ => ?_) hk hx)))
  refine wpAny_bind (wpAny_holding (wpAny_assign_Name (stL F₂ (fun h₃ t₃ F₃ => ?_) hk hy)))
  exact wpAny_pure (h h₃ t₃ F₃)
end

/-! ### match objects and programs of the law's making -/
/-- every object and code of T and C is there -/
structure Has (T : List (Addr × Obj)) (C : List Addr) (h : Heap) : Prop where
  obj : ∀ p ∈ T, h.get? p.1 = some p.2
  code : ∀ c ∈ C, CodeG h c
theorem Fn.has {h₀ h : Heap} {L : Addr} {m : Str → Option Value} {U T : List (Addr × Obj)} {C : List Addr} (F : Fn h₀ L m U T C h) : Has T C h := ⟨fun p hp => (F.know p hp).1, F.codes⟩

/-- what a call of m.span() gives -/
def SpanPost (i j : Int) (h : Heap) (v : Value) (h' : Heap) : Prop := ∃ a t u, v = .ref a ∧ h.get? a = none ∧ h'.get? a = some (kdv_tup [.int i t, .int j u])

/-- at f stands a match object of the span (i, j) -/
structure Hit (prog : Program) (w : World) (f : Addr) (i j : Int) (T : List (Addr × Obj)) (C : List Addr) : Prop where
  obj : ∃ d fd od mm g fg, (f, ({ cls := .type "function", dict := some d, data := .func fd } : Obj)) ∈ T ∧ (d, od) ∈ T ∧ DictIs od mm ∧ mm "span" = some (.ref g) ∧ (g, ({ cls := .type "function", data := .func fg } : Obj)) ∈ T ∧
    ∀ h, Has T C h → h.NoLimit → Mine.Calls prog w 2 (.ref g) ⟨[], []⟩ h (SpanPost i j h)
theorem Hit.mono {prog : Program} {w : World} {f : Addr} {i j : Int} {T T' : List (Addr × Obj)} {C C' : List Addr} (x : Hit prog w f i j T C) (hT : ∀ p ∈ T, p ∈ T') (hC : ∀ c ∈ C, c ∈ C') : Hit prog w f i j T' C' :=
  let ⟨d, fd, od, mm, g, fg, a, b, c, e, k, l⟩ := x.obj
  ⟨d, fd, od, mm, g, fg, hT _ a, hT _ b, c, e, hT _ k, fun h H => l h ⟨fun p hp => H.obj p (hT p hp), fun c hc => H.code c (hC c hc)⟩⟩

/-- what a search gives: None or a match object -/
def SearchPost (prog : Program) (w : World) (r : Option (Int × Int)) (h : Heap) (v : Value) (h' : Heap) : Prop := match r with
  | none => v = .none
  | some (i, j) => ∃ f N Cs, v = .ref f ∧ New h h' N ∧ (∀ c ∈ Cs, CodeG h' c) ∧ Hit prog w f i j N Cs

/-- at p stands an object whose search answers by S on the text x, under the facts G of the heap -/
structure Prog (prog : Program) (w : World) (G : Heap → Prop) (d : Nat) (x : Value) (S : Int → Option (Int × Int)) (p : Addr) (T : List (Addr × Obj)) (C : List Addr) : Prop where
  obj : ∃ dd fd od mm g fg, (p, ({ cls := .type "function", dict := some dd, data := .func fd } : Obj)) ∈ T ∧ (dd, od) ∈ T ∧ DictIs od mm ∧ mm "search" = some (.ref g) ∧ (g, ({ cls := .type "function", data := .func fg } : Obj)) ∈ T ∧
    (∀ h, Has T C h → G h → Mine.Calls prog w d (.ref g) ⟨[x], []⟩ h (SearchPost prog w (S 0) h)) ∧
    ∀ k t h, 0 ≤ k → Has T C h → G h → Mine.Calls prog w d (.ref g) ⟨[x, .int k t], []⟩ h (SearchPost prog w (S k) h)
theorem Prog.mono {prog : Program} {w : World} {G : Heap → Prop} {d : Nat} {x : Value} {S : Int → Option (Int × Int)} {p : Addr} {T T' : List (Addr × Obj)} {C C' : List Addr} (y : Prog prog w G d x S p T C) (hT : ∀ p ∈ T, p ∈ T') (hC : ∀ c ∈ C, c ∈ C') : Prog prog w G d x S p T' C' :=
  let ⟨dd, fd, od, mm, g, fg, a, b, c, e, k, l, n⟩ := y.obj
  have H' : ∀ h, Has T' C' h → Has T C h := fun h H => ⟨fun p hp => H.obj p (hT p hp), fun c hc => H.code c (hC c hc)⟩
  ⟨dd, fd, od, mm, g, fg, hT _ a, hT _ b, c, e, hT _ k, fun h H => l h (H' h H), fun k t h hk H => n k t h hk (H' h H)⟩

/-- the loop of search_reverse -/
def nextAt (i j : Int) : Int := if i = j then j + 1 else j
inductive SR (S : Int → Option (Int × Int)) (col : Int) : Nat → Int → Int → Option (Int × Int) → Option (Int × Int) → Prop
  | stop {n i j found} : ¬ (i < col ∧ j ≤ col) → SR S col n i j found found
  | last {n i j found} : i < col → j ≤ col → S (nextAt i j) = none → SR S col n i j found (some (i, j))
  | step {n i j i' j' found res} : i < col → j ≤ col → S (nextAt i j) = some (i', j') → SR S col n i' j' (some (i, j)) res → SR S col (n + 1) i j found res

section
variable {prog : Program} {w : World} {A : Around} {E : Value → Shared → Prop} {hp : Heap} {g : Array GenState} {dr : Drawn} {tk : Nat} {os : OsState} {h₀ : Heap} {L : Addr} {m : Str → Option Value} {U T : List (Addr × Obj)} {C : List Addr} {env : Env}
theorem getM {f d : Addr} {fd : FuncData} {name : Str} {fa : Addr} {mm : Str → Option Value} {od : Obj} {pl : Sem Bool} {Q : Value × List Value → Shared → Prop} (ho : hp.get? f = some { cls := .type "function", dict := some d, data := .func fd }) (hd : hp.get? d = some od) (hm : DictIs od mm)
    (hv : mm name = some (.ref fa)) (hl : typeLookup (.type "function") name = pure none) (h : ∀ t, Q (.ref fa, []) ⟨hp, g, dr, t, os⟩) : wpAny (model prog w) A (getMethod (.ref f) name pl) Q E ⟨hp, g, dr, tk, os⟩ :=
  fn_getMethod (s := ⟨hp, g, dr, tk, os⟩) ho (hm.ns hd) hv hl h
/-- f.span(), f evaluated -/
theorem spanG {f : Addr} {i j : Int} {pl : Sem Bool} {pos : Pos} {Q : Value → Shared → Prop} (F : Fn h₀ L m U T C hp) (lim : h₀.NoLimit) (hr : Room A 2) (H : Hit prog w f i j T C)
    (h : ∀ a t u h' t', hp.get? a = none → Fn h₀ L m U ((a, kdv_tup [.int i t, .int j u]) :: T) C h' → Q (.ref a) ⟨h', g, dr, t', os⟩) :
    wpAny (model prog w) A (getMethod (.ref f) "span" pl) (fun fx s₂ => wpAny (model prog w) A (callWith pos fx.1 fx.2 (backTo pos (starEach [] env)) []) Q E s₂) E ⟨hp, g, dr, tk, os⟩ := by
  obtain ⟨d, fd, od, mm, gg, fg, a1, a2, a3, a4, a5, a6⟩ := H.obj
  refine getM (F.get a1) (F.get a2) a3 a4 fn_span fun t => ?_
  refine callWith_meth0 (o := { cls := .type "function", data := .func fg }) rfl (F.get a5) ?_
  refine callG (a6 hp F.has (F.keep.lim lim)) hr fun v h' t' k P => ?_
  obtain ⟨b, t1, u1, rfl, e1, e2⟩ := P
  exact h b t1 u1 h' t' e1 (F.learn (N := [(b, _)]) k fun p hp => by rw [List.mem_singleton.mp hp]; exact ⟨e2, NF.nt nofun, e1⟩)
end
end Mine

end

section
open PySem PySem.W PySem.Calls PyProof.Rows
open PySem PySem.W PySem.Calls PyProof.Rows
namespace Mine
variable [Base]
set_option maxRecDepth 100000
section
variable {prog : Program} {w : World} {A : Around} {E : Value → Shared → Prop} {hp : Heap} {g : Array GenState} {dr : Drawn} {tk : Nat} {os : OsState} {h₀ : Heap} {L : Addr} {m : Str → Option Value} {U T : List (Addr × Obj)} {C : List Addr} {Q : Value → Shared → Prop} {a b : Int} {t u : Tok}
theorem rng2 (F : Fn h₀ L m U T C hp) (h : ∀ R t u v h' t', IsRange h' R a b 1 t u v → Fn h₀ L m U T C h' → Q (.ref R) ⟨h', g, dr, t', os⟩) : wpAny (model prog w) A (call (.type "range") [.int a t, .int b u]) Q E ⟨hp, g, dr, tk, os⟩ :=
  call_range_2 (s := ⟨hp, g, dr, tk, os⟩) (h _ _ _ _ _ _ (IsRange.new ..) (F.push _))
theorem rng1 (F : Fn h₀ L m U T C hp) (h : ∀ R t u v h' t', IsRange h' R 0 b 1 t u v → Fn h₀ L m U T C h' → Q (.ref R) ⟨h', g, dr, t', os⟩) : wpAny (model prog w) A (call (.type "range") [.int b u]) Q E ⟨hp, g, dr, tk, os⟩ :=
  call_range_1 (s := ⟨hp, g, dr, tk, os⟩) (h _ _ _ _ _ _ (IsRange.new ..) (F.push _))
theorem maxG (F : Fn h₀ L m U T C hp) (hh : A.handled = none) (h : ∀ v h' t', Fn h₀ L m U T C h' → Q (.int (max a b) v) ⟨h', g, dr, t', os⟩) : wpAny (model prog w) A (call (.builtin "max") [.int a t, .int b u]) Q E ⟨hp, g, dr, tk, os⟩ := by
  refine max_two_ints (s := ⟨hp, g, dr, tk, os⟩) hh fun h' t' k => ?_
  have F' := F.kept (Keep.ext k)
  by_cases e : b > a
  · rw [if_pos e]
    have z := h u h' t' F'
    rwa [show max a b = b by omega] at z
  · rw [if_neg e]
    have z := h t h' t' F'
    rwa [show max a b = a by omega] at z
theorem minG (F : Fn h₀ L m U T C hp) (hh : A.handled = none) (h : ∀ v h' t', Fn h₀ L m U T C h' → Q (.int (min a b) v) ⟨h', g, dr, t', os⟩) : wpAny (model prog w) A (call (.builtin "min") [.int a t, .int b u]) Q E ⟨hp, g, dr, tk, os⟩ := by
  refine min_two_ints (s := ⟨hp, g, dr, tk, os⟩) hh fun h' t' k => ?_
  have F' := F.kept (Keep.ext k)
  by_cases e : b < a
  · rw [if_pos e]
    have z := h u h' t' F'
    rwa [show min a b = b by omega] at z
  · rw [if_neg e]
    have z := h t h' t' F'
    rwa [show min a b = a by omega] at z
end
theorem getD_left {l m : List Int} {i : Nat} (h : i < l.length) : (l ++ m).getD i 0 = l.getD i 0 := by simp [List.getD, List.getElem?_append_left h]
theorem getD_last {l : List Int} {x : Int} {i : Nat} (h : i = l.length) : (l ++ [x]).getD i 0 = x := by subst h; simp [List.getD]
theorem IntsAre.snoc {vs : List Value} {xs : List Int} {x : Int} {t : Tok} (h : IntsAre vs xs) : IntsAre (vs ++ [.int x t]) (xs ++ [x]) := IntsAre.append h (.cons _ _ .nil)
end Mine

end

section
open PySem PySem.W PySem.Calls PyProof.Rows
open PySem PySem.W PySem.Calls PyProof.Rows
namespace Mine
variable [Base]
set_option maxRecDepth 100000

theorem pick_upto (vs : List Value) {y : Int} (h : 0 ≤ y) : slicePick vs.toArray none (some y) none = (vs.take y.toNat).toArray := by
  have e : sliceBounds none (some y) none vs.toArray.size = (((0 : Nat) : Int), ((min y.toNat vs.toArray.size : Nat) : Int), 1) := by
    simp only [sliceBounds, Option.getD_none, show (1 : Int) > 0 by decide, if_true, if_neg (show ¬ (y < 0) by omega)]
    congr 1
    congr 1
    omega
  rw [kmk_pick_nat _ e]
  show ((vs.drop 0).take (min y.toNat vs.toArray.size - 0)).toArray = _
  rw [List.drop_zero, Nat.sub_zero, List.size_toArray, kmk_take_min]
theorem pick_butlast (vs : List Value) : slicePick vs.toArray none (some (-1)) none = (vs.take (vs.length - 1)).toArray := by
  have e : sliceBounds none (some (-1)) none vs.toArray.size = (((0 : Nat) : Int), ((vs.length - 1 : Nat) : Int), 1) := by
    simp only [sliceBounds, Option.getD_none, show (1 : Int) > 0 by decide, if_true, show (-1 : Int) < 0 by decide, List.size_toArray]
    congr 1
    congr 1
    omega
  rw [kmk_pick_nat _ e]
  show ((vs.drop 0).take (vs.length - 1 - 0)).toArray = _
  rw [List.drop_zero, Nat.sub_zero]

section
variable {prog : Program} {w : World} {A : Around} {E : Value → Shared → Prop} {hp : Heap} {g : Array GenState} {dr : Drawn} {tk : Nat} {os : OsState} {h₀ : Heap} {L : Addr} {m : Str → Option Value} {U T : List (Addr × Obj)} {C : List Addr} {Q : Value → Shared → Prop}
/-- a new slice object -/
theorem newSliceG {vl vu vs : Value} (F : Fn h₀ L m U T C hp) (h : ∀ sl h', hp.get? sl = none → Fn h₀ L m U ((sl, { cls := .type "slice", data := .fields #[vl, vu, vs] }) :: T) C h' → Q (.ref sl) ⟨h', g, dr, tk, os⟩) :
    wpAny (model prog w) A (newFields "slice" [vl, vu, vs]) Q E ⟨hp, g, dr, tk, os⟩ :=
  wpAny_newObj_type (s := ⟨hp, g, dr, tk, os⟩) (h _ _ (get_size _) (F.pushT _ rfl (fun ps e => by cases e))) (by size_fits)
theorem sliceG {value slice : Expr} {l sl : Addr} {vs : List Value} {n : Nat} {vl vu vst : Value} {lo hi st : Option Int} (F : Fn h₀ L m U ((sl, { cls := .type "slice", data := .fields #[vl, vu, vst] }) :: T) C hp) (ho : hp.get? l = some (listOf vs.toArray n)) (pl : IsPart vl lo) (pu : IsPart vu hi) (ps : IsPart vst st) (h0 : st ≠ some 0)
    (h : ∀ b h', hp.get? b = none → Fn h₀ L m U ((b, listOf (slicePick vs.toArray lo hi st) 0) :: T) C h' → Q (.ref b) ⟨h', g, dr, tk, os⟩) (hz : vs.length ≤ sizeLine)
    (hs : subscripted slice false (.ref l) (.ref sl) = operate [.ref sl, .ref l] (getItem (.ref l) (.ref sl)) := by with_unfolding_all rfl)
    (ht : ∀ r, letTemporaryGo value (.ref l) r = pure () := by intro _; with_unfolding_all rfl) :
    wpAny (model prog w) A (subscriptTail value slice (.ref l) (.ref sl)) Q E ⟨hp, g, dr, tk, os⟩ := by
  have hl : hp.IsList l vs.toArray := ⟨_, ho, rfl, n, rfl⟩
  refine subscriptTail_ops (Heap.IsList.typeIs (s := ⟨hp, g, dr, tk, os⟩) hl) list_getitem_lookup (wpAny_getItem_list_slice hl ⟨_, F.get (.head _), rfl, rfl⟩ pl pu ps h0 ?_ (by rw [List.size_toArray]; exact hz)) hs ht
  have F' := F.sub (T' := T) fun p hp => .tail _ hp
  exact h _ _ (get_size _) (F'.pushT _ rfl (NF.nt nofun))
theorem SliceG_ {M : Model} {s : Shared} {env : Env} {lower upper step : Option Expr} {p : Pos}
    (h : wpAny M A (evalPart lower env) (fun l s₁ => wpAny M A (evalPart upper env) (fun u s₂ => wpAny M A (evalPart step env) (fun st s₃ => wpAny M A (newFields "slice" [l, u, st]) Q E s₃) E s₂) E s₁) E s) :
    wpAny M A (eval (.Slice lower upper step p) env) Q E s := by
  rw [arm_eval_Slice]
  exact wpAny_bind (wpAny_mono h (fun l s₁ h₁ => wpAny_bind (wpAny_holding (wpAny_mono h₁ (fun u s₂ h₂ => wpAny_bind (wpAny_holding (wpAny_mono h₂ (fun st s₃ h₃ => h₃) fun _ _ x => x))) fun _ _ x => x))) fun _ _ x => x)
theorem evN {M : Model} {s : Shared} {env : Env} (h : Q .none s) : wpAny M A (evalPart none env) Q E s := wpAny_pure h
theorem evS {M : Model} {s : Shared} {env : Env} {e : Expr} (h : wpAny M A (eval e env) Q E s) : wpAny M A (evalPart (some e) env) Q E s := h

/-- a lambda, its object known from now on -/
theorem lambdaT {params : Arguments} {e : Expr} {scope : Scope} {pos : Pos} {env : Env} {c : Addr} {mg mb : Str → Option Value} {clos : List (Str × Addr)} (F : Fn h₀ L m U T C hp) (G : Gl mg mb h₀) (hcode : env.code = .ref c) (hC : c ∈ C)
    (hdef : defaultsOf params env = ([], [])) (hcl : closureFor scope env = pure clos) (hge0 : env.globals = mainGlobals)
    (h : ∀ f c' ctv doc pm h' t', hp.get? f = none → Keep hp h' → Fn h₀ L m U ((f, kdv_obj "<lambda>" (env.qual ++ "<lambda>") params (.expr e) scope clos .none doc pm c' ctv) :: T) (c' :: C) h' → Q (.ref f) ⟨h', g, dr, t', os⟩) :
    wpAny (model prog w) A (eval (.Lambda params e scope pos) env) Q E ⟨hp, g, dr, tk, os⟩ := by
  refine lambda_G (s := ⟨hp, g, dr, tk, os⟩) hdef hcl hge0 (G.kept F.keep) hcode (F.codes c hC) fun f c' ctv doc h' t' k hf hf' hc' => ?_
  exact h f c' ctv doc _ h' t' hf k ((F.learn (N := [(f, _)]) k fun p hp => by rw [List.mem_singleton.mp hp]; exact ⟨hf', NF.nt nofun, hf⟩).learnC hc')
/-- a lambda, its object may change -/
theorem lambdaU {params : Arguments} {e : Expr} {scope : Scope} {pos : Pos} {env : Env} {c : Addr} {mg mb : Str → Option Value} {clos : List (Str × Addr)} (F : Fn h₀ L m U T C hp) (G : Gl mg mb h₀) (hcode : env.code = .ref c) (hC : c ∈ C)
    (hdef : defaultsOf params env = ([], [])) (hcl : closureFor scope env = pure clos) (hge0 : env.globals = mainGlobals)
    (h : ∀ f c' ctv doc pm h' t', hp.get? f = none → Keep hp h' → Fn h₀ L m ((f, kdv_obj "<lambda>" (env.qual ++ "<lambda>") params (.expr e) scope clos .none doc pm c' ctv) :: U) T (c' :: C) h' → Q (.ref f) ⟨h', g, dr, t', os⟩) :
    wpAny (model prog w) A (eval (.Lambda params e scope pos) env) Q E ⟨hp, g, dr, tk, os⟩ := by
  refine lambda_G (s := ⟨hp, g, dr, tk, os⟩) hdef hcl hge0 (G.kept F.keep) hcode (F.codes c hC) fun f c' ctv doc h' t' k hf hf' hc' => ?_
  exact h f c' ctv doc _ h' t' hf k ((F.learnU k hf' nofun hf).learnC hc')
end
end Mine

end

section
open PySem PySem.W PySem.Calls PyProof.Rows
open PySem PySem.W PySem.Calls PyProof.Rows
namespace Mine
variable [Base]
set_option maxRecDepth 100000
section
variable {prog : Program} {w : World} {A : Around} {E : Value → Shared → Prop} {hp : Heap} {g : Array GenState} {dr : Drawn} {tk : Nat} {os : OsState} {h₀ : Heap} {L : Addr} {m : Str → Option Value} {U T : List (Addr × Obj)} {C : List Addr}
theorem lenS {x : Str} {t : Tok} {Q : Value → Shared → Prop} (hb : x.length < 2 ^ 62) (h : ∀ t u, Q (.int x.length t) ⟨hp, g, dr, u, os⟩) :
    wpAny (model prog w) A (call (.builtin "len") [.str x t]) Q E ⟨hp, g, dr, tk, os⟩ := len_str (s := ⟨hp, g, dr, tk, os⟩) (by omega) (h _ _)
/-- a nested def with one default, an int -/
theorem defT {name : Str} {args : List Arg} {i : Int} {k : Nat} {p pos : Pos} {b : List Stmt} {scope : Scope} {env : Env} {c : Addr} {mg mb : Str → Option Value} {clos : List (Str × Addr)} {Q : Flow → Shared → Prop} (F : Fn h₀ L m U T C hp) (G : Gl mg mb h₀) (hcode : env.code = .ref c) (hC : c ∈ C)
    (ha : annTrees ⟨[], args, none, [], [], none, [.Constant (.int i) k p]⟩ none env = []) (hcl : closureFor scope env = pure clos) (hge0 : env.globals = mainGlobals)
    (h : ∀ f d c' ctv doc pm td h' t', hp.get? f = none → hp.get? d = none → Keep hp h' → Fn h₀ L m U ((f, kdv_obj name (qualnameIn env name name) ⟨[], args, none, [], [], none, [.Constant (.int i) k p]⟩ (.stmts b) scope clos (.ref d) doc pm c' ctv) :: (d, kdv_tup [.int i td]) :: T) (c' :: C) h' →
      wpAny (model prog w) A (storeName env name (.ref f)) (fun _ s'' => Q .next s'') E ⟨h', g, dr, t', os⟩) :
    wpAny (model prog w) A (exec (.FunctionDef name ⟨[], args, none, [], [], none, [.Constant (.int i) k p]⟩ b [] none [] scope none name pos) env) Q E ⟨hp, g, dr, tk, os⟩ := by
  refine def_G (mg := mg) (mb := mb) rfl ha hcl hge0 rfl ?_
  show wpAny _ _ (evalAll [eval (.Constant (.int i) k p) env]) _ _ _
  refine wpAny_evalAll_cons (cInt fun t u => ?_)
  refine wpAny_evalAll_nil ?_
  refine ⟨rfl, G.kept F.keep, c, hcode, F.codes c hC, fun f d c' ctv doc h' tk k hf hd hd' hf' hc' => ?_⟩
  exact h f d c' ctv doc _ t h' tk hf hd k ((F.learn (N := [(f, _), (d, _)]) k fun p hp => by
    rcases List.mem_cons.mp hp with rfl | hp
    · exact ⟨hf', NF.nt nofun, hf⟩
    · rw [List.mem_singleton.mp hp]; exact ⟨hd', NF.nt nofun, hd⟩).learnC hc')
end
end Mine

end

section
open PySem PySem.W PySem.Calls PyProof.Rows
open PySem PySem.W PySem.Calls PyProof.Rows
namespace Mine
variable [Base]
set_option maxRecDepth 100000
set_option maxHeartbeats 4000000
local macro_rules | `(tactic| walk_at "hv") => `(tactic| first | rfl | assumption)
local macro_rules | `(tactic| walk_at "dec") => `(tactic| first | rfl | assumption | exact decide_eq_true (by omega) | exact decide_eq_false (by omega))
local macro_rules | `(tactic| walk_at "go0") => `(tactic| first
  | with_reducible refine wpAny_execs_nil ?_
  | with_reducible refine wpAny_If ?_
  | ((with_reducible refine ite_f ?hdec ?_); (case hdec => walk_at "dec"))
  | ((with_reducible refine ite_t ?hdec ?_); (case hdec => walk_at "dec"))
  | ((with_reducible refine wpAny_isTrue_Compare1 ?_ ?hm); (case hm => with_unfolding_all rfl))
  | with_reducible refine isTrue_and ?_
  | with_reducible refine isTrue_and_nil ?_
  | with_reducible refine isTrue_or ?_
  | with_reducible refine isTrue_or_nil ?_
  | with_reducible refine isTrue_not ?_
  | ((with_reducible refine isTrue_plain ?_ ?he); (case he => rfl))
  | ((with_reducible refine wpAny_Assign_Name ?_ ?hs); (case hs => rfl))
  | with_reducible refine wpAny_AugAssign_Name ?_
  | with_reducible refine wpAny_Return_some ?_
  | with_reducible refine wpAny_BinOp ?_
  | ((with_reducible refine wpAny_Compare1 ?_ ?hm); (case hm => with_unfolding_all rfl))
  | with_reducible refine IfExp_ ?_
  | with_reducible refine UnaryOp_ ?_
  | with_reducible refine Subscript_ ?_
  | ((with_reducible refine' ldL ?F ?hv ?_ ?hk ?hx ?hd); (case F => assumption); (case hk => rfl); (case hx => rfl); (case hd => decide); (case hv => walk_at "hv"))
  | ((with_reducible refine' ldnL ?F ?hv ?_ ?hk ?hx); (case F => assumption); (case hk => rfl); (case hx => rfl); (case hv => walk_at "hv"))
  | ((with_reducible refine' stL ?F ?_ ?hk ?hx); (case F => assumption); (case hk => rfl); (case hx => rfl); intro h' t' F')
  | ((with_reducible refine' ldG ?F ?G ?hv ?_ ?hk ?hx ?hd); (case F => assumption); (case G => assumption); (case hk => rfl); (case hx => rfl); (case hd => decide); (case hv => assumption))
  | ((with_reducible refine' ldB ?F ?G ?hn ?hv ?_ ?hk ?hx ?hd); (case F => assumption); (case G => assumption); (case hk => rfl); (case hx => rfl); (case hd => decide); (case hn => assumption); (case hv => assumption))
  | ((with_reducible refine cInt ?_); intro _ _)
  | ((with_reducible refine cStr ?_); intro _ _)
  | with_reducible refine Constant_none ?_
  | with_reducible refine Constant_bool ?_
  | ((with_reducible refine addI ?_); intro _ _)
  | ((with_reducible refine subI ?_); intro _ _)
  | ((with_reducible refine modI ?hb ?_); (case hb => decide); intro _ _)
  | ((with_reducible refine fdivI ?hb ?hs ?_); (case hb => decide); (case hs => decide); intro _ _)
  | with_reducible refine PyProof.Rows.lt_int ?_
  | with_reducible refine PyProof.Rows.le_int ?_
  | with_reducible refine PyProof.Rows.gt_int ?_
  | with_reducible refine PyProof.Rows.ge_int ?_
  | with_reducible refine PyProof.Rows.eq_int ?_
  | with_reducible refine PyProof.Rows.ne_int ?_
  | ((with_reducible refine iaddI ?_); intro _ _)
  | ((with_reducible refine negI ?_); intro _ _)
  | with_reducible refine SliceG_ ?_
  | with_reducible refine evN ?_
  | with_reducible refine evS ?_
  | ((with_reducible refine' newSliceG ?F ?_); (case F => assumption); intro sl' hs' _ Fs')
  | with_reducible refine wpAny_truthy_bool ?_
  | with_reducible refine is_none_none ?_
  | with_reducible refine is_ref_none ?_
  | with_reducible refine is_int_none ?_
  | with_reducible refine isnot_none_none ?_
  | with_reducible refine isnot_ref_none ?_
  | ((with_reducible refine' MethodCall_ ?_ ?he); (case he => rfl))
  | ((with_reducible refine Call_ ?_ ?he); (case he => rfl))
  | with_reducible refine wpAny_Call_Name_kw ?_
  | ((with_reducible refine Assign_Tuple ?_ ?hs ?hw); (case hs => rfl); (case hw => rfl))
  | ((with_reducible refine plainObj_wpAny_Assign_Attribute ?_ ?hs); (case hs => rfl))
  | with_reducible refine truthy_none ?_
  | with_reducible refine wpAny_Break ?_
  | ((with_reducible refine callWith_builtin1 ?_ ?he ?hp); (case he => rfl); (case hp => rfl))
  | ((with_reducible refine args_cons ?_ ?he); (case he => rfl))
  | with_reducible refine args_nil ?_
  | ((with_reducible refine callWith_type1 ?_ ?he ?hp); (case he => rfl); (case hp => rfl))
  | ((with_reducible refine' rng2 ?F ?_); (case F => assumption); intro R' ta' tb' tc' h' t' hR' F')
  | ((with_reducible refine' rng1 ?F ?_); (case F => assumption); intro R' ta' tb' tc' h' t' hR' F')
  | ((with_reducible refine wpAny_For ?_ ?hs); (case hs => intro _; rfl))
  | ((with_reducible refine wpAny_Expr ?_ ?hi ?hs); (case hi => rfl); (case hs => rfl))
  | with_reducible refine List_ ?_
  | with_reducible refine Tuple_ ?_
  | ((with_reducible refine' appendM ?ho ?hc ?hd ?_); (case ho => walk_at "get"); (case hc => rfl); (case hd => rfl))
  | ((with_reducible refine callWith_method1 ?_ ?he ?hp); (case he => rfl); (case hp => rfl))
  | ((with_reducible refine' maxG ?F ?hh ?_); (case F => assumption); (case hh => assumption); intro v' h' t' F')
  | ((with_reducible refine' minG ?F ?hh ?_); (case F => assumption); (case hh => assumption); intro v' h' t' F')
  | with_reducible refine PySem.EqNone.ne_none_none ?_
  | with_reducible refine BoolOp_and ?_
  | with_reducible refine BoolOp_one ?_
  | with_reducible refine PyProof.Rows.ne_bool ?_
  | ((with_reducible refine PyProof.Rows.isTrue_chain ?_ ?hm); (case hm => with_unfolding_all rfl))
  | with_reducible refine PyProof.Rows.test_link ?_
  | with_reducible refine PyProof.Rows.test_last ?_
  | dsimp only)
local macro_rules | `(tactic| walk_at "go1") => `(tactic| first | with_reducible refine wpAny_execs_cons ?_ | walk_at "go0")
local macro_rules | `(tactic| walk_at "go") => `(tactic| repeat (walk_at "go1"))
local macro_rules | `(tactic| walk_at "gs") => `(tactic| repeat (walk_at "go0"))
local macro_rules | `(tactic| walk_at "mem") => `(tactic| first | exact List.Mem.head _ | assumption | exact List.Mem.tail _ (List.Mem.head _) | exact List.Mem.tail _ (List.Mem.tail _ (List.Mem.head _)) | exact List.Mem.tail _ (List.Mem.tail _ (List.Mem.tail _ (List.Mem.head _))) | (simp; done))
local macro_rules | `(tactic| walk_at "get") => `(tactic| first | exact Fn.get (by assumption) (by walk_at "mem") | exact Fn.getU (by assumption) (by walk_at "mem"))
local macro_rules | `(tactic| walk_at "len") => `(tactic| ((with_reducible refine' lenL ?ho ?hb ?_); (case ho => walk_at "get"); (case hb => first | assumption | omega); intro tl' ul'))
local macro_rules | `(tactic| walk_at "item") => `(tactic| ((with_reducible refine' itemI ?ho ?hi ?h0 ?h1 ?hb ?_ ?hs ?ht); (case ho => walk_at "get"); (case hi => assumption); (case h0 => omega); (case h1 => omega); (case hb => first | assumption | omega); (case hs => with_unfolding_all rfl); (case ht => intro _; with_unfolding_all rfl); intro ti'))
local macro_rules | `(tactic| walk_at "itemV") => `(tactic| ((with_reducible refine' itemV ?ho ?h0 ?h1 ?hb ?_ ?hs ?ht); (case ho => walk_at "get"); (case h0 => omega); (case h1 => omega); (case hb => first | assumption | omega); (case hs => with_unfolding_all rfl); (case ht => intro _; with_unfolding_all rfl)))
local macro_rules | `(tactic| walk_at "last") => `(tactic| ((with_reducible refine' itemLast ?ho ?hi ?h1 ?hb ?_ ?hs ?ht); (case ho => walk_at "get"); (case hi => assumption); (case h1 => omega); (case hb => omega); (case hs => with_unfolding_all rfl); (case ht => intro _; with_unfolding_all rfl); intro ti'))
theorem hitMake {prog : Program} {w : World} {fh dd fs cs c1 c2 : Addr} {fdh : FuncData} {od o1 o2 : Obj} {q' : Str} {sc : Scope} {clos : List (Str × Addr)} {doc pm ctv : Value} {x1 x2 : Str} {p1 p2 p3 : Pos} {kk : Nat} {i j : Int} {t u : Tok}
    (hod : DictIs od (fun x => if x = "span" then some (.ref fs) else none)) (h1 : o1.data = .cell (some (.int i t))) (h2 : o2.data = .cell (some (.int j u))) (l1 : clos.lookup x1 = some c1) (l2 : clos.lookup x2 = some c2)
    (hk : sc.kind = .function) (hco : sc.isCoroutine = false) (hgen : sc.isGenerator = false) (hcells : ∀ L, cellsFrom L sc.names [] = []) (k1 : ∀ q L a cd cl, (envX q sc L a cd cl).kindOf x1 = some .free) (k2 : ∀ q L a cd cl, (envX q sc L a cd cl).kindOf x2 = some .free)
    (d1 : (x1 == ("__debug__" : Str)) = false) (n1 : (x1 == ("__classdict__" : Str)) = false) (d2 : (x2 == ("__debug__" : Str)) = false) (n2 : (x2 == ("__classdict__" : Str)) = false) :
    Hit prog w fh i j [(fh, { cls := .type "function", dict := some dd, data := .func fdh }), (dd, od), (fs, kdv_obj "<lambda>" q' ⟨[], [], none, [], [], none, []⟩ (.expr (.Tuple [.Name x1 p1, .Name x2 p2] kk p3)) sc clos .none doc pm cs ctv), (c1, o1), (c2, o2)] [cs] := by
  refine ⟨dd, fdh, od, _, fs, _, .head _, .tail _ (.head _), hod, if_pos rfl, .tail _ (.tail _ (.head _)), fun g Hg lim => ?_⟩
  have N1 : NT o1 := NF.nt fun vs e => by rw [h1] at e; cases e
  have N2 : NT o2 := NF.nt fun vs e => by rw [h2] at e; cases e
  refine Calls.enter (binds := []) (Hg.obj _ (.tail _ (.tail _ (.head _)))) rfl (Hg.code _ (.head _)).rec' lim (fun s₀ t => BindsTo.of_eq rfl) ?_ rfl rfl hco hgen
  intro A s₀ t q L h₁ hr F
  rw [show cellsFrom (L + 1) (kdv_fn "<lambda>" q' ⟨[], [], none, [], [], none, []⟩ (.expr (.Tuple [.Name x1 p1, .Name x2 p2] kk p3)) sc clos .none doc pm (.ref cs) ctv).scope.names [] = [] from hcells _] at F ⊢
  refine ⟨h₁, t, rfl, F.keep, fun A hr => ?_⟩
  replace F := (F.recall (Hg.obj (c1, o1) (by simp)) N1).recall (Hg.obj (c2, o2) (by simp)) N2
  show wpAny _ _ (eval (.Tuple [.Name x1 p1, .Name x2 p2] kk p3) (envX q sc L fs (.ref cs) clos)) _ _ _
  refine Tuple_ ?_
  walk_at "go"
  refine ldF l1 (F.get (a := c1) (o := o1) (by simp)) h1 ?_ hk (k1 ..) d1 n1
  walk_at "go"
  refine ldF l2 (F.get (a := c2) (o := o2) (by simp)) h2 ?_ hk (k2 ..) d2 n2
  walk_at "go"
  refine tupG F fun b h' hb k' eb F' => ?_
  exact Ret.mk F'.keep ⟨b, _, _, rfl, F.keep.gone hb, eb⟩
theorem New.cons {h h' : Heap} {a : Addr} {o : Obj} {N : List (Addr × Obj)} (e : h'.get? a = some o) (n : NT o) (g : h.get? a = none) (x : New h h' N) : New h h' ((a, o) :: N) := fun p hp => by
  rcases List.mem_cons.mp hp with rfl | hp
  · exact ⟨e, n, g⟩
  · exact x p hp
theorem hitPost {prog : Program} {w : World} {h hp : Heap} {L : Addr} {m : Str → Option Value} {U T : List (Addr × Obj)} {C : List Addr} {fh dd fs cs c1 c2 : Addr} {fdh : FuncData} {od o1 o2 : Obj} {q' : Str} {sc : Scope} {clos : List (Str × Addr)} {doc pm ctv : Value} {x1 x2 : Str} {p1 p2 p3 : Pos} {kk : Nat} {i j : Int} {t u : Tok}
    (F : Fn h L m ((fh, { cls := .type "function", dict := some dd, data := .func fdh }) :: (dd, od) :: U) ((fs, kdv_obj "<lambda>" q' ⟨[], [], none, [], [], none, []⟩ (.expr (.Tuple [.Name x1 p1, .Name x2 p2] kk p3)) sc clos .none doc pm cs ctv) :: T) (cs :: C) hp)
    (hfs : h.get? fs = none) (m1 : (c1, o1) ∈ T) (z1 : h.get? c1 = none) (m2 : (c2, o2) ∈ T) (z2 : h.get? c2 = none)
    (hod : DictIs od (fun x => if x = "span" then some (.ref fs) else none)) (h1 : o1.data = .cell (some (.int i t))) (h2 : o2.data = .cell (some (.int j u))) (l1 : clos.lookup x1 = some c1) (l2 : clos.lookup x2 = some c2)
    (hk : sc.kind = .function) (hco : sc.isCoroutine = false) (hgen : sc.isGenerator = false) (hcells : ∀ L, cellsFrom L sc.names [] = []) (k1 : ∀ q L a cd cl, (envX q sc L a cd cl).kindOf x1 = some .free) (k2 : ∀ q L a cd cl, (envX q sc L a cd cl).kindOf x2 = some .free)
    (d1 : (x1 == ("__debug__" : Str)) = false) (n1 : (x1 == ("__classdict__" : Str)) = false) (d2 : (x2 == ("__debug__" : Str)) = false) (n2 : (x2 == ("__classdict__" : Str)) = false) :
    SearchPost prog w (some (i, j)) h (.ref fh) hp :=
  ⟨fh, _, [cs], rfl, New.cons (F.getU (.head _)) (NF.nt nofun) (F.newU _ (.head _)).2.2 (New.cons (F.getU (.tail _ (.head _))) hod.nf.nt (F.newU _ (.tail _ (.head _))).2.2
    (New.cons (F.get (.head _)) (NF.nt nofun) hfs (New.cons (F.get (.tail _ m1)) (NF.nt fun vs e => by rw [h1] at e; cases e) z1 (New.cons (F.get (.tail _ m2)) (NF.nt fun vs e => by rw [h2] at e; cases e) z2 (New.nil _ _))))),
    fun c hc => by rw [List.mem_singleton.mp hc]; exact F.codes _ (.head _), hitMake hod h1 h2 l1 l2 hk hco hgen hcells k1 k2 d1 n1 d2 n2⟩
theorem progFin {prog : Program} {w : World} {h hp : Heap} {L : Addr} {m : Str → Option Value} {U T N' : List (Addr × Obj)} {C Cs : List Addr} {fp dd f : Addr} {fdp fg : FuncData} {od : Obj}
    (F : Fn h L m ((fp, { cls := .type "function", dict := some dd, data := .func fdp }) :: (dd, od) :: U) T C hp) (hod : DictIs od (fun x => if x = "search" then some (.ref f) else none))
    (hN' : New h hp N') (hf : (f, ({ cls := .type "function", data := .func fg } : Obj)) ∈ N') :
    ∃ N, New h hp N ∧ (∀ q ∈ N', q ∈ N) ∧ ∀ {G : Heap → Prop} {d : Nat} {x : Value} {S : Int → Option (Int × Int)} {R : List (Addr × Obj)}, (∀ q ∈ N, q ∈ R) →
      (∀ g, Has R Cs g → G g → Mine.Calls prog w d (.ref f) ⟨[x], []⟩ g (SearchPost prog w (S 0) g)) → (∀ k t g, 0 ≤ k → Has R Cs g → G g → Mine.Calls prog w d (.ref f) ⟨[x, .int k t], []⟩ g (SearchPost prog w (S k) g)) → Prog prog w G d x S fp R Cs :=
  ⟨(fp, _) :: (dd, od) :: N', New.cons (F.getU (.head _)) (NF.nt nofun) (F.newU _ (.head _)).2.2 (New.cons (F.getU (.tail _ (.head _))) hod.nf.nt (F.newU _ (.tail _ (.head _))).2.2 hN'), fun q hq => .tail _ (.tail _ hq),
    fun hR h1 h2 => ⟨dd, fdp, od, _, f, fg, hR _ (.head _), hR _ (.tail _ (.head _)), hod, if_pos rfl, hR _ (.tail _ (.tail _ hf)), h1, h2⟩⟩

end Mine

end

section
open PySem PySem.W PySem.Calls PyProof.Rows
open PySem PySem.W PySem.Calls PyProof.Rows
namespace Mine
variable [Base]
set_option maxRecDepth 100000
set_option maxHeartbeats 4000000
local macro_rules | `(tactic| walk_at "hv") => `(tactic| first | rfl | assumption)
local macro_rules | `(tactic| walk_at "dec") => `(tactic| first | rfl | assumption | exact decide_eq_true (by omega) | exact decide_eq_false (by omega))
local macro_rules | `(tactic| walk_at "go0") => `(tactic| first
  | with_reducible refine wpAny_execs_nil ?_
  | with_reducible refine wpAny_If ?_
  | ((with_reducible refine ite_f ?hdec ?_); (case hdec => walk_at "dec"))
  | ((with_reducible refine ite_t ?hdec ?_); (case hdec => walk_at "dec"))
  | ((with_reducible refine wpAny_isTrue_Compare1 ?_ ?hm); (case hm => with_unfolding_all rfl))
  | with_reducible refine isTrue_and ?_
  | with_reducible refine isTrue_and_nil ?_
  | with_reducible refine isTrue_or ?_
  | with_reducible refine isTrue_or_nil ?_
  | with_reducible refine isTrue_not ?_
  | ((with_reducible refine isTrue_plain ?_ ?he); (case he => rfl))
  | ((with_reducible refine wpAny_Assign_Name ?_ ?hs); (case hs => rfl))
  | with_reducible refine wpAny_AugAssign_Name ?_
  | with_reducible refine wpAny_Return_some ?_
  | with_reducible refine wpAny_BinOp ?_
  | ((with_reducible refine wpAny_Compare1 ?_ ?hm); (case hm => with_unfolding_all rfl))
  | with_reducible refine IfExp_ ?_
  | with_reducible refine UnaryOp_ ?_
  | with_reducible refine Subscript_ ?_
  | ((with_reducible refine' ldL ?F ?hv ?_ ?hk ?hx ?hd); (case F => assumption); (case hk => rfl); (case hx => rfl); (case hd => decide); (case hv => walk_at "hv"))
  | ((with_reducible refine' ldnL ?F ?hv ?_ ?hk ?hx); (case F => assumption); (case hk => rfl); (case hx => rfl); (case hv => walk_at "hv"))
  | ((with_reducible refine' stL ?F ?_ ?hk ?hx); (case F => assumption); (case hk => rfl); (case hx => rfl); intro h' t' F')
  | ((with_reducible refine' ldG ?F ?G ?hv ?_ ?hk ?hx ?hd); (case F => assumption); (case G => assumption); (case hk => rfl); (case hx => rfl); (case hd => decide); (case hv => assumption))
  | ((with_reducible refine' ldB ?F ?G ?hn ?hv ?_ ?hk ?hx ?hd); (case F => assumption); (case G => assumption); (case hk => rfl); (case hx => rfl); (case hd => decide); (case hn => assumption); (case hv => assumption))
  | ((with_reducible refine cInt ?_); intro _ _)
  | ((with_reducible refine cStr ?_); intro _ _)
  | with_reducible refine Constant_none ?_
  | with_reducible refine Constant_bool ?_
  | ((with_reducible refine addI ?_); intro _ _)
  | ((with_reducible refine subI ?_); intro _ _)
  | ((with_reducible refine modI ?hb ?_); (case hb => decide); intro _ _)
  | ((with_reducible refine fdivI ?hb ?hs ?_); (case hb => decide); (case hs => decide); intro _ _)
  | with_reducible refine PyProof.Rows.lt_int ?_
  | with_reducible refine PyProof.Rows.le_int ?_
  | with_reducible refine PyProof.Rows.gt_int ?_
  | with_reducible refine PyProof.Rows.ge_int ?_
  | with_reducible refine PyProof.Rows.eq_int ?_
  | with_reducible refine PyProof.Rows.ne_int ?_
  | ((with_reducible refine iaddI ?_); intro _ _)
  | ((with_reducible refine negI ?_); intro _ _)
  | with_reducible refine SliceG_ ?_
  | with_reducible refine evN ?_
  | with_reducible refine evS ?_
  | ((with_reducible refine' newSliceG ?F ?_); (case F => assumption); intro sl' hs' _ Fs')
  | with_reducible refine wpAny_truthy_bool ?_
  | with_reducible refine is_none_none ?_
  | with_reducible refine is_ref_none ?_
  | with_reducible refine is_int_none ?_
  | with_reducible refine isnot_none_none ?_
  | with_reducible refine isnot_ref_none ?_
  | ((with_reducible refine' MethodCall_ ?_ ?he); (case he => rfl))
  | ((with_reducible refine Call_ ?_ ?he); (case he => rfl))
  | with_reducible refine wpAny_Call_Name_kw ?_
  | ((with_reducible refine Assign_Tuple ?_ ?hs ?hw); (case hs => rfl); (case hw => rfl))
  | ((with_reducible refine plainObj_wpAny_Assign_Attribute ?_ ?hs); (case hs => rfl))
  | with_reducible refine truthy_none ?_
  | with_reducible refine wpAny_Break ?_
  | ((with_reducible refine callWith_builtin1 ?_ ?he ?hp); (case he => rfl); (case hp => rfl))
  | ((with_reducible refine args_cons ?_ ?he); (case he => rfl))
  | with_reducible refine args_nil ?_
  | ((with_reducible refine callWith_type1 ?_ ?he ?hp); (case he => rfl); (case hp => rfl))
  | ((with_reducible refine' rng2 ?F ?_); (case F => assumption); intro R' ta' tb' tc' h' t' hR' F')
  | ((with_reducible refine' rng1 ?F ?_); (case F => assumption); intro R' ta' tb' tc' h' t' hR' F')
  | ((with_reducible refine wpAny_For ?_ ?hs); (case hs => intro _; rfl))
  | ((with_reducible refine wpAny_Expr ?_ ?hi ?hs); (case hi => rfl); (case hs => rfl))
  | with_reducible refine List_ ?_
  | with_reducible refine Tuple_ ?_
  | ((with_reducible refine' appendM ?ho ?hc ?hd ?_); (case ho => walk_at "get"); (case hc => rfl); (case hd => rfl))
  | ((with_reducible refine callWith_method1 ?_ ?he ?hp); (case he => rfl); (case hp => rfl))
  | ((with_reducible refine' maxG ?F ?hh ?_); (case F => assumption); (case hh => assumption); intro v' h' t' F')
  | ((with_reducible refine' minG ?F ?hh ?_); (case F => assumption); (case hh => assumption); intro v' h' t' F')
  | with_reducible refine PySem.EqNone.ne_none_none ?_
  | with_reducible refine BoolOp_and ?_
  | with_reducible refine BoolOp_one ?_
  | with_reducible refine PyProof.Rows.ne_bool ?_
  | ((with_reducible refine PyProof.Rows.isTrue_chain ?_ ?hm); (case hm => with_unfolding_all rfl))
  | with_reducible refine PyProof.Rows.test_link ?_
  | with_reducible refine PyProof.Rows.test_last ?_
  | dsimp only)
local macro_rules | `(tactic| walk_at "go1") => `(tactic| first | with_reducible refine wpAny_execs_cons ?_ | walk_at "go0")
local macro_rules | `(tactic| walk_at "go") => `(tactic| repeat (walk_at "go1"))
local macro_rules | `(tactic| walk_at "gs") => `(tactic| repeat (walk_at "go0"))
local macro_rules | `(tactic| walk_at "mem") => `(tactic| first | exact List.Mem.head _ | assumption | exact List.Mem.tail _ (List.Mem.head _) | exact List.Mem.tail _ (List.Mem.tail _ (List.Mem.head _)) | exact List.Mem.tail _ (List.Mem.tail _ (List.Mem.tail _ (List.Mem.head _))) | (simp; done))
local macro_rules | `(tactic| walk_at "get") => `(tactic| first | exact Fn.get (by assumption) (by walk_at "mem") | exact Fn.getU (by assumption) (by walk_at "mem"))
local macro_rules | `(tactic| walk_at "len") => `(tactic| ((with_reducible refine' lenL ?ho ?hb ?_); (case ho => walk_at "get"); (case hb => first | assumption | omega); intro tl' ul'))
local macro_rules | `(tactic| walk_at "item") => `(tactic| ((with_reducible refine' itemI ?ho ?hi ?h0 ?h1 ?hb ?_ ?hs ?ht); (case ho => walk_at "get"); (case hi => assumption); (case h0 => omega); (case h1 => omega); (case hb => first | assumption | omega); (case hs => with_unfolding_all rfl); (case ht => intro _; with_unfolding_all rfl); intro ti'))
local macro_rules | `(tactic| walk_at "itemV") => `(tactic| ((with_reducible refine' itemV ?ho ?h0 ?h1 ?hb ?_ ?hs ?ht); (case ho => walk_at "get"); (case h0 => omega); (case h1 => omega); (case hb => first | assumption | omega); (case hs => with_unfolding_all rfl); (case ht => intro _; with_unfolding_all rfl)))
local macro_rules | `(tactic| walk_at "last") => `(tactic| ((with_reducible refine' itemLast ?ho ?hi ?h1 ?hb ?_ ?hs ?ht); (case ho => walk_at "get"); (case hi => assumption); (case h1 => omega); (case hb => omega); (case hs => with_unfolding_all rfl); (case ht => intro _; with_unfolding_all rfl); intro ti'))
section
variable {prog : Program} {w : World} {A : Around} {E : Value → Shared → Prop} {hp : Heap} {g : Array GenState} {dr : Drawn} {tk : Nat} {os : OsState} {h₀ : Heap} {L : Addr} {m : Str → Option Value} {U T : List (Addr × Obj)} {C : List Addr}
theorem addL {l b : Addr} {vs ws : List Value} {n n2 : Nat} {Q : Value → Shared → Prop} (F : Fn h₀ L m U T C hp) (ho : hp.get? l = some (listOf vs.toArray n)) (ho2 : hp.get? b = some (listOf ws.toArray n2))
    (h : ∀ r h', hp.get? r = none → Fn h₀ L m U ((r, listOf (vs ++ ws).toArray 0) :: T) C h' → Q (.ref r) ⟨h', g, dr, tk, os⟩) (hsz : vs.length + ws.length ≤ sizeLine) :
    wpAny (model prog w) A (binaryOp .Add (.ref l) (.ref b)) Q E ⟨hp, g, dr, tk, os⟩ := by
  refine concat_meets ⟨_, ho, rfl⟩ ⟨_, ho2, rfl⟩ noFill_list_add seq_list_add PySem.F.slot_list_add PySem.F.entry_list_add (PySem.F.args_list_add_2 _ _) (list_addW l b vs.toArray ws.toArray n n2 none none #[] #[] (by simpa using hsz)) ⟨ho, ho2, ?_⟩
  have z := F.pushT (listOf (vs ++ ws).toArray 0) rfl (NF.nt nofun)
  rw [show vs.toArray ++ ws.toArray = (vs ++ ws).toArray by simp]
  exact h _ _ (get_size _) z
theorem rep_one (c : Nat) : ∀ (n : Nat) (acc : Array Nat), (List.replicate n #[c]).foldl (· ++ ·) acc = acc ++ (List.replicate n c).toArray
  | 0, acc => by simp
  | n + 1, acc => by
    rw [List.replicate_succ, List.foldl_cons, rep_one c n]
    apply Array.toList_inj.mp
    simp [List.replicate_succ]
/-- 'c' * n -/
theorem mulS {c : Nat} {n : Nat} {t u : Tok} {Q : Value → Shared → Prop} (hn : n ≤ 16777216) (h : ∀ t u, Q (.str ⟨(List.replicate n c).toArray⟩ t) ⟨hp, g, dr, u, os⟩) :
    wpAny (model prog w) A (binaryOp .Mult (.str ⟨#[c]⟩ t) (.int n u)) Q E ⟨hp, g, dr, tk, os⟩ := by
  have hlen : (⟨#[c]⟩ : Str).length = 1 := rfl
  refine P.mul_str (by rw [decide_eq_false (by omega), decide_eq_false (by omega)]; rfl) (fun h1 h2 => ?_) (fun h1 h2 => ?_) ?_
  · rw [hlen]
    have : (1 : Int) ≤ (2 ^ 63 - 1) / n := by
      rw [Int.le_ediv_iff_mul_le (by omega)]; omega
    omega
  · rw [hlen]
    show decide (_ > sizeLine) = false
    exact decide_eq_false (by show ¬ _ > 16777216; omega)
  · split
    · have : n = 0 := by omega
      subst this
      exact ⟨by decide, h _ _⟩
    · split
      · rename_i h1 h2
        have : (n : Int) = 1 := by simpa [hlen] using h2
        have : n = 1 := by omega
        subst this
        exact h _ _
      · have e := rep_one c n #[]
        rw [Array.empty_append] at e
        show (Made.str _).post Q _
        rw [show (List.foldl (fun x1 x2 => x1 ++ x2) #[] (List.replicate (n : Int).toNat #[c])) = (List.replicate n c).toArray from e]
        exact ⟨by show (List.replicate n c).toArray.size ≤ 16777216; simp; omega, h _ _⟩
theorem neTT {a b : Addr} {i j i' j' : Int} {t u t' u' : Tok} {s : Shared} {Q : Value → Shared → Prop} (ha : s.heap.get? a = some (kdv_tup [.int i t, .int j u])) (hb : s.heap.get? b = some (kdv_tup [.int i' t', .int j' u'])) (hu : A.units < cLine)
    (h : Q (.bool (!(i == i' && j == j'))) s) : wpAny (model prog w) A (compareOp .NotEq (.ref a) (.ref b)) Q E s := by
  refine EqBoolInt.of_rcne (SeqAt.RcNeAt.tuples (e := fun k => if k = 0 then i == i' else j == j') ⟨_, ha, rfl, 0, rfl⟩ ⟨_, hb, rfl, 0, rfl⟩ hu fun k h1 h2 => ?_) ?_
  · match k, h1, h2 with
    | 0, _, _ => exact SeqAt.EqAt.int_int i t i' t'
    | 1, _, _ => exact SeqAt.EqAt.int_int j u j' u'
  · simpa [List.range, List.range.loop] using h
theorem neLL {a b : Addr} {vs ws : List Value} {xs : List Int} {n k : Nat} {s : Shared} {Q : Value → Shared → Prop} (ha : s.heap.get? a = some (listOf vs.toArray n)) (hb : s.heap.get? b = some (listOf ws.toArray k)) (hv : IntsAre vs xs) (hw : IntsAre ws xs) (hu : A.units < cLine)
    (h : Q (.bool false) s) : wpAny (model prog w) A (compareOp .NotEq (.ref a) (.ref b)) Q E s := by
  have l1 := hv.length
  have l2 := hw.length
  refine EqBoolInt.of_rcne (SeqAt.RcNeAt.lists (e := fun _ => true) ⟨_, ha, rfl, n, rfl⟩ ⟨_, hb, rfl, k, rfl⟩ (by simp; omega) hu fun j h1 h2 => ?_) (by rw [show (List.range vs.toArray.size).all (fun _ => true) = true from List.all_eq_true.mpr fun _ _ => rfl]; exact h)
  obtain ⟨t1, e1⟩ := ints_at hv (j := j) (by simp at h1; omega)
  obtain ⟨t2, e2⟩ := ints_at hw (j := j) (by simp at h2; omega)
  have := SeqAt.EqAt.int_int (A := A.in1) (s := s) (xs.getD j 0) t1 (xs.getD j 0) t2
  rw [beq_self_eq_true] at this
  have f1 : vs.toArray[j] = .int (xs.getD j 0) t1 := by simpa [List.getElem?_eq_some_iff] using (List.getElem?_eq_some_iff.mp e1).2
  have f2 : ws.toArray[j] = .int (xs.getD j 0) t2 := by simpa [List.getElem?_eq_some_iff] using (List.getElem?_eq_some_iff.mp e2).2
  rw [f1, f2]; exact this
theorem callDef {p : Program} {i : Nat} {f : Addr} {dV kV : Value} {c : Addr} {pos : Pos} {e : Expr} {rest : List Expr} {env : Env} {s : Shared} {Q : Value → Shared → Prop} (D : IsDef p i h₀ f dV kV c)
    (h : wpAny (model prog w) A (spliced (backTo pos (starEach (e :: rest) env))) (fun vs s₁ => Keep h₀ s₁.heap ∧ wpAny (model prog w) A (call (.ref f) vs) Q E s₁) E s)
    (he : starEach (e :: rest) env = (false, eval e env) :: starEach rest env := by rfl) :
    wpAny (model prog w) A (callWith pos (.ref f) [] (backTo pos (starEach (e :: rest) env)) []) Q E s := by
  obtain ⟨nb, qb, docb, pmb, anb, ctb, ocb, odb, oslb, eb⟩ := D
  exact callWith_def (o := ⟨ocb, odb, _, oslb⟩) rfl (wpAny_mono h (fun vs s₁ h₁ => ⟨h₁.1.obj _ _ eb (NF.nt nofun), h₁.2⟩) fun _ _ x => x) he
end

end Mine

end

section
open PySem PySem.W PySem.Calls PyProof.Rows
namespace Mine
abbrev pw1 : PySem.Program := PySem.Challenge.pw_pg0091_01
end Mine

end

section
open PySem PySem.W PySem.Calls PyProof.Rows
open PySem PySem.W PySem.Calls PyProof.Rows
namespace Mine
variable [Base]
set_option maxRecDepth 100000
set_option maxHeartbeats 4000000
local macro_rules | `(tactic| walk_at "hv") => `(tactic| first | rfl | assumption)
local macro_rules | `(tactic| walk_at "dec") => `(tactic| first | rfl | assumption | exact decide_eq_true (by omega) | exact decide_eq_false (by omega))
local macro_rules | `(tactic| walk_at "go0") => `(tactic| first
  | with_reducible refine wpAny_execs_nil ?_
  | with_reducible refine wpAny_If ?_
  | ((with_reducible refine ite_f ?hdec ?_); (case hdec => walk_at "dec"))
  | ((with_reducible refine ite_t ?hdec ?_); (case hdec => walk_at "dec"))
  | ((with_reducible refine wpAny_isTrue_Compare1 ?_ ?hm); (case hm => with_unfolding_all rfl))
  | with_reducible refine isTrue_and ?_
  | with_reducible refine isTrue_and_nil ?_
  | with_reducible refine isTrue_or ?_
  | with_reducible refine isTrue_or_nil ?_
  | with_reducible refine isTrue_not ?_
  | ((with_reducible refine isTrue_plain ?_ ?he); (case he => rfl))
  | ((with_reducible refine wpAny_Assign_Name ?_ ?hs); (case hs => rfl))
  | with_reducible refine wpAny_AugAssign_Name ?_
  | with_reducible refine wpAny_Return_some ?_
  | with_reducible refine wpAny_BinOp ?_
  | ((with_reducible refine wpAny_Compare1 ?_ ?hm); (case hm => with_unfolding_all rfl))
  | with_reducible refine IfExp_ ?_
  | with_reducible refine UnaryOp_ ?_
  | with_reducible refine Subscript_ ?_
  | ((with_reducible refine' ldL ?F ?hv ?_ ?hk ?hx ?hd); (case F => assumption); (case hk => rfl); (case hx => rfl); (case hd => decide); (case hv => walk_at "hv"))
  | ((with_reducible refine' ldnL ?F ?hv ?_ ?hk ?hx); (case F => assumption); (case hk => rfl); (case hx => rfl); (case hv => walk_at "hv"))
  | ((with_reducible refine' stL ?F ?_ ?hk ?hx); (case F => assumption); (case hk => rfl); (case hx => rfl); intro h' t' F')
  | ((with_reducible refine' ldG ?F ?G ?hv ?_ ?hk ?hx ?hd); (case F => assumption); (case G => assumption); (case hk => rfl); (case hx => rfl); (case hd => decide); (case hv => assumption))
  | ((with_reducible refine' ldB ?F ?G ?hn ?hv ?_ ?hk ?hx ?hd); (case F => assumption); (case G => assumption); (case hk => rfl); (case hx => rfl); (case hd => decide); (case hn => assumption); (case hv => assumption))
  | ((with_reducible refine cInt ?_); intro _ _)
  | ((with_reducible refine cStr ?_); intro _ _)
  | with_reducible refine Constant_none ?_
  | with_reducible refine Constant_bool ?_
  | ((with_reducible refine addI ?_); intro _ _)
  | ((with_reducible refine subI ?_); intro _ _)
  | ((with_reducible refine modI ?hb ?_); (case hb => decide); intro _ _)
  | ((with_reducible refine fdivI ?hb ?hs ?_); (case hb => decide); (case hs => decide); intro _ _)
  | with_reducible refine PyProof.Rows.lt_int ?_
  | with_reducible refine PyProof.Rows.le_int ?_
  | with_reducible refine PyProof.Rows.gt_int ?_
  | with_reducible refine PyProof.Rows.ge_int ?_
  | with_reducible refine PyProof.Rows.eq_int ?_
  | with_reducible refine PyProof.Rows.ne_int ?_
  | ((with_reducible refine iaddI ?_); intro _ _)
  | ((with_reducible refine negI ?_); intro _ _)
  | with_reducible refine SliceG_ ?_
  | with_reducible refine evN ?_
  | with_reducible refine evS ?_
  | ((with_reducible refine' newSliceG ?F ?_); (case F => assumption); intro sl' hs' _ Fs')
  | with_reducible refine wpAny_truthy_bool ?_
  | with_reducible refine is_none_none ?_
  | with_reducible refine is_ref_none ?_
  | with_reducible refine is_int_none ?_
  | with_reducible refine isnot_none_none ?_
  | with_reducible refine isnot_ref_none ?_
  | ((with_reducible refine' MethodCall_ ?_ ?he); (case he => rfl))
  | ((with_reducible refine Call_ ?_ ?he); (case he => rfl))
  | with_reducible refine wpAny_Call_Name_kw ?_
  | ((with_reducible refine Assign_Tuple ?_ ?hs ?hw); (case hs => rfl); (case hw => rfl))
  | ((with_reducible refine plainObj_wpAny_Assign_Attribute ?_ ?hs); (case hs => rfl))
  | with_reducible refine truthy_none ?_
  | with_reducible refine wpAny_Break ?_
  | ((with_reducible refine callWith_builtin1 ?_ ?he ?hp); (case he => rfl); (case hp => rfl))
  | ((with_reducible refine args_cons ?_ ?he); (case he => rfl))
  | with_reducible refine args_nil ?_
  | ((with_reducible refine callWith_type1 ?_ ?he ?hp); (case he => rfl); (case hp => rfl))
  | ((with_reducible refine' rng2 ?F ?_); (case F => assumption); intro R' ta' tb' tc' h' t' hR' F')
  | ((with_reducible refine' rng1 ?F ?_); (case F => assumption); intro R' ta' tb' tc' h' t' hR' F')
  | ((with_reducible refine wpAny_For ?_ ?hs); (case hs => intro _; rfl))
  | ((with_reducible refine wpAny_Expr ?_ ?hi ?hs); (case hi => rfl); (case hs => rfl))
  | with_reducible refine List_ ?_
  | with_reducible refine Tuple_ ?_
  | ((with_reducible refine' appendM ?ho ?hc ?hd ?_); (case ho => walk_at "get"); (case hc => rfl); (case hd => rfl))
  | ((with_reducible refine callWith_method1 ?_ ?he ?hp); (case he => rfl); (case hp => rfl))
  | ((with_reducible refine' maxG ?F ?hh ?_); (case F => assumption); (case hh => assumption); intro v' h' t' F')
  | ((with_reducible refine' minG ?F ?hh ?_); (case F => assumption); (case hh => assumption); intro v' h' t' F')
  | with_reducible refine PySem.EqNone.ne_none_none ?_
  | with_reducible refine BoolOp_and ?_
  | with_reducible refine BoolOp_one ?_
  | with_reducible refine PyProof.Rows.ne_bool ?_
  | ((with_reducible refine PyProof.Rows.isTrue_chain ?_ ?hm); (case hm => with_unfolding_all rfl))
  | with_reducible refine PyProof.Rows.test_link ?_
  | with_reducible refine PyProof.Rows.test_last ?_
  | dsimp only)
local macro_rules | `(tactic| walk_at "go1") => `(tactic| first | with_reducible refine wpAny_execs_cons ?_ | walk_at "go0")
local macro_rules | `(tactic| walk_at "go") => `(tactic| repeat (walk_at "go1"))
local macro_rules | `(tactic| walk_at "gs") => `(tactic| repeat (walk_at "go0"))
local macro_rules | `(tactic| walk_at "mem") => `(tactic| first | exact List.Mem.head _ | assumption | exact List.Mem.tail _ (List.Mem.head _) | exact List.Mem.tail _ (List.Mem.tail _ (List.Mem.head _)) | exact List.Mem.tail _ (List.Mem.tail _ (List.Mem.tail _ (List.Mem.head _))) | (simp; done))
local macro_rules | `(tactic| walk_at "get") => `(tactic| first | exact Fn.get (by assumption) (by walk_at "mem") | exact Fn.getU (by assumption) (by walk_at "mem"))
local macro_rules | `(tactic| walk_at "len") => `(tactic| ((with_reducible refine' lenL ?ho ?hb ?_); (case ho => walk_at "get"); (case hb => first | assumption | omega); intro tl' ul'))
local macro_rules | `(tactic| walk_at "item") => `(tactic| ((with_reducible refine' itemI ?ho ?hi ?h0 ?h1 ?hb ?_ ?hs ?ht); (case ho => walk_at "get"); (case hi => assumption); (case h0 => omega); (case h1 => omega); (case hb => first | assumption | omega); (case hs => with_unfolding_all rfl); (case ht => intro _; with_unfolding_all rfl); intro ti'))
local macro_rules | `(tactic| walk_at "itemV") => `(tactic| ((with_reducible refine' itemV ?ho ?h0 ?h1 ?hb ?_ ?hs ?ht); (case ho => walk_at "get"); (case h0 => omega); (case h1 => omega); (case hb => first | assumption | omega); (case hs => with_unfolding_all rfl); (case ht => intro _; with_unfolding_all rfl)))
local macro_rules | `(tactic| walk_at "last") => `(tactic| ((with_reducible refine' itemLast ?ho ?hi ?h1 ?hb ?_ ?hs ?ht); (case ho => walk_at "get"); (case hi => assumption); (case h1 => omega); (case hb => omega); (case hs => with_unfolding_all rfl); (case ht => intro _; with_unfolding_all rfl); intro ti'))
def Sorted (xs : List Int) : Prop := ∀ i j : Nat, i ≤ j → j < xs.length → xs.getD i 0 ≤ xs.getD j 0
/-- r is the place that bisect_right tells -/
def BrAt (xs : List Int) (x r : Int) : Prop := 0 ≤ r ∧ r ≤ xs.length ∧ (∀ i : Nat, (i : Int) < r → xs.getD i 0 ≤ x) ∧ ∀ i : Nat, r ≤ i → i < xs.length → x < xs.getD i 0
/-- r is the place that bisect_left tells -/
def BlAt (xs : List Int) (x r : Int) : Prop := 0 ≤ r ∧ r ≤ xs.length ∧ (∀ i : Nat, (i : Int) < r → xs.getD i 0 < x) ∧ ∀ i : Nat, r ≤ i → i < xs.length → x ≤ xs.getD i 0
abbrev KDr (t t' : Tok) (hs : Int) : Frag := [(22, kdv_tup [.int 0 t, .none]), (23, { cls := .type "dict", data := .dict #[⟨hs, .str "key" t', .none⟩] 1 })]
abbrev KDl (t t' : Tok) (hs : Int) : Frag := [(31, kdv_tup [.int 0 t, .none]), (32, { cls := .type "dict", data := .dict #[⟨hs, .str "key" t', .none⟩] 1 })]

theorem br_spec {prog : Program} {w : World} {h : Heap} {fa a c : Addr} {vs : List Value} {xs : List Int} {x hs : Int} {t t' tt : Tok} {n : Nat} {mg mb : Str → Option Value}
    (D : IsDef pw1 3 h fa (.ref 22) (.ref 23) c) (hc : CodeP h c) (G : Gl mg mb h) (X : (KDr t' tt hs).In h) (hlen : mg "len" = none) (hlen' : mb "len" = some (.builtin "len")) (hl : h.get? a = some (listOf vs.toArray n)) (hi : IntsAre vs xs)
    (hsz : xs.length < 2 ^ 62) (hso : Sorted xs) :
    Mine.Calls prog w 3 (.ref fa) ⟨[.ref a, .int x t], []⟩ h (fun v _ => ∃ r t, v = .int r t ∧ BrAt xs x r) := by
  have hsz' : vs.length < 2 ^ 62 := by rw [hi.length]; exact hsz
  have hlv : vs.length = xs.length := hi.length
  refine IsDef.calls (binds := [("a", .ref a), ("x", .int x t), ("lo", .int 0 t'), ("hi", .none), ("key", .none)]) D hc.rec' G.lim (fun name qual doc pm an ct s₀ t => kp_binds (s := St s₀ h t) X fun S => by rfl) rfl (locs rfl) ?_
  intro A s₀ t q L h₁ hr F
  replace F := F.recall hl (NF.nt nofun)
  show wpAny _ _ (execs (_ :: _) _) _ _ _
  walk_at "go"
  walk_at "len"
  walk_at "go"
  rename_i h₂ t₂ F₂
  refine while_G (fun k s => ∃ h' t' m lo hi tl th, s = St s₀ h' t' ∧ Fn h L m [] [(a, listOf vs.toArray n)] [] h' ∧ m "a" = some (.ref a) ∧ (∃ tx, m "x" = some (.int x tx)) ∧ m "lo" = some (.int lo tl) ∧ m "hi" = some (.int hi th) ∧ 0 ≤ lo ∧ lo ≤ hi ∧ hi ≤ xs.length ∧
    (∀ i : Nat, (i : Int) < lo → xs.getD i 0 ≤ x) ∧ (∀ i : Nat, hi ≤ i → i < xs.length → x < xs.getD i 0) ∧ k = (hi - lo).toNat) xs.length ⟨h₂, t₂, _, 0, vs.length, _, _, rfl, F₂, rfl, ⟨_, rfl⟩, rfl, rfl, ?_⟩ ?_
  · rw [hi.length]
    exact ⟨by omega, by omega, by omega, fun i h => by omega, fun i h1 h2 => by omega, by omega⟩
  · rintro k s ⟨h', t', m, lo, hi', tl, th, rfl, F, ma, ⟨tx, mx⟩, mlo, mhi, h0, h1, h2, h3, h4, rfl⟩
    walk_at "go"
    refine split_dec (fun hlt => ?_) (fun hlt => ?_)
    · have hm1 : lo ≤ (lo + hi').fdiv 2 := by have := fdiv_fmod_facts (lo + hi') 2; omega
      have hm2 : (lo + hi').fdiv 2 < hi' := by have := fdiv_fmod_facts (lo + hi') 2; omega
      walk_at "go"
      walk_at "item"
      walk_at "go"
      generalize (lo + hi').fdiv 2 = mid at *
      refine split_dec (fun hx => ?_) (fun hx => ?_)
      · walk_at "go"
        rename_i F₃
        refine ⟨_, ?_, _, _, _, lo, mid, tl, _, rfl, F₃, ma, ⟨_, mx⟩, mlo, rfl, h0, hm1, by omega, h3, fun i hi1 hi2 => ?_, rfl⟩
        · omega
        · exact Int.lt_of_lt_of_le hx (hso _ _ (by omega) hi2)
      · walk_at "go"
        rename_i F₃
        refine ⟨_, ?_, _, _, _, mid + 1, hi', _, th, rfl, F₃, ma, ⟨_, mx⟩, rfl, mhi, by omega, by omega, h2, fun i hi1 => ?_, h4, rfl⟩
        · omega
        · exact Int.le_trans (hso i mid.toNat (by omega) (by omega)) (by omega)
    · walk_at "go"
      exact Ret.mk F.keep ⟨lo, _, rfl, h0, by omega, h3, fun i hi1 hi2 => h4 i (by omega) hi2⟩

theorem blk_spec {prog : Program} {w : World} {h : Heap} {fa a c kf : Addr} {vs : List Value} {ks : List Int} {x hs : Int} {t t' tt : Tok} {n d : Nat} {mg mb : Str → Option Value} {ok : Obj} {fk : FuncData}
    (D : IsDef pw1 4 h fa (.ref 31) (.ref 32) c) (hc : CodeP h c) (G : Gl mg mb h) (X : (KDl t' tt hs).In h) (hlen : mg "len" = none) (hlen' : mb "len" = some (.builtin "len")) (hl : h.get? a = some (listOf vs.toArray n)) (hlv : vs.length = ks.length)
    (hsz' : vs.length < 2 ^ 62) (hso : Sorted ks) (hkf : h.get? kf = some ok) (hkd : ok.data = .func fk)
    (hkey : ∀ (i : Nat) v h', vs[i]? = some v → Keep h h' → Mine.Calls prog w d (.ref kf) ⟨[v], []⟩ h' (fun r _ => ∃ t, r = .int (ks.getD i 0) t)) :
    Mine.Calls prog w (d + 1) (.ref fa) ⟨[.ref a, .int x t], [("key", .ref kf)]⟩ h (fun v _ => ∃ r t, v = .int r t ∧ BlAt ks x r) := by
  refine IsDef.calls (binds := [("a", .ref a), ("x", .int x t), ("lo", .int 0 t'), ("hi", .none), ("key", .ref kf)]) D hc.rec' G.lim (fun name qual doc pm an ct s₀ t => kp_binds (s := St s₀ h t) X fun S => by rfl) rfl (locs rfl) ?_
  intro A s₀ t q L h₁ hr F
  replace F := (F.recall hl (NF.nt nofun)).recall hkf (NF.nt fun vs e => by rw [hkd] at e; cases e)
  show wpAny _ _ (execs (_ :: _) _) _ _ _
  walk_at "go"
  walk_at "len"
  walk_at "go"
  rename_i h₂ t₂ F₂
  refine while_G (fun k s => ∃ h' t' m lo hi tl th, s = St s₀ h' t' ∧ Fn h L m [] [(kf, ok), (a, listOf vs.toArray n)] [] h' ∧ m "a" = some (.ref a) ∧ m "key" = some (.ref kf) ∧ (∃ tx, m "x" = some (.int x tx)) ∧ m "lo" = some (.int lo tl) ∧ m "hi" = some (.int hi th) ∧ 0 ≤ lo ∧ lo ≤ hi ∧ hi ≤ ks.length ∧
    (∀ i : Nat, (i : Int) < lo → ks.getD i 0 < x) ∧ (∀ i : Nat, hi ≤ i → i < ks.length → x ≤ ks.getD i 0) ∧ k = (hi - lo).toNat) ks.length ⟨h₂, t₂, _, 0, vs.length, _, _, rfl, F₂, rfl, rfl, ⟨_, rfl⟩, rfl, rfl, ?_⟩ ?_
  · rw [hlv]
    exact ⟨by omega, by omega, by omega, fun i h => by omega, fun i h1 h2 => by omega, by omega⟩
  · rintro k s ⟨h', t', m, lo, hi', tl, th, rfl, F, ma, mk, ⟨tx, mx⟩, mlo, mhi, h0, h1, h2, h3, h4, rfl⟩
    walk_at "go"
    refine split_dec (fun hlt => ?_) (fun hlt => ?_)
    · have hm1 : lo ≤ (lo + hi').fdiv 2 := by have := fdiv_fmod_facts (lo + hi') 2; omega
      have hm2 : (lo + hi').fdiv 2 < hi' := by have := fdiv_fmod_facts (lo + hi') 2; omega
      walk_at "go"
      rename_i F₃
      refine callWith_def hkd ?_
      walk_at "go"
      walk_at "itemV"
      intro v hv
      walk_at "go"
      refine ⟨F₃.get (.head _), callG (hkey _ v _ hv F₃.keep) hr fun r h₄ t₄ k₄ P₄ => ?_⟩
      obtain ⟨tr, rfl⟩ := P₄
      replace F₃ := F₃.kept k₄
      walk_at "go"
      generalize (lo + hi').fdiv 2 = mid at *
      refine split_dec (fun hx => ?_) (fun hx => ?_)
      · walk_at "go"
        rename_i F₅
        refine ⟨_, ?_, _, _, _, mid + 1, hi', _, th, rfl, F₅, ma, mk, ⟨_, mx⟩, rfl, mhi, by omega, by omega, h2, fun i hi1 => ?_, h4, rfl⟩
        · omega
        · exact Int.lt_of_le_of_lt (hso i mid.toNat (by omega) (by omega)) (by omega)
      · walk_at "go"
        rename_i F₅
        refine ⟨_, ?_, _, _, _, lo, mid, tl, _, rfl, F₅, ma, mk, ⟨_, mx⟩, mlo, rfl, h0, hm1, by omega, h3, fun i hi1 hi2 => ?_, rfl⟩
        · omega
        · exact Int.le_trans (by omega) (hso mid.toNat i (by omega) hi2)
    · walk_at "go"
      exact Ret.mk F.keep ⟨lo, _, rfl, h0, by omega, h3, fun i hi1 hi2 => h4 i (by omega) hi2⟩

end Mine

end

section
open PySem PySem.W PySem.Calls PyProof.Rows
open PySem PySem.W PySem.Calls PyProof.Rows
namespace Mine
variable [Base]
set_option maxRecDepth 100000
set_option maxHeartbeats 4000000
local macro_rules | `(tactic| walk_at "hv") => `(tactic| first | rfl | assumption)
local macro_rules | `(tactic| walk_at "dec") => `(tactic| first | rfl | assumption | exact decide_eq_true (by omega) | exact decide_eq_false (by omega))
local macro_rules | `(tactic| walk_at "go0") => `(tactic| first
  | with_reducible refine wpAny_execs_nil ?_
  | with_reducible refine wpAny_If ?_
  | ((with_reducible refine ite_f ?hdec ?_); (case hdec => walk_at "dec"))
  | ((with_reducible refine ite_t ?hdec ?_); (case hdec => walk_at "dec"))
  | ((with_reducible refine wpAny_isTrue_Compare1 ?_ ?hm); (case hm => with_unfolding_all rfl))
  | with_reducible refine isTrue_and ?_
  | with_reducible refine isTrue_and_nil ?_
  | with_reducible refine isTrue_or ?_
  | with_reducible refine isTrue_or_nil ?_
  | with_reducible refine isTrue_not ?_
  | ((with_reducible refine isTrue_plain ?_ ?he); (case he => rfl))
  | ((with_reducible refine wpAny_Assign_Name ?_ ?hs); (case hs => rfl))
  | with_reducible refine wpAny_AugAssign_Name ?_
  | with_reducible refine wpAny_Return_some ?_
  | with_reducible refine wpAny_BinOp ?_
  | ((with_reducible refine wpAny_Compare1 ?_ ?hm); (case hm => with_unfolding_all rfl))
  | with_reducible refine IfExp_ ?_
  | with_reducible refine UnaryOp_ ?_
  | with_reducible refine Subscript_ ?_
  | ((with_reducible refine' ldL ?F ?hv ?_ ?hk ?hx ?hd); (case F => assumption); (case hk => rfl); (case hx => rfl); (case hd => decide); (case hv => walk_at "hv"))
  | ((with_reducible refine' ldnL ?F ?hv ?_ ?hk ?hx); (case F => assumption); (case hk => rfl); (case hx => rfl); (case hv => walk_at "hv"))
  | ((with_reducible refine' stL ?F ?_ ?hk ?hx); (case F => assumption); (case hk => rfl); (case hx => rfl); intro h' t' F')
  | ((with_reducible refine' ldG ?F ?G ?hv ?_ ?hk ?hx ?hd); (case F => assumption); (case G => assumption); (case hk => rfl); (case hx => rfl); (case hd => decide); (case hv => assumption))
  | ((with_reducible refine' ldB ?F ?G ?hn ?hv ?_ ?hk ?hx ?hd); (case F => assumption); (case G => assumption); (case hk => rfl); (case hx => rfl); (case hd => decide); (case hn => assumption); (case hv => assumption))
  | ((with_reducible refine cInt ?_); intro _ _)
  | ((with_reducible refine cStr ?_); intro _ _)
  | with_reducible refine Constant_none ?_
  | with_reducible refine Constant_bool ?_
  | ((with_reducible refine addI ?_); intro _ _)
  | ((with_reducible refine subI ?_); intro _ _)
  | ((with_reducible refine modI ?hb ?_); (case hb => decide); intro _ _)
  | ((with_reducible refine fdivI ?hb ?hs ?_); (case hb => decide); (case hs => decide); intro _ _)
  | with_reducible refine PyProof.Rows.lt_int ?_
  | with_reducible refine PyProof.Rows.le_int ?_
  | with_reducible refine PyProof.Rows.gt_int ?_
  | with_reducible refine PyProof.Rows.ge_int ?_
  | with_reducible refine PyProof.Rows.eq_int ?_
  | with_reducible refine PyProof.Rows.ne_int ?_
  | ((with_reducible refine iaddI ?_); intro _ _)
  | ((with_reducible refine negI ?_); intro _ _)
  | with_reducible refine SliceG_ ?_
  | with_reducible refine evN ?_
  | with_reducible refine evS ?_
  | ((with_reducible refine' newSliceG ?F ?_); (case F => assumption); intro sl' hs' _ Fs')
  | with_reducible refine wpAny_truthy_bool ?_
  | with_reducible refine is_none_none ?_
  | with_reducible refine is_ref_none ?_
  | with_reducible refine is_int_none ?_
  | with_reducible refine isnot_none_none ?_
  | with_reducible refine isnot_ref_none ?_
  | ((with_reducible refine' MethodCall_ ?_ ?he); (case he => rfl))
  | ((with_reducible refine Call_ ?_ ?he); (case he => rfl))
  | with_reducible refine wpAny_Call_Name_kw ?_
  | ((with_reducible refine Assign_Tuple ?_ ?hs ?hw); (case hs => rfl); (case hw => rfl))
  | ((with_reducible refine plainObj_wpAny_Assign_Attribute ?_ ?hs); (case hs => rfl))
  | with_reducible refine truthy_none ?_
  | with_reducible refine wpAny_Break ?_
  | ((with_reducible refine callWith_builtin1 ?_ ?he ?hp); (case he => rfl); (case hp => rfl))
  | ((with_reducible refine args_cons ?_ ?he); (case he => rfl))
  | with_reducible refine args_nil ?_
  | ((with_reducible refine callWith_type1 ?_ ?he ?hp); (case he => rfl); (case hp => rfl))
  | ((with_reducible refine' rng2 ?F ?_); (case F => assumption); intro R' ta' tb' tc' h' t' hR' F')
  | ((with_reducible refine' rng1 ?F ?_); (case F => assumption); intro R' ta' tb' tc' h' t' hR' F')
  | ((with_reducible refine wpAny_For ?_ ?hs); (case hs => intro _; rfl))
  | ((with_reducible refine wpAny_Expr ?_ ?hi ?hs); (case hi => rfl); (case hs => rfl))
  | with_reducible refine List_ ?_
  | with_reducible refine Tuple_ ?_
  | ((with_reducible refine' appendM ?ho ?hc ?hd ?_); (case ho => walk_at "get"); (case hc => rfl); (case hd => rfl))
  | ((with_reducible refine callWith_method1 ?_ ?he ?hp); (case he => rfl); (case hp => rfl))
  | ((with_reducible refine' maxG ?F ?hh ?_); (case F => assumption); (case hh => assumption); intro v' h' t' F')
  | ((with_reducible refine' minG ?F ?hh ?_); (case F => assumption); (case hh => assumption); intro v' h' t' F')
  | with_reducible refine PySem.EqNone.ne_none_none ?_
  | with_reducible refine BoolOp_and ?_
  | with_reducible refine BoolOp_one ?_
  | with_reducible refine PyProof.Rows.ne_bool ?_
  | ((with_reducible refine PyProof.Rows.isTrue_chain ?_ ?hm); (case hm => with_unfolding_all rfl))
  | with_reducible refine PyProof.Rows.test_link ?_
  | with_reducible refine PyProof.Rows.test_last ?_
  | dsimp only)
local macro_rules | `(tactic| walk_at "go1") => `(tactic| first | with_reducible refine wpAny_execs_cons ?_ | walk_at "go0")
local macro_rules | `(tactic| walk_at "go") => `(tactic| repeat (walk_at "go1"))
local macro_rules | `(tactic| walk_at "gs") => `(tactic| repeat (walk_at "go0"))
local macro_rules | `(tactic| walk_at "mem") => `(tactic| first | exact List.Mem.head _ | assumption | exact List.Mem.tail _ (List.Mem.head _) | exact List.Mem.tail _ (List.Mem.tail _ (List.Mem.head _)) | exact List.Mem.tail _ (List.Mem.tail _ (List.Mem.tail _ (List.Mem.head _))) | (simp; done))
local macro_rules | `(tactic| walk_at "get") => `(tactic| first | exact Fn.get (by assumption) (by walk_at "mem") | exact Fn.getU (by assumption) (by walk_at "mem"))
local macro_rules | `(tactic| walk_at "len") => `(tactic| ((with_reducible refine' lenL ?ho ?hb ?_); (case ho => walk_at "get"); (case hb => first | assumption | omega); intro tl' ul'))
local macro_rules | `(tactic| walk_at "item") => `(tactic| ((with_reducible refine' itemI ?ho ?hi ?h0 ?h1 ?hb ?_ ?hs ?ht); (case ho => walk_at "get"); (case hi => assumption); (case h0 => omega); (case h1 => omega); (case hb => first | assumption | omega); (case hs => with_unfolding_all rfl); (case ht => intro _; with_unfolding_all rfl); intro ti'))
local macro_rules | `(tactic| walk_at "itemV") => `(tactic| ((with_reducible refine' itemV ?ho ?h0 ?h1 ?hb ?_ ?hs ?ht); (case ho => walk_at "get"); (case h0 => omega); (case h1 => omega); (case hb => first | assumption | omega); (case hs => with_unfolding_all rfl); (case ht => intro _; with_unfolding_all rfl)))
local macro_rules | `(tactic| walk_at "last") => `(tactic| ((with_reducible refine' itemLast ?ho ?hi ?h1 ?hb ?_ ?hs ?ht); (case ho => walk_at "get"); (case hi => assumption); (case h1 => omega); (case hb => omega); (case hs => with_unfolding_all rfl); (case ht => intro _; with_unfolding_all rfl); intro ti'))
/-- what is found so far, among the objects known -/
def FoundIs (prog : Program) (w : World) (h : Heap) (T : List (Addr × Obj)) (C : List Addr) (r : Option (Int × Int)) (v : Value) : Prop := match r with
  | none => v = .none
  | some (i, j) => ∃ f N Cs, v = .ref f ∧ (∀ p ∈ N, p ∈ T ∧ NT p.2 ∧ h.get? p.1 = none) ∧ (∀ c ∈ Cs, c ∈ C) ∧ Hit prog w f i j N Cs
theorem FoundIs.mono {prog : Program} {w : World} {h : Heap} {T T' : List (Addr × Obj)} {C C' : List Addr} {r : Option (Int × Int)} {v : Value} (x : FoundIs prog w h T C r v) (hT : ∀ p ∈ T, p ∈ T') (hC : ∀ c ∈ C, c ∈ C') : FoundIs prog w h T' C' r v := by
  cases r with
  | none => exact x
  | some ij => obtain ⟨f, N, Cs, e, a, b, c⟩ := x; exact ⟨f, N, Cs, e, fun p hp => ⟨hT _ (a p hp).1, (a p hp).2⟩, fun c hc => hC _ (b c hc), c⟩
theorem FoundIs.post {prog : Program} {w : World} {h₀ h : Heap} {L : Addr} {m : Str → Option Value} {U T : List (Addr × Obj)} {C : List Addr} {r : Option (Int × Int)} {v : Value} (F : Fn h₀ L m U T C h) (x : FoundIs prog w h₀ T C r v) : SearchPost prog w r h₀ v h := by
  cases r with
  | none => exact x
  | some ij => obtain ⟨f, N, Cs, e, a, b, c⟩ := x; exact ⟨f, N, Cs, e, fun p hp => ⟨F.get (a p hp).1, (a p hp).2⟩, fun c hc => F.codes c (b c hc), c⟩

theorem sr_spec {prog : Program} {w : World} {h : Heap} {fa p c : Addr} {x : Value} {col : Int} {t : Tok} {GF : Heap → Prop} {d : Nat} {S : Int → Option (Int × Int)} {T : List (Addr × Obj)} {C : List Addr} {res : Option (Int × Int)}
    (D : IsDef pw1 1 h fa .none .none c) (hc : CodeP h c) (lim : h.NoLimit) (hG : GF h) (hGk : ∀ h h', Keep h h' → GF h → GF h') (P : Prog prog w GF (d + 2) x S p T C) (H : Has T C h) (hNT : ∀ q ∈ T, NT q.2)
    (hres : match S 0 with | none => res = none | some (i, j) => 0 ≤ i ∧ i ≤ j ∧ ∃ n, SR S col n i j none res) (hS : ∀ k i j, 0 ≤ k → S k = some (i, j) → 0 ≤ i ∧ i ≤ j) :
    Mine.Calls prog w (d + 3) (.ref fa) ⟨[.ref p, x, .int col t], []⟩ h (SearchPost prog w res h) := by
  refine IsDef.calls (binds := [("prog", .ref p), ("chars", x), ("col", .int col t)]) D hc.rec' lim (fun name qual doc pm an ct s₀ t => BindsTo.of_eq rfl) rfl (locs rfl) ?_
  intro A s₀ t' q L h₁ hr F
  have hr' : Room A (d + 2) := hr
  obtain ⟨dd, fd, od, mm, gg, fg, a1, a2, a3, a4, a5, a6, a7⟩ := P.obj
  replace F := (F.recallAll (T' := T) fun q hq => ⟨H.obj q hq, hNT q hq⟩).recallAllC H.code
  rw [List.append_nil, List.append_nil] at F
  show wpAny _ _ (execs (_ :: _) _) _ _ _
  walk_at "go"
  refine getM (F.get a1) (F.get a2) a3 a4 fn_search fun t => ?_
  dsimp only
  refine callWith_def (o := { cls := .type "function", data := .func fg }) rfl ?_
  walk_at "go"
  refine ⟨F.get a5, ?_⟩
  refine callG (a6 _ F.has (hGk _ _ F.keep hG)) hr' fun v h₂ t₂ k₂ P₂ => ?_
  have memL : ∀ {N M : List (Addr × Obj)} {q : Addr × Obj}, q ∈ N → q ∈ N ++ M := fun h => List.mem_append.mpr (.inl h)
  have memR : ∀ {N M : List (Addr × Obj)} {q : Addr × Obj}, q ∈ M → q ∈ N ++ M := fun h => List.mem_append.mpr (.inr h)
  have memLc : ∀ {N M : List Addr} {q : Addr}, q ∈ N → q ∈ N ++ M := fun h => List.mem_append.mpr (.inl h)
  have memRc : ∀ {N M : List Addr} {q : Addr}, q ∈ M → q ∈ N ++ M := fun h => List.mem_append.mpr (.inr h)
  cases hS0 : S 0 with
  | none =>
    rw [hS0] at P₂ hres
    cases (show v = .none from P₂)
    cases (show res = none from hres)
    replace F := F.kept k₂
    walk_at "go"
    rename_i F₃
    exact Ret.mk F₃.keep rfl
  | some ij =>
    obtain ⟨i, j⟩ := ij
    rw [hS0] at P₂ hres
    obtain ⟨hi0, hij, n, hSR⟩ := hres
    obtain ⟨f, N, Cs, rfl, hN, hCs, hH⟩ := P₂
    have hNn : ∀ q ∈ N, NT q.2 ∧ h.get? q.1 = none := fun q hq => ⟨(hN q hq).2.1, F.keep.gone (hN q hq).2.2⟩
    replace F := (F.learn k₂ hN).learnAllC hCs
    walk_at "go"
    obtain ⟨d1, fd1, od1, mm1, g1, fg1, b1, b2, b3, b4, b5, b6⟩ := hH.obj
    rename_i F₃
    refine fn_truthy (F₃.get (memL b1)) rfl ?_
    walk_at "go"
    rename_i F₄
    refine spanG F₄ lim (hr'.less (by omega)) (hH.mono (fun _ => memL) fun _ => memLc) fun a ta tb h₅ t₅ _ F₅ => ?_
    refine unpack2 F₅ hr'.handled (.head _) (fun h₆ t₆ F₆ => ?_) rfl rfl rfl
    walk_at "go"
    refine while_G (fun k s => ∃ h' t' m i j f found fv T' C' N Cs ti tj tc, s = St s₀ h' t' ∧ Fn h L m [] T' C' h' ∧ (∀ q ∈ T, q ∈ T') ∧ (∀ c ∈ C, c ∈ C') ∧ m "prog" = some (.ref p) ∧ m "chars" = some x ∧ m "col" = some (.int col tc) ∧ m "m" = some (.ref f) ∧ m "found" = some fv ∧
      m "i" = some (.int i ti) ∧ m "j" = some (.int j tj) ∧ (∀ q ∈ N, q ∈ T' ∧ NT q.2 ∧ h.get? q.1 = none) ∧ (∀ c ∈ Cs, c ∈ C') ∧ Hit prog w f i j N Cs ∧ FoundIs prog w h T' C' found fv ∧ 0 ≤ i ∧ i ≤ j ∧ SR S col k i j found res) n
      ⟨h₆, t₆, _, i, j, f, none, .none, _, _, N, Cs, _, _, _, rfl, F₆, fun q hq => .tail _ (memR hq), fun c hc => memRc hc, rfl, rfl, rfl, rfl, rfl, rfl, rfl, fun q hq => ⟨.tail _ (memL hq), hNn q hq⟩, fun c hc => memLc hc, hH, rfl, hi0, hij, hSR⟩ ?_
    rintro k s ⟨h', t', m, i, j, f, found, fv, T', C', N, Cs, ti, tj, tc, rfl, F, hT, hC, mp, mc, mcol, mm', mf, mi, mj, hN, hCs, hH, hfo, hi0, hij, hSR⟩
    walk_at "go"
    refine split_dec (fun hic => ?_) (fun hic => ?_)
    · walk_at "go"
      refine split_dec (fun hjc => ?_) (fun hjc => ?_)
      · have hn0 : 0 ≤ nextAt i j := by unfold nextAt; split <;> omega
        walk_at "go"
        refine split_bool (fun hb => ?_) (fun hb => ?_)
        all_goals (
          walk_at "go"
          rename Fn _ _ _ _ _ _ _ => F₁
          refine getM (F₁.get (hT _ a1)) (F₁.get (hT _ a2)) a3 a4 fn_search fun t => ?_
          dsimp only
          refine callWith_def (o := { cls := .type "function", data := .func fg }) rfl ?_
          walk_at "go"
          refine ⟨F₁.get (hT _ a5), ?_⟩
          have hnx : nextAt i j = (if i == j then j + 1 else j) := by unfold nextAt; simp only [beq_iff_eq]
          rw [hb] at hnx
          simp only [if_true, if_false, Bool.false_eq_true] at hnx
          have hH' : Has T C _ := ⟨fun q hq => F₁.get (hT _ hq), fun c hc => F₁.codes _ (hC _ hc)⟩
          rw [← hnx]
          refine callG (a7 _ _ _ hn0 hH' (hGk _ _ F₁.keep hG)) hr' fun v h₂ t₂ k₂ P₂ => ?_
          cases hSn : S (nextAt i j) with
          | none =>
            rw [hSn] at P₂
            cases (show v = .none from P₂)
            have F₂ := F₁.kept k₂
            walk_at "go"
            rename Fn _ _ _ _ _ _ _ => F₃
            have : res = some (i, j) := by
              cases hSR with
              | stop hh => exact absurd ⟨hic, hjc⟩ hh
              | last _ _ _ => rfl
              | step _ _ hh _ => rw [hSn] at hh; cases hh
            subst this
            exact Ret.mk F₃.keep (FoundIs.post F₃ (show FoundIs prog w h T' C' (some (i, j)) (.ref f) from ⟨f, N, Cs, rfl, hN, hCs, hH⟩))
          | some ij' =>
            obtain ⟨i', j'⟩ := ij'
            rw [hSn] at P₂
            obtain ⟨f', N', Cs', rfl, hN', hCs', hH''⟩ := P₂
            have hNn' : ∀ q ∈ N', NT q.2 ∧ h.get? q.1 = none := fun q hq => ⟨(hN' q hq).2.1, F₁.keep.gone (hN' q hq).2.2⟩
            have F₂ := (F₁.learn k₂ hN').learnAllC hCs'
            have hSR' : ∃ k', k' < k ∧ SR S col k' i' j' (some (i, j)) res := by
              cases hSR with
              | stop hh => exact absurd ⟨hic, hjc⟩ hh
              | last _ _ hh => rw [hSn] at hh; cases hh
              | step _ _ hh z => rw [hSn] at hh; cases hh; exact ⟨_, Nat.lt_succ_self _, z⟩
            obtain ⟨k', hk', hSR'⟩ := hSR'
            have hpos := hS _ _ _ hn0 hSn
            walk_at "go"
            rename Fn _ _ _ _ _ _ _ => F₃
            obtain ⟨d1, fd1, od1, mm1, g1, fg1, b1, b2, b3, b4, b5, b6⟩ := hH''.obj
            refine fn_truthy (F₃.get (memL b1)) rfl ?_
            walk_at "go"
            refine spanG F₃ lim (hr'.less (by omega)) (hH''.mono (fun _ => memL) fun _ => memLc) fun a ta tb h₅ t₅ _ F₅ => ?_
            refine unpack2 F₅ hr'.handled (.head _) (fun h₆ t₆ F₆ => ?_) rfl rfl rfl
            walk_at "go"
            refine ⟨k', hk', h₆, t₆, _, i', j', f', some (i, j), .ref f, _, _, N', Cs', _, _, _, rfl, F₆, fun q hq => .tail _ (memR (hT q hq)), fun c hc => memRc (hC c hc), mp, mc, mcol, rfl, ?_, rfl, rfl, fun q hq => ⟨.tail _ (memL hq), hNn' q hq⟩, fun c hc => memLc hc, hH'', ?_, hpos.1, hpos.2, hSR'⟩
            · first | rfl | assumption
            · exact ⟨f, N, Cs, rfl, fun q hq => ⟨.tail _ (memR (hN q hq).1), (hN q hq).2⟩, fun c hc => memRc (hCs c hc), hH⟩)
      · walk_at "go"
        have : res = found := by
          cases hSR with
          | stop _ => rfl
          | last _ hh _ => exact absurd hh hjc
          | step _ hh _ _ => exact absurd hh hjc
        subst this
        exact Ret.mk F.keep (FoundIs.post F hfo)
    · walk_at "go"
      have : res = found := by
        cases hSR with
        | stop _ => rfl
        | last hh _ _ => exact absurd hh hic
        | step hh _ _ _ => exact absurd hh hic
      subst this
      exact Ret.mk F.keep (FoundIs.post F hfo)

end Mine

end

section
open PySem PySem.W PySem.Calls PyProof.Rows
open PySem PySem.W PySem.Calls PyProof.Rows
namespace Mine
variable [Base]
set_option maxRecDepth 100000
set_option maxHeartbeats 4000000
local macro_rules | `(tactic| walk_at "hv") => `(tactic| first | rfl | assumption)
local macro_rules | `(tactic| walk_at "dec") => `(tactic| first | rfl | assumption | exact decide_eq_true (by omega) | exact decide_eq_false (by omega))
local macro_rules | `(tactic| walk_at "go0") => `(tactic| first
  | with_reducible refine wpAny_execs_nil ?_
  | with_reducible refine wpAny_If ?_
  | ((with_reducible refine ite_f ?hdec ?_); (case hdec => walk_at "dec"))
  | ((with_reducible refine ite_t ?hdec ?_); (case hdec => walk_at "dec"))
  | ((with_reducible refine wpAny_isTrue_Compare1 ?_ ?hm); (case hm => with_unfolding_all rfl))
  | with_reducible refine isTrue_and ?_
  | with_reducible refine isTrue_and_nil ?_
  | with_reducible refine isTrue_or ?_
  | with_reducible refine isTrue_or_nil ?_
  | with_reducible refine isTrue_not ?_
  | ((with_reducible refine isTrue_plain ?_ ?he); (case he => rfl))
  | ((with_reducible refine wpAny_Assign_Name ?_ ?hs); (case hs => rfl))
  | with_reducible refine wpAny_AugAssign_Name ?_
  | with_reducible refine wpAny_Return_some ?_
  | with_reducible refine wpAny_BinOp ?_
  | ((with_reducible refine wpAny_Compare1 ?_ ?hm); (case hm => with_unfolding_all rfl))
  | with_reducible refine IfExp_ ?_
  | with_reducible refine UnaryOp_ ?_
  | with_reducible refine Subscript_ ?_
  | ((with_reducible refine' ldL ?F ?hv ?_ ?hk ?hx ?hd); (case F => assumption); (case hk => rfl); (case hx => rfl); (case hd => decide); (case hv => walk_at "hv"))
  | ((with_reducible refine' ldnL ?F ?hv ?_ ?hk ?hx); (case F => assumption); (case hk => rfl); (case hx => rfl); (case hv => walk_at "hv"))
  | ((with_reducible refine' stL ?F ?_ ?hk ?hx); (case F => assumption); (case hk => rfl); (case hx => rfl); intro h' t' F')
  | ((with_reducible refine' ldG ?F ?G ?hv ?_ ?hk ?hx ?hd); (case F => assumption); (case G => assumption); (case hk => rfl); (case hx => rfl); (case hd => decide); (case hv => assumption))
  | ((with_reducible refine' ldB ?F ?G ?hn ?hv ?_ ?hk ?hx ?hd); (case F => assumption); (case G => assumption); (case hk => rfl); (case hx => rfl); (case hd => decide); (case hn => assumption); (case hv => assumption))
  | ((with_reducible refine cInt ?_); intro _ _)
  | ((with_reducible refine cStr ?_); intro _ _)
  | with_reducible refine Constant_none ?_
  | with_reducible refine Constant_bool ?_
  | ((with_reducible refine addI ?_); intro _ _)
  | ((with_reducible refine subI ?_); intro _ _)
  | ((with_reducible refine modI ?hb ?_); (case hb => decide); intro _ _)
  | ((with_reducible refine fdivI ?hb ?hs ?_); (case hb => decide); (case hs => decide); intro _ _)
  | with_reducible refine PyProof.Rows.lt_int ?_
  | with_reducible refine PyProof.Rows.le_int ?_
  | with_reducible refine PyProof.Rows.gt_int ?_
  | with_reducible refine PyProof.Rows.ge_int ?_
  | with_reducible refine PyProof.Rows.eq_int ?_
  | with_reducible refine PyProof.Rows.ne_int ?_
  | ((with_reducible refine iaddI ?_); intro _ _)
  | ((with_reducible refine negI ?_); intro _ _)
  | with_reducible refine SliceG_ ?_
  | with_reducible refine evN ?_
  | with_reducible refine evS ?_
  | ((with_reducible refine' newSliceG ?F ?_); (case F => assumption); intro sl' hs' _ Fs')
  | with_reducible refine wpAny_truthy_bool ?_
  | with_reducible refine is_none_none ?_
  | with_reducible refine is_ref_none ?_
  | with_reducible refine is_int_none ?_
  | with_reducible refine isnot_none_none ?_
  | with_reducible refine isnot_ref_none ?_
  | ((with_reducible refine' MethodCall_ ?_ ?he); (case he => rfl))
  | ((with_reducible refine Call_ ?_ ?he); (case he => rfl))
  | with_reducible refine wpAny_Call_Name_kw ?_
  | ((with_reducible refine Assign_Tuple ?_ ?hs ?hw); (case hs => rfl); (case hw => rfl))
  | ((with_reducible refine plainObj_wpAny_Assign_Attribute ?_ ?hs); (case hs => rfl))
  | with_reducible refine truthy_none ?_
  | with_reducible refine wpAny_Break ?_
  | ((with_reducible refine callWith_builtin1 ?_ ?he ?hp); (case he => rfl); (case hp => rfl))
  | ((with_reducible refine args_cons ?_ ?he); (case he => rfl))
  | with_reducible refine args_nil ?_
  | ((with_reducible refine callWith_type1 ?_ ?he ?hp); (case he => rfl); (case hp => rfl))
  | ((with_reducible refine' rng2 ?F ?_); (case F => assumption); intro R' ta' tb' tc' h' t' hR' F')
  | ((with_reducible refine' rng1 ?F ?_); (case F => assumption); intro R' ta' tb' tc' h' t' hR' F')
  | ((with_reducible refine wpAny_For ?_ ?hs); (case hs => intro _; rfl))
  | ((with_reducible refine wpAny_Expr ?_ ?hi ?hs); (case hi => rfl); (case hs => rfl))
  | with_reducible refine List_ ?_
  | with_reducible refine Tuple_ ?_
  | ((with_reducible refine' appendM ?ho ?hc ?hd ?_); (case ho => walk_at "get"); (case hc => rfl); (case hd => rfl))
  | ((with_reducible refine callWith_method1 ?_ ?he ?hp); (case he => rfl); (case hp => rfl))
  | ((with_reducible refine' maxG ?F ?hh ?_); (case F => assumption); (case hh => assumption); intro v' h' t' F')
  | ((with_reducible refine' minG ?F ?hh ?_); (case F => assumption); (case hh => assumption); intro v' h' t' F')
  | with_reducible refine PySem.EqNone.ne_none_none ?_
  | with_reducible refine BoolOp_and ?_
  | with_reducible refine BoolOp_one ?_
  | with_reducible refine PyProof.Rows.ne_bool ?_
  | ((with_reducible refine PyProof.Rows.isTrue_chain ?_ ?hm); (case hm => with_unfolding_all rfl))
  | with_reducible refine PyProof.Rows.test_link ?_
  | with_reducible refine PyProof.Rows.test_last ?_
  | dsimp only)
local macro_rules | `(tactic| walk_at "go1") => `(tactic| first | with_reducible refine wpAny_execs_cons ?_ | walk_at "go0")
local macro_rules | `(tactic| walk_at "go") => `(tactic| repeat (walk_at "go1"))
local macro_rules | `(tactic| walk_at "gs") => `(tactic| repeat (walk_at "go0"))
local macro_rules | `(tactic| walk_at "mem") => `(tactic| first | exact List.Mem.head _ | assumption | exact List.Mem.tail _ (List.Mem.head _) | exact List.Mem.tail _ (List.Mem.tail _ (List.Mem.head _)) | exact List.Mem.tail _ (List.Mem.tail _ (List.Mem.tail _ (List.Mem.head _))) | (simp; done))
local macro_rules | `(tactic| walk_at "get") => `(tactic| first | exact Fn.get (by assumption) (by walk_at "mem") | exact Fn.getU (by assumption) (by walk_at "mem"))
local macro_rules | `(tactic| walk_at "len") => `(tactic| ((with_reducible refine' lenL ?ho ?hb ?_); (case ho => walk_at "get"); (case hb => first | assumption | omega); intro tl' ul'))
local macro_rules | `(tactic| walk_at "item") => `(tactic| ((with_reducible refine' itemI ?ho ?hi ?h0 ?h1 ?hb ?_ ?hs ?ht); (case ho => walk_at "get"); (case hi => assumption); (case h0 => omega); (case h1 => omega); (case hb => first | assumption | omega); (case hs => with_unfolding_all rfl); (case ht => intro _; with_unfolding_all rfl); intro ti'))
local macro_rules | `(tactic| walk_at "itemV") => `(tactic| ((with_reducible refine' itemV ?ho ?h0 ?h1 ?hb ?_ ?hs ?ht); (case ho => walk_at "get"); (case h0 => omega); (case h1 => omega); (case hb => first | assumption | omega); (case hs => with_unfolding_all rfl); (case ht => intro _; with_unfolding_all rfl)))
local macro_rules | `(tactic| walk_at "last") => `(tactic| ((with_reducible refine' itemLast ?ho ?hi ?h1 ?hb ?_ ?hs ?ht); (case ho => walk_at "get"); (case hi => assumption); (case h1 => omega); (case hb => omega); (case hs => with_unfolding_all rfl); (case ht => intro _; with_unfolding_all rfl); intro ti'))
/-- the rule of the law -/
def stepR (ns : List Int) (t : Nat) : Int := if t < ns.length then (ns.getD t 0).fmod 5 else 2
def fR (ns : List Int) : Nat → Int
  | 0 => 0
  | t + 1 => max ((t : Int) + 1) (fR ns t + stepR ns t)
abbrev ruleL (ns : List Int) (top : Nat) : List Int := (List.range (top + 1)).map (fR ns)

theorem rule_spec {prog : Program} {w : World} {h : Heap} {fa l c : Addr} {vs : List Value} {ns : List Int} {n top : Nat} {t : Tok} {mg mb : Str → Option Value}
    (D : IsDef pw1 6 h fa .none .none c) (hc : CodeP h c) (G : Gl mg mb h) (hlen : mg "len" = none) (hlen' : mb "len" = some (.builtin "len")) (hrg : mg "range" = none) (hrg' : mb "range" = some (.type "range")) (hmx : mg "max" = none) (hmx' : mb "max" = some (.builtin "max"))
    (hl : h.get? l = some (listOf vs.toArray n)) (hi : IntsAre vs ns) (hsz : ns.length < 2 ^ 62) (htop : top < 1000) :
    Mine.Calls prog w 3 (.ref fa) ⟨[.ref l, .int top t], []⟩ h (fun v h' => ∃ r vs' n', v = .ref r ∧ New h h' [(r, listOf vs'.toArray n')] ∧ IntsAre vs' (ruleL ns top)) := by
  have hlv : vs.length = ns.length := hi.length
  have hsz' : vs.length < 2 ^ 62 := by omega
  refine IsDef.calls (binds := [("script", .ref l), ("top", .int top t)]) D hc.rec' G.lim (fun name qual doc pm an ct s₀ t => BindsTo.of_eq rfl) rfl (locs rfl) ?_
  intro A s₀ t q L h₁ hr F
  have hh := hr.handled
  replace F := F.recall hl (NF.nt nofun)
  show wpAny _ _ (execs (_ :: _) _) _ _ _
  walk_at "go"
  refine listG F fun r h₂ _ F₂ => ?_
  walk_at "go"
  rename_i R' ta tb tc h₃ t₃ hR F₃
  refine iter_range F₃ hh hR (by omega) (by omega) (by omega) (by omega) (fun i m U => ∃ vs' n' tt, m "script" = some (.ref l) ∧ m "top" = some (.int top tt) ∧ m "rule" = some (.ref r) ∧ U = [(r, listOf vs'.toArray n')] ∧ IntsAre vs' ((List.range (i + 1)).map (fR ns)))
    ⟨_, _, _, rfl, rfl, rfl, rfl, .cons _ _ .nil⟩ ?_ ?_ rfl rfl
  · rintro i ti m U h' I o tk hib ⟨vs', n', tt, ms, mt, mr, rfl, hI⟩ F
    dsimp only
    have hlI : ((List.range (i + 1)).map (fR ns)).length = i + 1 := by simp
    have hgI : ((List.range (i + 1)).map (fR ns)).getD i 0 = fR ns i := by simp [List.getD]
    walk_at "go"
    walk_at "len"
    walk_at "go"
    have e1 : (1 + (i : Int) - 1).toNat = i := by omega
    refine split_dec (fun hle => ?_) (fun hle => ?_)
    · walk_at "go"
      walk_at "item"
      walk_at "go"
      walk_at "item"
      walk_at "go"
      rename_i F₅
      refine appendG F₅ (fun h₆ F₆ => ?_) (by rw [hI.length, hlI, sizeLine_eq]; omega)
      walk_at "go"
      refine TurnPost.next F₆ ⟨_, _, tt, ms, mt, mr, rfl, ?_⟩
      have hr2 : (List.range (i + 1 + 1)).map (fR ns) = (List.range (i + 1)).map (fR ns) ++ [fR ns (i + 1)] := by rw [List.range_succ, List.map_append]; rfl
      simp only [e1, hgI]
      rw [hr2]
      have hst : stepR ns i = (ns.getD i 0).fmod 5 := by unfold stepR; rw [if_pos (by omega)]
      rw [← hst, show (1 + (i : Int)) = (i : Int) + 1 by omega]
      exact IntsAre.snoc hI
    · walk_at "go"
      walk_at "item"
      walk_at "go"
      rename_i F₅
      refine appendG F₅ (fun h₆ F₆ => ?_) (by rw [hI.length, hlI, sizeLine_eq]; omega)
      walk_at "go"
      refine TurnPost.next F₆ ⟨_, _, tt, ms, mt, mr, rfl, ?_⟩
      have hr2 : (List.range (i + 1 + 1)).map (fR ns) = (List.range (i + 1)).map (fR ns) ++ [fR ns (i + 1)] := by rw [List.range_succ, List.map_append]; rfl
      simp only [e1, hgI]
      rw [hr2]
      have hst : stepR ns i = 2 := by unfold stepR; rw [if_neg (by omega)]
      rw [← hst, show (1 + (i : Int)) = (i : Int) + 1 by omega]
      exact IntsAre.snoc hI
  · rintro m U h' t' ⟨vs', n', tt, ms, mt, mr, rfl, hI⟩ F
    walk_at "go"
    refine Ret.mk F.keep ⟨r, _, _, rfl, F.newU, ?_⟩
    have : ((top : Int) + 1 - 1).toNat = top := by omega
    rw [this] at hI
    exact hI

end Mine

end

section
open PySem PySem.W PySem.Calls PyProof.Rows
open PySem PySem.W PySem.Calls PyProof.Rows
namespace Mine
variable [Base]
set_option maxRecDepth 100000
set_option maxHeartbeats 4000000
local macro_rules | `(tactic| walk_at "hv") => `(tactic| first | rfl | assumption)
local macro_rules | `(tactic| walk_at "dec") => `(tactic| first | rfl | assumption | exact decide_eq_true (by omega) | exact decide_eq_false (by omega))
local macro_rules | `(tactic| walk_at "go0") => `(tactic| first
  | with_reducible refine wpAny_execs_nil ?_
  | with_reducible refine wpAny_If ?_
  | ((with_reducible refine ite_f ?hdec ?_); (case hdec => walk_at "dec"))
  | ((with_reducible refine ite_t ?hdec ?_); (case hdec => walk_at "dec"))
  | ((with_reducible refine wpAny_isTrue_Compare1 ?_ ?hm); (case hm => with_unfolding_all rfl))
  | with_reducible refine isTrue_and ?_
  | with_reducible refine isTrue_and_nil ?_
  | with_reducible refine isTrue_or ?_
  | with_reducible refine isTrue_or_nil ?_
  | with_reducible refine isTrue_not ?_
  | ((with_reducible refine isTrue_plain ?_ ?he); (case he => rfl))
  | ((with_reducible refine wpAny_Assign_Name ?_ ?hs); (case hs => rfl))
  | with_reducible refine wpAny_AugAssign_Name ?_
  | with_reducible refine wpAny_Return_some ?_
  | with_reducible refine wpAny_BinOp ?_
  | ((with_reducible refine wpAny_Compare1 ?_ ?hm); (case hm => with_unfolding_all rfl))
  | with_reducible refine IfExp_ ?_
  | with_reducible refine UnaryOp_ ?_
  | with_reducible refine Subscript_ ?_
  | ((with_reducible refine' ldL ?F ?hv ?_ ?hk ?hx ?hd); (case F => assumption); (case hk => rfl); (case hx => rfl); (case hd => decide); (case hv => walk_at "hv"))
  | ((with_reducible refine' ldnL ?F ?hv ?_ ?hk ?hx); (case F => assumption); (case hk => rfl); (case hx => rfl); (case hv => walk_at "hv"))
  | ((with_reducible refine' stL ?F ?_ ?hk ?hx); (case F => assumption); (case hk => rfl); (case hx => rfl); intro h' t' F')
  | ((with_reducible refine' ldG ?F ?G ?hv ?_ ?hk ?hx ?hd); (case F => assumption); (case G => assumption); (case hk => rfl); (case hx => rfl); (case hd => decide); (case hv => assumption))
  | ((with_reducible refine' ldB ?F ?G ?hn ?hv ?_ ?hk ?hx ?hd); (case F => assumption); (case G => assumption); (case hk => rfl); (case hx => rfl); (case hd => decide); (case hn => assumption); (case hv => assumption))
  | ((with_reducible refine cInt ?_); intro _ _)
  | ((with_reducible refine cStr ?_); intro _ _)
  | with_reducible refine Constant_none ?_
  | with_reducible refine Constant_bool ?_
  | ((with_reducible refine addI ?_); intro _ _)
  | ((with_reducible refine subI ?_); intro _ _)
  | ((with_reducible refine modI ?hb ?_); (case hb => decide); intro _ _)
  | ((with_reducible refine fdivI ?hb ?hs ?_); (case hb => decide); (case hs => decide); intro _ _)
  | with_reducible refine PyProof.Rows.lt_int ?_
  | with_reducible refine PyProof.Rows.le_int ?_
  | with_reducible refine PyProof.Rows.gt_int ?_
  | with_reducible refine PyProof.Rows.ge_int ?_
  | with_reducible refine PyProof.Rows.eq_int ?_
  | with_reducible refine PyProof.Rows.ne_int ?_
  | ((with_reducible refine iaddI ?_); intro _ _)
  | ((with_reducible refine negI ?_); intro _ _)
  | with_reducible refine SliceG_ ?_
  | with_reducible refine evN ?_
  | with_reducible refine evS ?_
  | ((with_reducible refine' newSliceG ?F ?_); (case F => assumption); intro sl' hs' _ Fs')
  | with_reducible refine wpAny_truthy_bool ?_
  | with_reducible refine is_none_none ?_
  | with_reducible refine is_ref_none ?_
  | with_reducible refine is_int_none ?_
  | with_reducible refine isnot_none_none ?_
  | with_reducible refine isnot_ref_none ?_
  | ((with_reducible refine' MethodCall_ ?_ ?he); (case he => rfl))
  | ((with_reducible refine Call_ ?_ ?he); (case he => rfl))
  | with_reducible refine wpAny_Call_Name_kw ?_
  | ((with_reducible refine Assign_Tuple ?_ ?hs ?hw); (case hs => rfl); (case hw => rfl))
  | ((with_reducible refine plainObj_wpAny_Assign_Attribute ?_ ?hs); (case hs => rfl))
  | with_reducible refine truthy_none ?_
  | with_reducible refine wpAny_Break ?_
  | ((with_reducible refine callWith_builtin1 ?_ ?he ?hp); (case he => rfl); (case hp => rfl))
  | ((with_reducible refine args_cons ?_ ?he); (case he => rfl))
  | with_reducible refine args_nil ?_
  | ((with_reducible refine callWith_type1 ?_ ?he ?hp); (case he => rfl); (case hp => rfl))
  | ((with_reducible refine' rng2 ?F ?_); (case F => assumption); intro R' ta' tb' tc' h' t' hR' F')
  | ((with_reducible refine' rng1 ?F ?_); (case F => assumption); intro R' ta' tb' tc' h' t' hR' F')
  | ((with_reducible refine wpAny_For ?_ ?hs); (case hs => intro _; rfl))
  | ((with_reducible refine wpAny_Expr ?_ ?hi ?hs); (case hi => rfl); (case hs => rfl))
  | with_reducible refine List_ ?_
  | with_reducible refine Tuple_ ?_
  | ((with_reducible refine' appendM ?ho ?hc ?hd ?_); (case ho => walk_at "get"); (case hc => rfl); (case hd => rfl))
  | ((with_reducible refine callWith_method1 ?_ ?he ?hp); (case he => rfl); (case hp => rfl))
  | ((with_reducible refine' maxG ?F ?hh ?_); (case F => assumption); (case hh => assumption); intro v' h' t' F')
  | ((with_reducible refine' minG ?F ?hh ?_); (case F => assumption); (case hh => assumption); intro v' h' t' F')
  | with_reducible refine PySem.EqNone.ne_none_none ?_
  | with_reducible refine BoolOp_and ?_
  | with_reducible refine BoolOp_one ?_
  | with_reducible refine PyProof.Rows.ne_bool ?_
  | ((with_reducible refine PyProof.Rows.isTrue_chain ?_ ?hm); (case hm => with_unfolding_all rfl))
  | with_reducible refine PyProof.Rows.test_link ?_
  | with_reducible refine PyProof.Rows.test_last ?_
  | dsimp only)
local macro_rules | `(tactic| walk_at "go1") => `(tactic| first | with_reducible refine wpAny_execs_cons ?_ | walk_at "go0")
local macro_rules | `(tactic| walk_at "go") => `(tactic| repeat (walk_at "go1"))
local macro_rules | `(tactic| walk_at "gs") => `(tactic| repeat (walk_at "go0"))
local macro_rules | `(tactic| walk_at "mem") => `(tactic| first | exact List.Mem.head _ | assumption | exact List.Mem.tail _ (List.Mem.head _) | exact List.Mem.tail _ (List.Mem.tail _ (List.Mem.head _)) | exact List.Mem.tail _ (List.Mem.tail _ (List.Mem.tail _ (List.Mem.head _))) | (simp; done))
local macro_rules | `(tactic| walk_at "get") => `(tactic| first | exact Fn.get (by assumption) (by walk_at "mem") | exact Fn.getU (by assumption) (by walk_at "mem"))
local macro_rules | `(tactic| walk_at "len") => `(tactic| ((with_reducible refine' lenL ?ho ?hb ?_); (case ho => walk_at "get"); (case hb => first | assumption | omega); intro tl' ul'))
local macro_rules | `(tactic| walk_at "item") => `(tactic| ((with_reducible refine' itemI ?ho ?hi ?h0 ?h1 ?hb ?_ ?hs ?ht); (case ho => walk_at "get"); (case hi => assumption); (case h0 => omega); (case h1 => omega); (case hb => first | assumption | omega); (case hs => with_unfolding_all rfl); (case ht => intro _; with_unfolding_all rfl); intro ti'))
local macro_rules | `(tactic| walk_at "itemV") => `(tactic| ((with_reducible refine' itemV ?ho ?h0 ?h1 ?hb ?_ ?hs ?ht); (case ho => walk_at "get"); (case h0 => omega); (case h1 => omega); (case hb => first | assumption | omega); (case hs => with_unfolding_all rfl); (case ht => intro _; with_unfolding_all rfl)))
local macro_rules | `(tactic| walk_at "last") => `(tactic| ((with_reducible refine' itemLast ?ho ?hi ?h1 ?hb ?_ ?hs ?ht); (case ho => walk_at "get"); (case hi => assumption); (case h1 => omega); (case hb => omega); (case hs => with_unfolding_all rfl); (case ht => intro _; with_unfolding_all rfl); intro ti'))
/-- ls are the least takes that win, by the rule f, up to the heap top -/
def LeastL (f ls : List Int) (top : Nat) : Prop := ls.length = top + 1 ∧ ls.getD 0 0 = 0 ∧ ∀ h : Nat, 1 ≤ h → h ≤ top → ∃ t : Nat, ls.getD h 0 = t ∧ 1 ≤ t ∧ t ≤ h ∧ (t = h ∨ f.getD t 0 < ls.getD (h - t) 0) ∧ ∀ s : Nat, 1 ≤ s → s < t → ls.getD (h - s) 0 ≤ f.getD s 0

theorem least_spec {prog : Program} {w : World} {h : Heap} {fa l c : Addr} {vs : List Value} {f : List Int} {n top : Nat} {t : Tok} {mg mb : Str → Option Value}
    (D : IsDef pw1 7 h fa .none .none c) (hc : CodeP h c) (G : Gl mg mb h) (hrg : mg "range" = none) (hrg' : mb "range" = some (.type "range"))
    (hl : h.get? l = some (listOf vs.toArray n)) (hi : IntsAre vs f) (hsz : f.length = top + 1) (htop : top < 1000) :
    Mine.Calls prog w 3 (.ref fa) ⟨[.ref l, .int top t], []⟩ h (fun v h' => ∃ r vs' n' ls, v = .ref r ∧ New h h' [(r, listOf vs'.toArray n')] ∧ IntsAre vs' ls ∧ LeastL f ls top) := by
  have hlv : vs.length = f.length := hi.length
  refine IsDef.calls (binds := [("rule", .ref l), ("top", .int top t)]) D hc.rec' G.lim (fun name qual doc pm an ct s₀ t => BindsTo.of_eq rfl) rfl (locs rfl) ?_
  intro A s₀ t q L h₁ hr F
  have hh := hr.handled
  replace F := F.recall hl (NF.nt nofun)
  show wpAny _ _ (execs (_ :: _) _) _ _ _
  walk_at "go"
  refine listG F fun r h₂ _ F₂ => ?_
  walk_at "go"
  rename_i R' ta tb tc h₃ t₃ hR F₃
  refine iter_range F₃ hh hR (by omega) (by omega) (by omega) (by omega) (fun i m U => ∃ vs' n' tt ls, m "rule" = some (.ref l) ∧ m "top" = some (.int top tt) ∧ m "least" = some (.ref r) ∧ U = [(r, listOf vs'.toArray n')] ∧ IntsAre vs' ls ∧ LeastL f ls i)
    ⟨_, _, _, [0], rfl, rfl, rfl, rfl, .cons _ _ .nil, rfl, rfl, fun h h1 h2 => by omega⟩ ?_ ?_ rfl rfl
  · rintro i ti m U h' I o tk hib ⟨vs', n', tt, ls, ms, mt, mr, rfl, hI, hL0, hL1, hL2⟩ F
    dsimp only
    walk_at "go"
    rename_i F₄
    refine while_G (fun k s => ∃ (h' : Heap) (t' : Nat) (m : Str → Option Value) (tk : Tok) (take : Nat), s = St s₀ h' t' ∧ Fn h L m [(r, listOf vs'.toArray n')] [(I, o), (l, listOf vs.toArray n)] [] h' ∧ m "rule" = some (.ref l) ∧ m "top" = some (.int top tt) ∧ m "least" = some (.ref r) ∧ m "heap" = some (.int (1 + i) ti) ∧
      m "take" = some (.int take tk) ∧ 1 ≤ take ∧ take ≤ i + 1 ∧ (∀ s : Nat, 1 ≤ s → s < take → ls.getD (i + 1 - s) 0 ≤ f.getD s 0) ∧ k = i + 1 - take) i
      ⟨_, _, _, _, 1, rfl, F₄, ms, mt, mr, rfl, rfl, by omega, by omega, fun s h1 h2 => by omega, by omega⟩ ?_
    rintro k s ⟨h', t', m, tk, take, rfl, F, ms, mt, mr, mh, mk, hk1, hk2, hk3, rfl⟩
    have fin : (take = i + 1 ∨ f.getD take 0 < ls.getD (i + 1 - take) 0) → ∀ h₁ t₁ tn, Fn h L m [(r, listOf (vs' ++ [Value.int take tn]).toArray (n' + 1))] [(I, o), (l, listOf vs.toArray n)] [] h₁ → TurnPost (St s₀ h₃ t₃) h L [(I, o), (l, listOf vs.toArray n)] [] (fun m U => ∃ vs' n' tt ls, m "rule" = some (.ref l) ∧ m "top" = some (.int top tt) ∧ m "least" = some (.ref r) ∧ U = [(r, listOf vs'.toArray n')] ∧ IntsAre vs' ls ∧ LeastL f ls (i + 1)) (fun _ _ => True) .next (St s₀ h₁ t₁) := by
      intro hd h₁ t₁ tn F₁
      refine ⟨_, _, h₁, t₁, rfl, F₁, _, _, tt, ls ++ [(take : Int)], ms, mt, mr, rfl, IntsAre.snoc hI, by simp [hL0], ?_, ?_⟩
      · rw [getD_left (by omega)]; exact hL1
      · intro hp h1 h2
        have ge : ∀ j, j ≤ i → (ls ++ [(take : Int)]).getD j 0 = ls.getD j 0 := fun j hj => getD_left (by omega)
        by_cases hp' : hp = i + 1
        · subst hp'
          refine ⟨take, ?_, hk1, hk2, ?_, ?_⟩
          · exact getD_last (by omega)
          · rcases hd with hd | hd
            · exact .inl hd
            · by_cases he : take = i + 1
              · exact .inl he
              · exact .inr (by rw [ge _ (by omega)]; exact hd)
          · intro s hs1 hs2
            rw [ge _ (by omega)]; exact hk3 s hs1 hs2
        · obtain ⟨t, e1, e2, e3, e4, e5⟩ := hL2 hp h1 (by omega)
          refine ⟨t, by rw [ge _ (by omega)]; exact e1, e2, e3, ?_, ?_⟩
          · rcases e4 with e4 | e4
            · exact .inl e4
            · exact .inr (by rw [ge _ (by omega)]; exact e4)
          · intro s hs1 hs2
            rw [ge _ (by omega)]; exact e5 s hs1 hs2
    walk_at "go"
    refine split_dec (fun hlt => ?_) (fun hlt => ?_)
    · walk_at "go"
      walk_at "item"
      walk_at "go"
      walk_at "item"
      walk_at "go"
      have e1 : ((take : Int)).toNat = take := by omega
      have e2 : (1 + (i : Int) - take).toNat = i + 1 - take := by omega
      simp only [e1, e2]
      refine split_dec (fun hle => ?_) (fun hle => ?_)
      · walk_at "go"
        rename_i F₅
        refine ⟨i + 1 - (take + 1), by omega, _, _, _, _, take + 1, rfl, F₅, ms, mt, mr, mh, rfl, by omega, by omega, fun s hs1 hs2 => ?_, rfl⟩
        by_cases he : s = take
        · subst he; exact hle
        · exact hk3 s hs1 (by omega)
      · walk_at "go"
        refine appendG F (fun h₆ F₆ => ?_) (by rw [hI.length, hL0, sizeLine_eq]; omega)
        walk_at "go"
        exact fin (.inr (by omega)) _ _ _ F₆
    · walk_at "go"
      refine appendG F (fun h₆ F₆ => ?_) (by rw [hI.length, hL0, sizeLine_eq]; omega)
      walk_at "go"
      exact fin (.inl (by omega)) _ _ _ F₆
  · rintro m U h' t' ⟨vs', n', tt, ls, ms, mt, mr, rfl, hI, hL⟩ F
    walk_at "go"
    refine Ret.mk F.keep ⟨r, _, _, ls, rfl, F.newU, hI, ?_⟩
    have : ((top : Int) + 1 - 1).toNat = top := by omega
    rw [this] at hL
    exact hL

end Mine

end

section
open PySem PySem.W PySem.Calls PyProof.Rows
open PySem PySem.W PySem.Calls PyProof.Rows
namespace Mine
variable [Base]
set_option maxRecDepth 100000
set_option maxHeartbeats 4000000
local macro_rules | `(tactic| walk_at "hv") => `(tactic| first | rfl | assumption)
local macro_rules | `(tactic| walk_at "dec") => `(tactic| first | rfl | assumption | exact decide_eq_true (by omega) | exact decide_eq_false (by omega))
local macro_rules | `(tactic| walk_at "go0") => `(tactic| first
  | with_reducible refine wpAny_execs_nil ?_
  | with_reducible refine wpAny_If ?_
  | ((with_reducible refine ite_f ?hdec ?_); (case hdec => walk_at "dec"))
  | ((with_reducible refine ite_t ?hdec ?_); (case hdec => walk_at "dec"))
  | ((with_reducible refine wpAny_isTrue_Compare1 ?_ ?hm); (case hm => with_unfolding_all rfl))
  | with_reducible refine isTrue_and ?_
  | with_reducible refine isTrue_and_nil ?_
  | with_reducible refine isTrue_or ?_
  | with_reducible refine isTrue_or_nil ?_
  | with_reducible refine isTrue_not ?_
  | ((with_reducible refine isTrue_plain ?_ ?he); (case he => rfl))
  | ((with_reducible refine wpAny_Assign_Name ?_ ?hs); (case hs => rfl))
  | with_reducible refine wpAny_AugAssign_Name ?_
  | with_reducible refine wpAny_Return_some ?_
  | with_reducible refine wpAny_BinOp ?_
  | ((with_reducible refine wpAny_Compare1 ?_ ?hm); (case hm => with_unfolding_all rfl))
  | with_reducible refine IfExp_ ?_
  | with_reducible refine UnaryOp_ ?_
  | with_reducible refine Subscript_ ?_
  | ((with_reducible refine' ldL ?F ?hv ?_ ?hk ?hx ?hd); (case F => assumption); (case hk => rfl); (case hx => rfl); (case hd => decide); (case hv => walk_at "hv"))
  | ((with_reducible refine' ldnL ?F ?hv ?_ ?hk ?hx); (case F => assumption); (case hk => rfl); (case hx => rfl); (case hv => walk_at "hv"))
  | ((with_reducible refine' stL ?F ?_ ?hk ?hx); (case F => assumption); (case hk => rfl); (case hx => rfl); intro h' t' F')
  | ((with_reducible refine' ldG ?F ?G ?hv ?_ ?hk ?hx ?hd); (case F => assumption); (case G => assumption); (case hk => rfl); (case hx => rfl); (case hd => decide); (case hv => assumption))
  | ((with_reducible refine' ldB ?F ?G ?hn ?hv ?_ ?hk ?hx ?hd); (case F => assumption); (case G => assumption); (case hk => rfl); (case hx => rfl); (case hd => decide); (case hn => assumption); (case hv => assumption))
  | ((with_reducible refine cInt ?_); intro _ _)
  | ((with_reducible refine cStr ?_); intro _ _)
  | with_reducible refine Constant_none ?_
  | with_reducible refine Constant_bool ?_
  | ((with_reducible refine addI ?_); intro _ _)
  | ((with_reducible refine subI ?_); intro _ _)
  | ((with_reducible refine modI ?hb ?_); (case hb => decide); intro _ _)
  | ((with_reducible refine fdivI ?hb ?hs ?_); (case hb => decide); (case hs => decide); intro _ _)
  | with_reducible refine PyProof.Rows.lt_int ?_
  | with_reducible refine PyProof.Rows.le_int ?_
  | with_reducible refine PyProof.Rows.gt_int ?_
  | with_reducible refine PyProof.Rows.ge_int ?_
  | with_reducible refine PyProof.Rows.eq_int ?_
  | with_reducible refine PyProof.Rows.ne_int ?_
  | ((with_reducible refine iaddI ?_); intro _ _)
  | ((with_reducible refine negI ?_); intro _ _)
  | with_reducible refine SliceG_ ?_
  | with_reducible refine evN ?_
  | with_reducible refine evS ?_
  | ((with_reducible refine' newSliceG ?F ?_); (case F => assumption); intro sl' hs' _ Fs')
  | with_reducible refine wpAny_truthy_bool ?_
  | with_reducible refine is_none_none ?_
  | with_reducible refine is_ref_none ?_
  | with_reducible refine is_int_none ?_
  | with_reducible refine isnot_none_none ?_
  | with_reducible refine isnot_ref_none ?_
  | ((with_reducible refine' MethodCall_ ?_ ?he); (case he => rfl))
  | ((with_reducible refine Call_ ?_ ?he); (case he => rfl))
  | with_reducible refine wpAny_Call_Name_kw ?_
  | ((with_reducible refine Assign_Tuple ?_ ?hs ?hw); (case hs => rfl); (case hw => rfl))
  | ((with_reducible refine plainObj_wpAny_Assign_Attribute ?_ ?hs); (case hs => rfl))
  | with_reducible refine truthy_none ?_
  | with_reducible refine wpAny_Break ?_
  | ((with_reducible refine callWith_builtin1 ?_ ?he ?hp); (case he => rfl); (case hp => rfl))
  | ((with_reducible refine args_cons ?_ ?he); (case he => rfl))
  | with_reducible refine args_nil ?_
  | ((with_reducible refine callWith_type1 ?_ ?he ?hp); (case he => rfl); (case hp => rfl))
  | ((with_reducible refine' rng2 ?F ?_); (case F => assumption); intro R' ta' tb' tc' h' t' hR' F')
  | ((with_reducible refine' rng1 ?F ?_); (case F => assumption); intro R' ta' tb' tc' h' t' hR' F')
  | ((with_reducible refine wpAny_For ?_ ?hs); (case hs => intro _; rfl))
  | ((with_reducible refine wpAny_Expr ?_ ?hi ?hs); (case hi => rfl); (case hs => rfl))
  | with_reducible refine List_ ?_
  | with_reducible refine Tuple_ ?_
  | ((with_reducible refine' appendM ?ho ?hc ?hd ?_); (case ho => walk_at "get"); (case hc => rfl); (case hd => rfl))
  | ((with_reducible refine callWith_method1 ?_ ?he ?hp); (case he => rfl); (case hp => rfl))
  | ((with_reducible refine' maxG ?F ?hh ?_); (case F => assumption); (case hh => assumption); intro v' h' t' F')
  | ((with_reducible refine' minG ?F ?hh ?_); (case F => assumption); (case hh => assumption); intro v' h' t' F')
  | with_reducible refine PySem.EqNone.ne_none_none ?_
  | with_reducible refine BoolOp_and ?_
  | with_reducible refine BoolOp_one ?_
  | with_reducible refine PyProof.Rows.ne_bool ?_
  | ((with_reducible refine PyProof.Rows.isTrue_chain ?_ ?hm); (case hm => with_unfolding_all rfl))
  | with_reducible refine PyProof.Rows.test_link ?_
  | with_reducible refine PyProof.Rows.test_last ?_
  | dsimp only)
local macro_rules | `(tactic| walk_at "go1") => `(tactic| first | with_reducible refine wpAny_execs_cons ?_ | walk_at "go0")
local macro_rules | `(tactic| walk_at "go") => `(tactic| repeat (walk_at "go1"))
local macro_rules | `(tactic| walk_at "gs") => `(tactic| repeat (walk_at "go0"))
local macro_rules | `(tactic| walk_at "mem") => `(tactic| first | exact List.Mem.head _ | assumption | exact List.Mem.tail _ (List.Mem.head _) | exact List.Mem.tail _ (List.Mem.tail _ (List.Mem.head _)) | exact List.Mem.tail _ (List.Mem.tail _ (List.Mem.tail _ (List.Mem.head _))) | (simp; done))
local macro_rules | `(tactic| walk_at "get") => `(tactic| first | exact Fn.get (by assumption) (by walk_at "mem") | exact Fn.getU (by assumption) (by walk_at "mem"))
local macro_rules | `(tactic| walk_at "len") => `(tactic| ((with_reducible refine' lenL ?ho ?hb ?_); (case ho => walk_at "get"); (case hb => first | assumption | omega); intro tl' ul'))
local macro_rules | `(tactic| walk_at "item") => `(tactic| ((with_reducible refine' itemI ?ho ?hi ?h0 ?h1 ?hb ?_ ?hs ?ht); (case ho => walk_at "get"); (case hi => assumption); (case h0 => omega); (case h1 => omega); (case hb => first | assumption | omega); (case hs => with_unfolding_all rfl); (case ht => intro _; with_unfolding_all rfl); intro ti'))
local macro_rules | `(tactic| walk_at "itemV") => `(tactic| ((with_reducible refine' itemV ?ho ?h0 ?h1 ?hb ?_ ?hs ?ht); (case ho => walk_at "get"); (case h0 => omega); (case h1 => omega); (case hb => first | assumption | omega); (case hs => with_unfolding_all rfl); (case ht => intro _; with_unfolding_all rfl)))
local macro_rules | `(tactic| walk_at "last") => `(tactic| ((with_reducible refine' itemLast ?ho ?hi ?h1 ?hb ?_ ?hs ?ht); (case ho => walk_at "get"); (case hi => assumption); (case h1 => omega); (case hb => omega); (case hs => with_unfolding_all rfl); (case ht => intro _; with_unfolding_all rfl); intro ti'))
def WStep (f ws : List Int) (k : Nat) : Prop := ∃ p : Nat, p ≤ k ∧ ws.getD (k + 1) 0 = ws.getD k 0 + ws.getD p 0 ∧ (∀ i : Nat, i < p → f.getD (ws.getD i 0).toNat 0 < ws.getD k 0) ∧ (p = k ∨ ws.getD k 0 ≤ f.getD (ws.getD p 0).toNat 0)
def WChain (f ws : List Int) : Prop := 1 ≤ ws.length ∧ ws.getD 0 0 = 1 ∧ ∀ k : Nat, k + 1 < ws.length → WStep f ws k
theorem WChain.ge {f ws : List Int} (x : WChain f ws) : ∀ k : Nat, k < ws.length → (k : Int) + 1 ≤ ws.getD k 0
  | k, hk => by
    induction k using Nat.strongRecOn with
    | ind k ih =>
      cases k with
      | zero => rw [x.2.1]; omega
      | succ k =>
        obtain ⟨p, h1, h2, _⟩ := x.2.2 k hk
        have := ih k (by omega) (by omega)
        have := ih p (by omega) (by omega)
        omega
theorem WChain.lt {f ws : List Int} (x : WChain f ws) {i : Nat} : ∀ j : Nat, i < j → j < ws.length → ws.getD i 0 < ws.getD j 0
  | 0, h, _ => by omega
  | j + 1, h, hj => by
    obtain ⟨p, h1, h2, _⟩ := x.2.2 j hj
    have hp := x.ge p (by omega)
    by_cases e : i = j
    · subst e; omega
    · have := x.lt (i := i) j (by omega) (by omega); omega
theorem WChain.snoc {f ws : List Int} {y : Int} (x : WChain f ws) (h : ∃ p : Nat, p ≤ ws.length - 1 ∧ y = ws.getD (ws.length - 1) 0 + ws.getD p 0 ∧ (∀ i : Nat, i < p → f.getD (ws.getD i 0).toNat 0 < ws.getD (ws.length - 1) 0) ∧ (p = ws.length - 1 ∨ ws.getD (ws.length - 1) 0 ≤ f.getD (ws.getD p 0).toNat 0)) : WChain f (ws ++ [y]) := by
  have ge : ∀ j, j < ws.length → (ws ++ [y]).getD j 0 = ws.getD j 0 := fun j hj => getD_left hj
  refine ⟨by simp, by rw [ge 0 x.1]; exact x.2.1, fun k hk => ?_⟩
  rw [List.length_append, List.length_singleton] at hk
  by_cases e : k + 1 < ws.length
  · obtain ⟨p, h1, h2, h3, h4⟩ := x.2.2 k e
    exact ⟨p, h1, by rw [ge _ (by omega), ge _ (by omega), ge _ (by omega)]; exact h2, fun i hi => by rw [ge _ (by omega), ge _ (by omega)]; exact h3 i hi, by rw [ge _ (by omega), ge _ (by omega)]; exact h4⟩
  · have ek : k = ws.length - 1 := by omega
    obtain ⟨p, h1, h2, h3, h4⟩ := h
    have hx1 := x.1
    subst ek
    refine ⟨p, h1, ?_, fun i hi => by rw [ge _ (by omega), ge _ (by omega)]; exact h3 i hi, by rw [ge _ (by omega), ge _ (by omega)]; exact h4⟩
    rw [ge (ws.length - 1) (by omega), ge p (by omega), getD_last (by omega)]; exact h2

theorem In.kept {K : Frag} {h h' : Heap} (x : K.In h) (k : Keep h h') (hn : ∀ a o, K.lookup a = some o → NT o) : K.In h' := fun a o e => k.obj _ _ (x a o e) (hn a o e)
theorem KDl.nt {t t' : Tok} {hs : Int} : ∀ a o, (KDl t t' hs).lookup a = some o → NT o := fun a o e => by
  simp only [List.lookup] at e
  split at e
  · cases e; exact NF.nt nofun
  · split at e
    · cases e; exact NF.nt nofun
    · cases e
theorem KDr.nt {t t' : Tok} {hs : Int} : ∀ a o, (KDr t t' hs).lookup a = some o → NT o := fun a o e => by
  simp only [List.lookup] at e
  split at e
  · cases e; exact NF.nt nofun
  · split at e
    · cases e; exact NF.nt nofun
    · cases e
theorem IntsAre.take {vs : List Value} {xs : List Int} (h : IntsAre vs xs) (k : Nat) : IntsAre (vs.take k) (xs.take k) := by
  induction h generalizing k with
  | nil => simp; exact .nil
  | cons a b c ih => cases k with
    | zero => exact .nil
    | succ k => exact .cons _ _ (ih k)
theorem getD_take {l : List Int} {k i : Nat} (h : i < k) : (l.take k).getD i 0 = l.getD i 0 := by simp [List.getD, List.getElem?_take, h]
theorem getD_map' {l : List Int} {g : Int → Int} {i : Nat} (h : i < l.length) : (l.map g).getD i 0 = g (l.getD i 0) := by simp [List.getD, h]

theorem weights_spec {prog : Program} {w : World} {h : Heap} {fa l c fb cb : Addr} {vs : List Value} {f : List Int} {n top : Nat} {t tD tK : Tok} {hsK : Int} {mg mb : Str → Option Value}
    (D : IsDef pw1 8 h fa .none .none c) (hc : CodeG h c) (G : Gl mg mb h) (Db : IsDef pw1 4 h fb (.ref 31) (.ref 32) cb) (hcb : CodeP h cb) (X : (KDl tD tK hsK).In h) (hlen : mg "len" = none) (hlen' : mb "len" = some (.builtin "len")) (hbl : mg "bisect_left" = some (.ref fb))
    (hl : h.get? l = some (listOf vs.toArray n)) (hi : IntsAre vs f) (hsz : f.length = top + 1) (htop : top < 1000) (hso : Sorted f) :
    Mine.Calls prog w 5 (.ref fa) ⟨[.ref l, .int top t], []⟩ h (fun v h' => ∃ r vs' n' ws, v = .ref r ∧ New h h' [(r, listOf vs'.toArray n')] ∧ IntsAre vs' (ws.take (ws.length - 1)) ∧ WChain f ws ∧ (top : Int) < ws.getD (ws.length - 1) 0 ∧ ∀ k : Nat, k + 1 < ws.length → ws.getD k 0 ≤ top) := by
  have hlv : vs.length = f.length := hi.length
  obtain ⟨name, qual, doc, pm, an, ct, oc, od, osl, e⟩ := D
  refine Calls.enter (binds := [("rule", .ref l), ("top", .int top t)]) e rfl hc.rec' G.lim (fun s₀ t => BindsTo.of_eq rfl) ?_ rfl rfl rfl rfl
  intro A s₀ t q L h₁ hr F
  replace F : Fn h L (fun _ => none) [(L + 1, cellObj none)] [] [] h₁ := F
  refine stC (c := L + 1) F rfl rfl (fun h₂ o₂ ho₂ F₂ => ?_) rfl rfl
  refine stL F₂ (fun h₃ t₃ F₃ => ?_) rfl rfl
  refine ⟨h₃, t₃, rfl, F₃.keep, fun A hr => ?_⟩
  have hh := hr.handled
  replace F₃ := ((F₃.freeze.recall hl (NF.nt nofun)).recallC hc)
  show wpAny _ _ (execs (_ :: _) _) _ _ _
  clear F F₂
  walk_at "go"
  refine listG F₃ fun r h₄ _ F₄ => ?_
  walk_at "go"
  rename_i F₅
  refine while_G (fun k s => ∃ (h' : Heap) (t' : Nat) (m : Str → Option Value) (vs' : List Value) (n' : Nat) (ws : List Int) (tt : Tok), s = St s₀ h' t' ∧ Fn h L m [(r, listOf vs'.toArray n')] [(l, listOf vs.toArray n), (L + 1, o₂)] [c] h' ∧ m "top" = some (.int top tt) ∧ m "weights" = some (.ref r) ∧
      IntsAre vs' ws ∧ WChain f ws ∧ (∀ k : Nat, k + 1 < ws.length → ws.getD k 0 ≤ top) ∧ k = ((top : Int) + 1 - ws.getD (ws.length - 1) 0).toNat) top
      ⟨_, _, _, _, _, [1], _, rfl, F₅, rfl, rfl, .cons _ _ .nil, ⟨by simp, rfl, fun k hk => by simp at hk⟩, fun k hk => by simp at hk, by simp⟩ ?_
  rintro k s ⟨h', t', m, vs', n', ws, tt, rfl, F, mt, mw, hI, hW, hW2, rfl⟩
  have hlw : vs'.length = ws.length := hI.length
  have hW1 := hW.1
  have hwl : (ws.length : Int) ≤ top + 2 := by
    by_cases e : ws.length ≤ 1
    · omega
    · have a1 := hW.ge (ws.length - 2) (by omega)
      have a2 := hW2 (ws.length - 2) (by omega)
      omega
  walk_at "go"
  walk_at "last"
  walk_at "go"
  refine split_dec (fun hle => ?_) (fun hle => ?_)
  · walk_at "go"
    have Db' := Db
    obtain ⟨nb, qb, docb, pmb, anb, ctb, ocb, odb, oslb, eb⟩ := Db
    refine callWith_def_kw (o := ⟨ocb, odb, .func (fnX nb qb (FD pw1 4).1 (FD pw1 4).2.1 (FD pw1 4).2.2 [] (.ref 31) (.ref 32) docb pmb anb (.ref cb) ctb), oslb⟩) rfl ?_
    refine evalArgs_kw2 rfl ?_
    walk_at "go"
    rename_i Fa
    refine sliceG Fa (Fa.getU (.head _)) .none (.int _ _) .none nofun ?_ (by show _ ≤ 16777216; omega)
    intro b h₆ _ F₆
    walk_at "go"
    walk_at "last"
    walk_at "go"
    refine kwAll_cons ?_
    refine lambdaT F₆ G rfl (.head _) rfl rfl rfl fun fk ck ctk dock pmk h₇ t₇ hfk k₇ F₇ => ?_
    walk_at "go"
    refine kwAll_nil ?_
    rw [pick_butlast] at F₇
    refine ⟨(Keep.obj F₇.keep _ _ eb (NF.nt nofun)), ?_⟩
    have hg : ∀ i, i + 1 < ws.length → ((ws.take (ws.length - 1)).map fun x => f.getD x.toNat 0).getD i 0 = f.getD (ws.getD i 0).toNat 0 := fun i hi => by
      rw [getD_map' (by simp; omega), getD_take (by omega)]
    refine callG (blk_spec (ks := (ws.take (ws.length - 1)).map fun x => f.getD x.toNat 0) (vs := vs'.take (vs'.length - 1)) (d := 1) (Db'.kept F₇.keep) (hcb.kept F₇.keep) (G.kept F₇.keep) (In.kept X F₇.keep KDl.nt) hlen hlen' (F₇.get (.tail _ (.head _))) (by simp; omega) (by simp; omega) ?_ (F₇.get (.head _)) rfl ?_) (hr.less (by omega)) ?_
    · intro i j hij hj
      simp only [List.length_map, List.length_take] at hj
      rw [hg i (by omega), hg j (by omega)]
      have a1 := hW.ge i (by omega)
      have a2 : ws.getD i 0 ≤ ws.getD j 0 := by
        by_cases e : i = j
        · subst e; exact Int.le_refl _
        · exact Int.le_of_lt (hW.lt j (by omega) (by omega))
      have a3 := hW2 j (by omega)
      exact hso _ _ (by omega) (by omega)
    · intro i v h₈ hv k₈
      have hi1 : i + 1 < ws.length := by
        have := (List.getElem?_eq_some_iff.mp hv).1
        simp at this; omega
      obtain ⟨tv, ev⟩ := ints_at (IntsAre.take hI (vs'.length - 1)) (j := i) (by simp; omega)
      rw [hv, getD_take (by omega)] at ev
      cases ev
      have F₉ := F₇.kept k₈
      refine Calls.enter (binds := [("weight", .int (ws.getD i 0) tv)]) (F₉.get (.head _)) rfl (F₉.codes _ (.head _)).rec' (G.kept F₉.keep).lim (fun s₀ t => BindsTo.of_eq rfl) ?_ rfl rfl rfl rfl
      intro A s₀ t q L' h₁ hr F
      refine stL F (fun h₂ t₂ F₂ => ?_) rfl rfl
      refine ⟨h₂, t₂, rfl, F₂.keep, fun A hr => ?_⟩
      have a1 := hW.ge i (by omega)
      have a3 := hW2 i (by omega)
      have G₉ := G.kept F₉.keep
      have F₃ := F₂.recall (F₉.get (a := l) (o := listOf vs.toArray n) (by simp)) (NF.nt nofun)
      refine Subscript_ ?_
      refine ldF (c := L + 1) rfl (F₂.keep.obj _ _ (F₉.get (a := L + 1) (o := o₂) (by simp)) (NF.nt fun vs e => by rw [ho₂] at e; cases e)) ho₂ ?_ rfl rfl
      clear F F₂
      walk_at "go"
      walk_at "item"
      exact Ret.mk F₃.keep ⟨_, by rw [hg i hi1]⟩
    · rintro v h₈ t₈ k₈ ⟨r', tr, rfl, hr0, hr1, hr2, hr3⟩
      replace F₇ := F₇.kept k₈
      clear Fa F₆ F
      simp only [List.length_map, List.length_take] at hr1 hr3
      walk_at "go"
      walk_at "last"
      walk_at "go"
      walk_at "item"
      walk_at "go"
      rename Fn _ _ _ _ _ _ _ => Fz
      refine appendG Fz (fun h₉ F₉ => ?_) (by show _ ≤ 16777216; omega)
      walk_at "go"
      have F₁₀ := F₉.sub (T' := [(l, listOf vs.toArray n), (L + 1, o₂)]) (by simp)
      have hlast : (ws ++ [ws.getD (ws.length - 1) 0 + ws.getD r'.toNat 0]).getD (ws.length + 1 - 1) 0 = ws.getD (ws.length - 1) 0 + ws.getD r'.toNat 0 := getD_last (by omega)
      have a1 := hW.ge r'.toNat (by omega)
      refine ⟨_, ?_, h₉, _, _, _, _, ws ++ [ws.getD (ws.length - 1) 0 + ws.getD r'.toNat 0], tt, rfl, { F₁₀ with codes := fun c hc => F₉.codes c (.tail _ hc) }, mt, mw, IntsAre.snoc hI, hW.snoc ⟨r'.toNat, by omega, rfl, fun i hi => ?_, ?_⟩, fun k hk => ?_, rfl⟩
      · rw [List.length_append, List.length_singleton, hlast]
        omega
      · have := hr2 i (by omega)
        rwa [hg i (by omega)] at this
      · by_cases e : r'.toNat = ws.length - 1
        · exact .inl e
        · have := hr3 r'.toNat (by omega) (by omega)
          rw [hg _ (by omega)] at this
          exact .inr this
      · rw [List.length_append, List.length_singleton] at hk
        rw [getD_left (by omega)]
        by_cases e : k = ws.length - 1
        · subst e; exact hle
        · exact hW2 k (by omega)
  · walk_at "go"
    rename_i Fa
    refine sliceG Fa (Fa.getU (.head _)) .none (.int _ _) .none nofun ?_ (by show _ ≤ 16777216; omega)
    intro b h₆ hb₆ F₆
    rw [pick_butlast] at F₆
    refine Ret.mk F₆.keep ⟨b, _, 0, ws, rfl, fun p hp => ?_, by rw [← hlw]; exact IntsAre.take hI _, hW, by omega, hW2⟩
    rw [List.mem_singleton.mp hp]
    exact ⟨F₆.get (.head _), NF.nt nofun, Fa.keep.gone hb₆⟩

end Mine

end

section
open PySem PySem.W PySem.Calls PyProof.Rows
open PySem PySem.W PySem.Calls PyProof.Rows
namespace Mine
variable [Base]
set_option maxRecDepth 100000
set_option maxHeartbeats 4000000
local macro_rules | `(tactic| walk_at "hv") => `(tactic| first | rfl | assumption)
local macro_rules | `(tactic| walk_at "dec") => `(tactic| first | rfl | assumption | exact decide_eq_true (by omega) | exact decide_eq_false (by omega))
local macro_rules | `(tactic| walk_at "go0") => `(tactic| first
  | with_reducible refine wpAny_execs_nil ?_
  | with_reducible refine wpAny_If ?_
  | ((with_reducible refine ite_f ?hdec ?_); (case hdec => walk_at "dec"))
  | ((with_reducible refine ite_t ?hdec ?_); (case hdec => walk_at "dec"))
  | ((with_reducible refine wpAny_isTrue_Compare1 ?_ ?hm); (case hm => with_unfolding_all rfl))
  | with_reducible refine isTrue_and ?_
  | with_reducible refine isTrue_and_nil ?_
  | with_reducible refine isTrue_or ?_
  | with_reducible refine isTrue_or_nil ?_
  | with_reducible refine isTrue_not ?_
  | ((with_reducible refine isTrue_plain ?_ ?he); (case he => rfl))
  | ((with_reducible refine wpAny_Assign_Name ?_ ?hs); (case hs => rfl))
  | with_reducible refine wpAny_AugAssign_Name ?_
  | with_reducible refine wpAny_Return_some ?_
  | with_reducible refine wpAny_BinOp ?_
  | ((with_reducible refine wpAny_Compare1 ?_ ?hm); (case hm => with_unfolding_all rfl))
  | with_reducible refine IfExp_ ?_
  | with_reducible refine UnaryOp_ ?_
  | with_reducible refine Subscript_ ?_
  | ((with_reducible refine' ldL ?F ?hv ?_ ?hk ?hx ?hd); (case F => assumption); (case hk => rfl); (case hx => rfl); (case hd => decide); (case hv => walk_at "hv"))
  | ((with_reducible refine' ldnL ?F ?hv ?_ ?hk ?hx); (case F => assumption); (case hk => rfl); (case hx => rfl); (case hv => walk_at "hv"))
  | ((with_reducible refine' stL ?F ?_ ?hk ?hx); (case F => assumption); (case hk => rfl); (case hx => rfl); intro h' t' F')
  | ((with_reducible refine' ldG ?F ?G ?hv ?_ ?hk ?hx ?hd); (case F => assumption); (case G => assumption); (case hk => rfl); (case hx => rfl); (case hd => decide); (case hv => assumption))
  | ((with_reducible refine' ldB ?F ?G ?hn ?hv ?_ ?hk ?hx ?hd); (case F => assumption); (case G => assumption); (case hk => rfl); (case hx => rfl); (case hd => decide); (case hn => assumption); (case hv => assumption))
  | ((with_reducible refine cInt ?_); intro _ _)
  | ((with_reducible refine cStr ?_); intro _ _)
  | with_reducible refine Constant_none ?_
  | with_reducible refine Constant_bool ?_
  | ((with_reducible refine addI ?_); intro _ _)
  | ((with_reducible refine subI ?_); intro _ _)
  | ((with_reducible refine modI ?hb ?_); (case hb => decide); intro _ _)
  | ((with_reducible refine fdivI ?hb ?hs ?_); (case hb => decide); (case hs => decide); intro _ _)
  | with_reducible refine PyProof.Rows.lt_int ?_
  | with_reducible refine PyProof.Rows.le_int ?_
  | with_reducible refine PyProof.Rows.gt_int ?_
  | with_reducible refine PyProof.Rows.ge_int ?_
  | with_reducible refine PyProof.Rows.eq_int ?_
  | with_reducible refine PyProof.Rows.ne_int ?_
  | ((with_reducible refine iaddI ?_); intro _ _)
  | ((with_reducible refine negI ?_); intro _ _)
  | with_reducible refine SliceG_ ?_
  | with_reducible refine evN ?_
  | with_reducible refine evS ?_
  | ((with_reducible refine' newSliceG ?F ?_); (case F => assumption); intro sl' hs' _ Fs')
  | with_reducible refine wpAny_truthy_bool ?_
  | with_reducible refine is_none_none ?_
  | with_reducible refine is_ref_none ?_
  | with_reducible refine is_int_none ?_
  | with_reducible refine isnot_none_none ?_
  | with_reducible refine isnot_ref_none ?_
  | ((with_reducible refine' MethodCall_ ?_ ?he); (case he => rfl))
  | ((with_reducible refine Call_ ?_ ?he); (case he => rfl))
  | with_reducible refine wpAny_Call_Name_kw ?_
  | ((with_reducible refine Assign_Tuple ?_ ?hs ?hw); (case hs => rfl); (case hw => rfl))
  | ((with_reducible refine plainObj_wpAny_Assign_Attribute ?_ ?hs); (case hs => rfl))
  | with_reducible refine truthy_none ?_
  | with_reducible refine wpAny_Break ?_
  | ((with_reducible refine callWith_builtin1 ?_ ?he ?hp); (case he => rfl); (case hp => rfl))
  | ((with_reducible refine args_cons ?_ ?he); (case he => rfl))
  | with_reducible refine args_nil ?_
  | ((with_reducible refine callWith_type1 ?_ ?he ?hp); (case he => rfl); (case hp => rfl))
  | ((with_reducible refine' rng2 ?F ?_); (case F => assumption); intro R' ta' tb' tc' h' t' hR' F')
  | ((with_reducible refine' rng1 ?F ?_); (case F => assumption); intro R' ta' tb' tc' h' t' hR' F')
  | ((with_reducible refine wpAny_For ?_ ?hs); (case hs => intro _; rfl))
  | ((with_reducible refine wpAny_Expr ?_ ?hi ?hs); (case hi => rfl); (case hs => rfl))
  | with_reducible refine List_ ?_
  | with_reducible refine Tuple_ ?_
  | ((with_reducible refine' appendM ?ho ?hc ?hd ?_); (case ho => walk_at "get"); (case hc => rfl); (case hd => rfl))
  | ((with_reducible refine callWith_method1 ?_ ?he ?hp); (case he => rfl); (case hp => rfl))
  | ((with_reducible refine' maxG ?F ?hh ?_); (case F => assumption); (case hh => assumption); intro v' h' t' F')
  | ((with_reducible refine' minG ?F ?hh ?_); (case F => assumption); (case hh => assumption); intro v' h' t' F')
  | with_reducible refine PySem.EqNone.ne_none_none ?_
  | with_reducible refine BoolOp_and ?_
  | with_reducible refine BoolOp_one ?_
  | with_reducible refine PyProof.Rows.ne_bool ?_
  | ((with_reducible refine PyProof.Rows.isTrue_chain ?_ ?hm); (case hm => with_unfolding_all rfl))
  | with_reducible refine PyProof.Rows.test_link ?_
  | with_reducible refine PyProof.Rows.test_last ?_
  | dsimp only)
local macro_rules | `(tactic| walk_at "go1") => `(tactic| first | with_reducible refine wpAny_execs_cons ?_ | walk_at "go0")
local macro_rules | `(tactic| walk_at "go") => `(tactic| repeat (walk_at "go1"))
local macro_rules | `(tactic| walk_at "gs") => `(tactic| repeat (walk_at "go0"))
local macro_rules | `(tactic| walk_at "mem") => `(tactic| first | exact List.Mem.head _ | assumption | exact List.Mem.tail _ (List.Mem.head _) | exact List.Mem.tail _ (List.Mem.tail _ (List.Mem.head _)) | exact List.Mem.tail _ (List.Mem.tail _ (List.Mem.tail _ (List.Mem.head _))) | (simp; done))
local macro_rules | `(tactic| walk_at "get") => `(tactic| first | exact Fn.get (by assumption) (by walk_at "mem") | exact Fn.getU (by assumption) (by walk_at "mem"))
local macro_rules | `(tactic| walk_at "len") => `(tactic| ((with_reducible refine' lenL ?ho ?hb ?_); (case ho => walk_at "get"); (case hb => first | assumption | omega); intro tl' ul'))
local macro_rules | `(tactic| walk_at "item") => `(tactic| ((with_reducible refine' itemI ?ho ?hi ?h0 ?h1 ?hb ?_ ?hs ?ht); (case ho => walk_at "get"); (case hi => assumption); (case h0 => omega); (case h1 => omega); (case hb => first | assumption | omega); (case hs => with_unfolding_all rfl); (case ht => intro _; with_unfolding_all rfl); intro ti'))
local macro_rules | `(tactic| walk_at "itemV") => `(tactic| ((with_reducible refine' itemV ?ho ?h0 ?h1 ?hb ?_ ?hs ?ht); (case ho => walk_at "get"); (case h0 => omega); (case h1 => omega); (case hb => first | assumption | omega); (case hs => with_unfolding_all rfl); (case ht => intro _; with_unfolding_all rfl)))
local macro_rules | `(tactic| walk_at "last") => `(tactic| ((with_reducible refine' itemLast ?ho ?hi ?h1 ?hb ?_ ?hs ?ht); (case ho => walk_at "get"); (case hi => assumption); (case h1 => omega); (case hb => omega); (case hs => with_unfolding_all rfl); (case ht => intro _; with_unfolding_all rfl); intro ti'))
/-- what search of law 1's prog answers on a text of n signs -/
def SW (ws : List Int) (n : Int) (S : Int → Option (Int × Int)) : Prop := ∀ k r : Int, 0 ≤ k → BrAt ws (n - k) r → S k = if r = 0 then none else some (k, k + ws.getD (r - 1).toNat 0)
structure G1 (mg mb : Str → Option Value) (fb cb : Addr) (tD tK : Tok) (hsK : Int) (h : Heap) : Prop where
  gl : Gl mg mb h
  br : IsDef pw1 3 h fb (.ref 22) (.ref 23) cb
  cp : CodeP h cb
  kd : (KDr tD tK hsK).In h
theorem G1.kept {mg mb : Str → Option Value} {fb cb : Addr} {tD tK : Tok} {hsK : Int} {h h' : Heap} (x : G1 mg mb fb cb tD tK hsK h) (k : Keep h h') : G1 mg mb fb cb tD tK hsK h' :=
  ⟨x.gl.kept k, x.br.kept k, x.cp.kept k, In.kept x.kd k KDr.nt⟩

def searchDef : Arguments × List Stmt × Scope := match ((FD pw1 9).2.1[0]? : Option Stmt) with
  | some (.FunctionDef _ a b _ _ _ sc _ _ _) => (a, b, sc)
  | _ => (⟨[], [], none, [], [], none, []⟩, [], { kind := .function, names := [], isGenerator := false, isCoroutine := false })

theorem search_spec {prog : Program} {w : World} {h : Heap} {f c l cw fb cb : Addr} {name qual : Str} {ow : Obj} {dV doc pm ctv : Value} {vs : List Value} {ws : List Int} {n : Nat} {x : Str} {tx tD tK tk : Tok} {hsK k : Int} {S : Int → Option (Int × Int)} {mg mb : Str → Option Value} {args : List Value}
    (hlen : mg "len" = none) (hlen' : mb "len" = some (.builtin "len")) (hbr : mg "bisect_right" = some (.ref fb))
    (hi : IntsAre vs ws) (hsz : ws.length < 1000) (hso : Sorted ws) (hS : SW ws x.length S) (hxl : x.length < 2 ^ 62) (how : ow.data = .cell (some (.ref l)))
    (G : G1 mg mb fb cb tD tK hsK h)
    (e : h.get? f = some (kdv_obj name qual searchDef.1 (.stmts searchDef.2.1) searchDef.2.2 [("weights", cw)] dV doc pm c ctv)) (hc : CodeG h c) (ew : h.get? cw = some ow) (el : h.get? l = some (listOf vs.toArray n))
    (hk : 0 ≤ k) (hb : ∀ s₀ t, BindsTo (St s₀ h t) (kdv_fn name qual searchDef.1 (.stmts searchDef.2.1) searchDef.2.2 [("weights", cw)] dV doc pm (.ref c) ctv) ⟨args, []⟩ [("line", .str x tx), ("place", .int k tk)]) :
    Mine.Calls prog w 4 (.ref f) ⟨args, []⟩ h (SearchPost prog w (S k) h) := by
  have hlv : vs.length = ws.length := hi.length
  refine Calls.enter e rfl hc.rec' G.gl.lim hb ?_ rfl rfl rfl rfl
  intro A s₀ t q L h₁ hr F
  replace F : Fn h L (fun _ => none) [(L + 2, cellObj none), (L + 1, cellObj none)] [] [] h₁ := F
  refine stL F (fun h₃ t₃ F₃ => ?_) rfl rfl
  refine stC (c := L + 1) F₃.swap rfl rfl (fun h₂ oP hoP F₂ => ?_) rfl rfl
  refine ⟨h₂, _, rfl, F₂.keep, fun A hr => ?_⟩
  have hh := hr.handled
  have GG := G.gl
  have hP0 : h.get? (L + 1) = none := (F₂.own _ (.head _)).2.2.1
  have hB0 : h.get? (L + 2) = none := (F₂.own _ (.tail _ (.head _))).2.2.1
  replace F₂ := (((F₂.freeze.recall el (NF.nt nofun)).recall ew (NF.nt fun vs e => by rw [how] at e; cases e)).recallC hc)
  show wpAny _ _ (execs (_ :: _) _) _ _ _
  clear F F₃
  obtain ⟨nb, qb, docb, pmb, anb, ctb, ocb, odb, oslb, eb⟩ := G.br
  walk_at "go"
  refine callWith_def (o := ⟨ocb, odb, .func (fnX nb qb (FD pw1 3).1 (FD pw1 3).2.1 (FD pw1 3).2.2 [] (.ref 22) (.ref 23) docb pmb anb (.ref cb) ctb), oslb⟩) rfl ?_
  walk_at "go"
  refine ldF (c := cw) rfl (F₂.get (.head _)) how ?_ rfl rfl
  walk_at "go"
  refine lenS hxl fun _ _ => ?_
  walk_at "go"
  refine ldC (c := L + 1) rfl (F₂.get (.tail _ (.tail _ (.head _)))) hoP ?_ rfl rfl
  walk_at "go"
  refine ⟨F₂.keep.obj _ _ eb (NF.nt nofun), ?_⟩
  refine callG (br_spec (G.br.kept F₂.keep) (G.cp.kept F₂.keep) (G.gl.kept F₂.keep) (In.kept G.kd F₂.keep KDr.nt) hlen hlen' (F₂.get (.tail _ (.head _))) hi (by omega) hso) (hr.less (by omega)) ?_
  rintro v h₈ t₈ k₈ ⟨r, tr, rfl, hr0⟩
  replace F₂ := F₂.kept k₈
  have hSr := hS k r hk hr0
  have hr1 := hr0.2.1
  have hr2 := hr0.1
  walk_at "go"
  refine split_bool (fun hb => ?_) (fun hb => ?_)
  · rw [if_pos (by simpa using hb)] at hSr
    walk_at "go"
    rename Fn _ _ _ _ _ _ _ => Fz
    refine Ret.mk Fz.keep ?_
    rw [hSr]; rfl
  · have hb' : ¬ r = 0 := by simpa using hb
    rw [if_neg hb'] at hSr
    walk_at "go"
    rename Fn _ _ _ _ _ _ _ => Fz
    refine ldC (c := L + 1) rfl (Fz.get (.tail _ (.tail _ (.head _)))) hoP ?_ rfl rfl
    walk_at "go"
    refine ldF (c := cw) rfl (Fz.get (.head _)) how ?_ rfl rfl
    walk_at "go"
    walk_at "item"
    walk_at "go"
    refine stC (c := L + 2) Fz rfl rfl (fun h₄ oB hoB F₄ => ?_) rfl rfl
    replace F₄ := F₄.freeze
    clear Fz F₂
    walk_at "go"
    refine lambdaU F₄ GG rfl (.head _) rfl rfl rfl fun fh ch cth doch pmh h₅ t₅ hfh k₅ F₅ => ?_
    clear F₄
    walk_at "go"
    rename Fn _ _ _ _ _ _ _ => F₆
    refine lambdaT F₆ GG rfl (.tail _ (.head _)) rfl rfl rfl fun fs cs cts docs pms h₇ t₇ hfs k₇ F₇ => ?_
    have hK6 := F₆.keep
    clear F₆ F₅
    walk_at "go"
    refine fn_setattr F₇ fn_span fun dd od h₈ t₈ hod F₈ => ?_
    walk_at "go"
    have Ff := F₈.freeze.freeze
    clear F₇
    refine Ret.mk F₈.keep ?_
    rw [hSr]
    have hfs' : h.get? fs = none := hK6.gone hfs
    exact hitPost F₈ hfs' (c1 := L + 1) (c2 := L + 2) (o1 := oP) (o2 := oB) (by simp) hP0 (by simp) hB0 hod hoP hoB rfl rfl rfl rfl rfl (fun _ => rfl) (fun _ _ _ _ _ => rfl) (fun _ _ _ _ _ => rfl) rfl rfl rfl rfl

theorem prog_spec {prog : Program} {w : World} {h : Heap} {fa c l fb cb : Addr} {vs : List Value} {ws : List Int} {n : Nat} {tD tK : Tok} {hsK : Int} {mg mb : Str → Option Value}
    (D : IsDef pw1 9 h fa .none .none c) (hc : CodeG h c)
    (hlen : mg "len" = none) (hlen' : mb "len" = some (.builtin "len")) (hbr : mg "bisect_right" = some (.ref fb))
    (hi : IntsAre vs ws) (hsz : ws.length < 1000) (hso : Sorted ws) (GG : Gl mg mb h) (el : h.get? l = some (listOf vs.toArray n)) :
    Mine.Calls prog w 2 (.ref fa) ⟨[.ref l], []⟩ h (fun v h' => ∃ p N Cs, v = .ref p ∧ New h h' N ∧ (∀ c ∈ Cs, CodeG h' c) ∧
      ∀ (x : Str) (tx : Tok) (S : Int → Option (Int × Int)), x.length < 2 ^ 62 → SW ws x.length S → Prog prog w (G1 mg mb fb cb tD tK hsK) 4 (.str x tx) S p ((l, listOf vs.toArray n) :: N) Cs) := by
  obtain ⟨name, qual, doc, pm, an, ct, oc, od, osl, e⟩ := D
  refine Calls.enter (binds := [("weights", .ref l)]) e rfl hc.rec' GG.lim (fun s₀ t => BindsTo.of_eq rfl) ?_ rfl rfl rfl rfl
  intro A s₀ t q L h₁ hr F
  replace F : Fn h L (fun _ => none) [(L + 1, cellObj none)] [] [] h₁ := F
  refine stC (c := L + 1) F rfl rfl (fun h₂ oW hoW F₂ => ?_) rfl rfl
  refine ⟨h₂, _, rfl, F₂.keep, fun A hr => ?_⟩
  have hh := hr.handled
  have hW0 : h.get? (L + 1) = none := (F₂.own _ (.head _)).2.2.1
  replace F₂ := (F₂.freeze.recall el (NF.nt nofun)).recallC hc
  show wpAny _ _ (execs (_ :: _) _) _ _ _
  clear F
  walk_at "go"
  refine defT F₂ GG rfl (.head _) rfl rfl rfl fun f d c' ctv doc pm td h₃ t₃ hf hd k₃ F₃ => ?_
  have hf0 := F₂.keep.gone hf
  have hd0 := F₂.keep.gone hd
  clear F₂
  walk_at "go"
  rename Fn _ _ _ _ _ _ _ => F₄
  refine lambdaU F₄ GG rfl (.tail _ (.head _)) rfl rfl rfl fun fp cp' ctp docp pmp h₅ t₅ hfp k₅ F₅ => ?_
  clear F₄ F₃
  walk_at "go"
  rename Fn _ _ _ _ _ _ _ => F₆
  refine fn_setattr F₆ fn_search fun dd od h₈ t₈ hod F₈ => ?_
  walk_at "go"
  obtain ⟨N, hN, hsub, mk⟩ := progFin (prog := prog) (w := w) (Cs := [c']) F₈ hod (New.cons (F₈.get (.head _)) (NF.nt nofun) hf0 (New.cons (F₈.get (.tail _ (.head _))) (NF.nt nofun) hd0 (New.cons (F₈.get (a := L + 1) (o := oW) (by simp)) (NF.nt fun vs e => by rw [hoW] at e; cases e) hW0 (New.nil _ _)))) (.head _)
  refine Ret.mk F₈.keep ⟨fp, N, [c'], rfl, hN, fun c hc => by rw [List.mem_singleton.mp hc]; exact F₈.codes _ (by simp), fun x tx S hxl hS => mk (R := (l, _) :: N) (fun q hq => .tail _ hq) (fun g Hg Gg => ?_) fun k t g hk Hg Gg => ?_⟩
  · refine search_spec (k := 0) (tk := td) (tx := tx) (cw := L + 1) hlen hlen' hbr hi hsz hso hS hxl hoW Gg (Hg.obj _ (.tail _ (hsub _ (.head _)))) (Hg.code _ (.head _)) (Hg.obj (L + 1, oW) (.tail _ (hsub _ (by simp)))) (Hg.obj (l, _) (.head _)) (by decide) fun s₀ t => ?_
    have hdd : (St s₀ g t).heap.get? d = some (kdv_tup [.int 0 td]) := Hg.obj (d, kdv_tup [.int 0 td]) (.tail _ (hsub _ (by simp)))
    exact BindsTo.of_defaults rfl hdd rfl rfl rfl
  · refine search_spec (k := k) (tk := t) (tx := tx) (cw := L + 1) hlen hlen' hbr hi hsz hso hS hxl hoW Gg (Hg.obj _ (.tail _ (hsub _ (.head _)))) (Hg.code _ (.head _)) (Hg.obj (L + 1, oW) (.tail _ (hsub _ (by simp)))) (Hg.obj (l, _) (.head _)) hk fun s₀ t => ?_
    have hdd : (St s₀ g t).heap.get? d = some (kdv_tup [.int 0 td]) := Hg.obj (d, kdv_tup [.int 0 td]) (.tail _ (hsub _ (by simp)))
    exact BindsTo.of_defaults rfl hdd rfl rfl rfl

end Mine

end

section
open PySem PySem.W PySem.Calls PyProof.Rows
open PySem PySem.W PySem.Calls PyProof.Rows
namespace Mine
variable [Base]
set_option maxRecDepth 100000
set_option maxHeartbeats 4000000
local macro_rules | `(tactic| walk_at "hv") => `(tactic| first | rfl | assumption)
local macro_rules | `(tactic| walk_at "dec") => `(tactic| first | rfl | assumption | exact decide_eq_true (by omega) | exact decide_eq_false (by omega))
local macro_rules | `(tactic| walk_at "go0") => `(tactic| first
  | with_reducible refine wpAny_execs_nil ?_
  | with_reducible refine wpAny_If ?_
  | ((with_reducible refine ite_f ?hdec ?_); (case hdec => walk_at "dec"))
  | ((with_reducible refine ite_t ?hdec ?_); (case hdec => walk_at "dec"))
  | ((with_reducible refine wpAny_isTrue_Compare1 ?_ ?hm); (case hm => with_unfolding_all rfl))
  | with_reducible refine isTrue_and ?_
  | with_reducible refine isTrue_and_nil ?_
  | with_reducible refine isTrue_or ?_
  | with_reducible refine isTrue_or_nil ?_
  | with_reducible refine isTrue_not ?_
  | ((with_reducible refine isTrue_plain ?_ ?he); (case he => rfl))
  | ((with_reducible refine wpAny_Assign_Name ?_ ?hs); (case hs => rfl))
  | with_reducible refine wpAny_AugAssign_Name ?_
  | with_reducible refine wpAny_Return_some ?_
  | with_reducible refine wpAny_BinOp ?_
  | ((with_reducible refine wpAny_Compare1 ?_ ?hm); (case hm => with_unfolding_all rfl))
  | with_reducible refine IfExp_ ?_
  | with_reducible refine UnaryOp_ ?_
  | with_reducible refine Subscript_ ?_
  | ((with_reducible refine' ldL ?F ?hv ?_ ?hk ?hx ?hd); (case F => assumption); (case hk => rfl); (case hx => rfl); (case hd => decide); (case hv => walk_at "hv"))
  | ((with_reducible refine' ldnL ?F ?hv ?_ ?hk ?hx); (case F => assumption); (case hk => rfl); (case hx => rfl); (case hv => walk_at "hv"))
  | ((with_reducible refine' stL ?F ?_ ?hk ?hx); (case F => assumption); (case hk => rfl); (case hx => rfl); intro h' t' F')
  | ((with_reducible refine' ldG ?F ?G ?hv ?_ ?hk ?hx ?hd); (case F => assumption); (case G => assumption); (case hk => rfl); (case hx => rfl); (case hd => decide); (case hv => assumption))
  | ((with_reducible refine' ldB ?F ?G ?hn ?hv ?_ ?hk ?hx ?hd); (case F => assumption); (case G => assumption); (case hk => rfl); (case hx => rfl); (case hd => decide); (case hn => assumption); (case hv => assumption))
  | ((with_reducible refine cInt ?_); intro _ _)
  | ((with_reducible refine cStr ?_); intro _ _)
  | with_reducible refine Constant_none ?_
  | with_reducible refine Constant_bool ?_
  | ((with_reducible refine addI ?_); intro _ _)
  | ((with_reducible refine subI ?_); intro _ _)
  | ((with_reducible refine modI ?hb ?_); (case hb => decide); intro _ _)
  | ((with_reducible refine fdivI ?hb ?hs ?_); (case hb => decide); (case hs => decide); intro _ _)
  | with_reducible refine PyProof.Rows.lt_int ?_
  | with_reducible refine PyProof.Rows.le_int ?_
  | with_reducible refine PyProof.Rows.gt_int ?_
  | with_reducible refine PyProof.Rows.ge_int ?_
  | with_reducible refine PyProof.Rows.eq_int ?_
  | with_reducible refine PyProof.Rows.ne_int ?_
  | ((with_reducible refine iaddI ?_); intro _ _)
  | ((with_reducible refine negI ?_); intro _ _)
  | with_reducible refine SliceG_ ?_
  | with_reducible refine evN ?_
  | with_reducible refine evS ?_
  | ((with_reducible refine' newSliceG ?F ?_); (case F => assumption); intro sl' hs' _ Fs')
  | with_reducible refine wpAny_truthy_bool ?_
  | with_reducible refine is_none_none ?_
  | with_reducible refine is_ref_none ?_
  | with_reducible refine is_int_none ?_
  | with_reducible refine isnot_none_none ?_
  | with_reducible refine isnot_ref_none ?_
  | ((with_reducible refine' MethodCall_ ?_ ?he); (case he => rfl))
  | ((with_reducible refine Call_ ?_ ?he); (case he => rfl))
  | with_reducible refine wpAny_Call_Name_kw ?_
  | ((with_reducible refine Assign_Tuple ?_ ?hs ?hw); (case hs => rfl); (case hw => rfl))
  | ((with_reducible refine plainObj_wpAny_Assign_Attribute ?_ ?hs); (case hs => rfl))
  | with_reducible refine truthy_none ?_
  | with_reducible refine wpAny_Break ?_
  | ((with_reducible refine callWith_builtin1 ?_ ?he ?hp); (case he => rfl); (case hp => rfl))
  | ((with_reducible refine args_cons ?_ ?he); (case he => rfl))
  | with_reducible refine args_nil ?_
  | ((with_reducible refine callWith_type1 ?_ ?he ?hp); (case he => rfl); (case hp => rfl))
  | ((with_reducible refine' rng2 ?F ?_); (case F => assumption); intro R' ta' tb' tc' h' t' hR' F')
  | ((with_reducible refine' rng1 ?F ?_); (case F => assumption); intro R' ta' tb' tc' h' t' hR' F')
  | ((with_reducible refine wpAny_For ?_ ?hs); (case hs => intro _; rfl))
  | ((with_reducible refine wpAny_Expr ?_ ?hi ?hs); (case hi => rfl); (case hs => rfl))
  | with_reducible refine List_ ?_
  | with_reducible refine Tuple_ ?_
  | ((with_reducible refine' appendM ?ho ?hc ?hd ?_); (case ho => walk_at "get"); (case hc => rfl); (case hd => rfl))
  | ((with_reducible refine callWith_method1 ?_ ?he ?hp); (case he => rfl); (case hp => rfl))
  | ((with_reducible refine' maxG ?F ?hh ?_); (case F => assumption); (case hh => assumption); intro v' h' t' F')
  | ((with_reducible refine' minG ?F ?hh ?_); (case F => assumption); (case hh => assumption); intro v' h' t' F')
  | with_reducible refine PySem.EqNone.ne_none_none ?_
  | with_reducible refine BoolOp_and ?_
  | with_reducible refine BoolOp_one ?_
  | with_reducible refine PyProof.Rows.ne_bool ?_
  | ((with_reducible refine PyProof.Rows.isTrue_chain ?_ ?hm); (case hm => with_unfolding_all rfl))
  | with_reducible refine PyProof.Rows.test_link ?_
  | with_reducible refine PyProof.Rows.test_last ?_
  | dsimp only)
local macro_rules | `(tactic| walk_at "go1") => `(tactic| first | with_reducible refine wpAny_execs_cons ?_ | walk_at "go0")
local macro_rules | `(tactic| walk_at "go") => `(tactic| repeat (walk_at "go1"))
local macro_rules | `(tactic| walk_at "gs") => `(tactic| repeat (walk_at "go0"))
local macro_rules | `(tactic| walk_at "mem") => `(tactic| first | exact List.Mem.head _ | assumption | exact List.Mem.tail _ (List.Mem.head _) | exact List.Mem.tail _ (List.Mem.tail _ (List.Mem.head _)) | exact List.Mem.tail _ (List.Mem.tail _ (List.Mem.tail _ (List.Mem.head _))) | (simp; done))
local macro_rules | `(tactic| walk_at "get") => `(tactic| first | exact Fn.get (by assumption) (by walk_at "mem") | exact Fn.getU (by assumption) (by walk_at "mem"))
local macro_rules | `(tactic| walk_at "len") => `(tactic| ((with_reducible refine' lenL ?ho ?hb ?_); (case ho => walk_at "get"); (case hb => first | assumption | omega); intro tl' ul'))
local macro_rules | `(tactic| walk_at "item") => `(tactic| ((with_reducible refine' itemI ?ho ?hi ?h0 ?h1 ?hb ?_ ?hs ?ht); (case ho => walk_at "get"); (case hi => assumption); (case h0 => omega); (case h1 => omega); (case hb => first | assumption | omega); (case hs => with_unfolding_all rfl); (case ht => intro _; with_unfolding_all rfl); intro ti'))
local macro_rules | `(tactic| walk_at "itemV") => `(tactic| ((with_reducible refine' itemV ?ho ?h0 ?h1 ?hb ?_ ?hs ?ht); (case ho => walk_at "get"); (case h0 => omega); (case h1 => omega); (case hb => first | assumption | omega); (case hs => with_unfolding_all rfl); (case ht => intro _; with_unfolding_all rfl)))
local macro_rules | `(tactic| walk_at "last") => `(tactic| ((with_reducible refine' itemLast ?ho ?hi ?h1 ?hb ?_ ?hs ?ht); (case ho => walk_at "get"); (case hi => assumption); (case h1 => omega); (case hb => omega); (case hs => with_unfolding_all rfl); (case ht => intro _; with_unfolding_all rfl); intro ti'))
theorem nil_or_snoc (l : List Int) : l = [] ∨ ∃ L b, l = L ++ [b] := by
  rcases List.eq_nil_or_concat l with h | ⟨L, b, h⟩
  · exact .inl h
  · exact .inr ⟨L, b, by rw [h, List.concat_eq_append]⟩
def isum : List Int → Int
  | [] => 0
  | a :: l => a + isum l
theorem isum_append (l l' : List Int) : isum (l ++ l') = isum l + isum l' := by
  induction l with
  | nil => simp [isum]
  | cons a l ih => simp only [List.cons_append, isum, ih]; omega

structure Sch (f ws ls : List Int) (top : Nat) : Prop where
  fl : f.length = top + 1
  mono : Sorted f
  ge : ∀ t : Nat, t ≤ top → (t : Int) ≤ f.getD t 0
  ch : WChain f ws
  big : (top : Int) < ws.getD (ws.length - 1) 0
  small : ∀ k : Nat, k + 1 < ws.length → ws.getD k 0 ≤ top
  le : LeastL f ls top
def IsW (ws : List Int) (a : Int) : Prop := ∃ k : Nat, k + 1 < ws.length ∧ ws.getD k 0 = a
def Gapped (f ws l : List Int) : Prop := l.Pairwise (fun a b => f.getD b.toNat 0 < a) ∧ ∀ a ∈ l, IsW ws a

section
variable {f ws ls : List Int} {top : Nat}
theorem Sch.pos (X : Sch f ws ls top) {a : Int} (h : IsW ws a) : 1 ≤ a ∧ a ≤ top := by
  obtain ⟨k, hk, rfl⟩ := h
  have := X.ch.ge k (by omega)
  have := X.small k hk
  omega
theorem Sch.idx (X : Sch f ws ls top) {i j : Nat} (hi : i < ws.length) (h : ws.getD i 0 < ws.getD j 0) : i < j := by
  refine Decidable.byContradiction fun c => ?_
  by_cases e : i = j
  · subst e; omega
  · have := X.ch.lt (i := j) i (by omega) hi; omega
theorem Sch.mono' (X : Sch f ws ls top) {a b : Int} (h0 : 0 ≤ a) (h : a ≤ b) (hb : b ≤ top) : f.getD a.toNat 0 ≤ f.getD b.toNat 0 :=
  X.mono _ _ (by omega) (by have := X.fl; omega)
theorem Sch.ge' (X : Sch f ws ls top) {a : Int} (h0 : 0 ≤ a) (hb : a ≤ top) : a ≤ f.getD a.toNat 0 := by
  have := X.ge a.toNat (by omega); omega
theorem Sch.below (X : Sch f ws ls top) {k i p : Nat} (hk : k + 1 < ws.length) (hi : i + 1 < ws.length) (hp : p ≤ k) (h : p = k ∨ ws.getD k 0 ≤ f.getD (ws.getD p 0).toNat 0)
    (hlt : f.getD (ws.getD i 0).toNat 0 < ws.getD k 0) : i < p := by
  refine Decidable.byContradiction fun c => ?_
  have pi := X.pos ⟨i, hi, rfl⟩
  have pp := X.pos ⟨p, by omega, rfl⟩
  have hle : ws.getD p 0 ≤ ws.getD i 0 := by
    by_cases e : p = i
    · subst e; exact Int.le_refl _
    · exact Int.le_of_lt (X.ch.lt (i := p) i (by omega) (by omega))
  have h1 := X.mono' (by omega) hle pi.2
  have h2 := X.ge' (by omega) pi.2
  rcases h with rfl | h <;> omega
theorem Gapped.tail {a : Int} {l : List Int} (h : Gapped f ws (a :: l)) : Gapped f ws l := ⟨(List.pairwise_cons.mp h.1).2, fun x hx => h.2 x (List.mem_cons_of_mem _ hx)⟩
theorem Gapped.nil : Gapped f ws [] := ⟨.nil, fun _ h => nomatch h⟩
theorem Gapped.left {l l' : List Int} (h : Gapped f ws (l ++ l')) : Gapped f ws l := ⟨(List.pairwise_append.mp h.1).1, fun x hx => h.2 x (List.mem_append.mpr (.inl hx))⟩
theorem Gapped.right {l l' : List Int} (h : Gapped f ws (l ++ l')) : Gapped f ws l' := ⟨(List.pairwise_append.mp h.1).2.1, fun x hx => h.2 x (List.mem_append.mpr (.inr hx))⟩
theorem Sch.nonneg (X : Sch f ws ls top) : ∀ {l : List Int}, (∀ a ∈ l, IsW ws a) → 0 ≤ isum l
  | [], _ => by simp [isum]
  | a :: l, h => by
    have h1 := X.pos (h a List.mem_cons_self)
    have h2 := X.nonneg (l := l) fun x hx => h x (List.mem_cons_of_mem _ hx)
    simp only [isum]; omega
theorem Sch.mem_le (X : Sch f ws ls top) : ∀ {l : List Int}, (∀ a ∈ l, IsW ws a) → ∀ x ∈ l, x ≤ isum l
  | a :: l, h, x, hx => by
    have h1 := X.pos (h a List.mem_cons_self)
    have h2 := X.nonneg (l := l) fun x hx => h x (List.mem_cons_of_mem _ hx)
    simp only [isum]
    rcases List.mem_cons.mp hx with rfl | hx
    · omega
    · have := X.mem_le (l := l) (fun x hx => h x (List.mem_cons_of_mem _ hx)) x hx; omega
theorem Sch.sum_lt (X : Sch f ws ls top) : ∀ (l : List Int) (k : Nat), k + 1 < ws.length → Gapped f ws (ws.getD k 0 :: l) → isum (ws.getD k 0 :: l) < ws.getD (k + 1) 0
  | [], k, hk, h => by
    have := X.ch.lt (i := k) (k + 1) (by omega) hk
    simp only [isum]; omega
  | b :: l, k, hk, h => by
    obtain ⟨i, hi, e⟩ := h.2 b (by simp)
    have hlt := (List.pairwise_cons.mp h.1).1 b List.mem_cons_self
    obtain ⟨p, hp, e2, h3, h4⟩ := X.ch.2.2 k hk
    subst e
    have hip := X.below hk hi hp h4 hlt
    have h5 := X.sum_lt l i hi h.tail
    have h6 : ws.getD (i + 1) 0 ≤ ws.getD p 0 := by
      by_cases e : i + 1 = p
      · subst e; exact Int.le_refl _
      · exact Int.le_of_lt (X.ch.lt (i := i + 1) p (by omega) (by omega))
    rw [isum]; omega
theorem Sch.uniq (X : Sch f ws ls top) : ∀ (l l' : List Int), Gapped f ws l → Gapped f ws l' → isum l = isum l' → l = l'
  | [], [], _, _, _ => rfl
  | [], a :: l, _, h, e => by
    have h1 := X.pos (h.2 a List.mem_cons_self)
    have h2 := X.nonneg h.tail.2
    simp only [isum] at e; omega
  | a :: l, [], h, _, e => by
    have h1 := X.pos (h.2 a List.mem_cons_self)
    have h2 := X.nonneg h.tail.2
    simp only [isum] at e; omega
  | a :: l, b :: l', h, h', e => by
    obtain ⟨k, hk, rfl⟩ := h.2 a List.mem_cons_self
    obtain ⟨j, hj, rfl⟩ := h'.2 b List.mem_cons_self
    have a1 := X.sum_lt l k hk h
    have a2 := X.sum_lt l' j hj h'
    have a3 := X.nonneg h.tail.2
    have a4 := X.nonneg h'.tail.2
    have e' := e
    simp only [isum] at a1 a2 e
    have b1 : k < j + 1 := X.idx (by omega) (by omega)
    have b2 : j < k + 1 := X.idx (by omega) (by omega)
    have : k = j := by omega
    subst this
    rw [X.uniq l l' h.tail h'.tail (by omega)]
theorem Sch.head (X : Sch f ws ls top) {n : Int} (h1 : 1 ≤ n) : ∀ (m : Nat), m < ws.length → n < ws.getD m 0 → ∃ k, k < m ∧ ws.getD k 0 ≤ n ∧ n < ws.getD (k + 1) 0
  | 0, _, h => by have := X.ch.2.1; omega
  | m + 1, hm, h => by
    by_cases e : n < ws.getD m 0
    · obtain ⟨k, a, b⟩ := X.head h1 m (by omega) e
      exact ⟨k, by omega, b⟩
    · exact ⟨m, by omega, by omega, h⟩
theorem Sch.rep (X : Sch f ws ls top) (n : Nat) (hn : n ≤ top) : ∃ l, Gapped f ws l ∧ isum l = n := by
  induction n using Nat.strongRecOn with
  | ind n ih =>
    by_cases e : n = 0
    · subst e; exact ⟨[], .nil, rfl⟩
    · have hl := X.ch.1
      have hb := X.big
      obtain ⟨k, hk, h1, h2⟩ := X.head (n := n) (by omega) (ws.length - 1) (by omega) (by omega)
      obtain ⟨p, hp, e2, h3, h4⟩ := X.ch.2.2 k (by omega)
      have hw := X.pos ⟨k, by omega, rfl⟩
      obtain ⟨l, hg, hs⟩ := ih (n - (ws.getD k 0).toNat) (by omega) (by omega)
      refine ⟨ws.getD k 0 :: l, ⟨List.pairwise_cons.mpr ⟨fun b hb => ?_, hg.1⟩, fun a ha => ?_⟩, ?_⟩
      · have hle := X.mem_le hg.2 b hb
        obtain ⟨i, hi, rfl⟩ := hg.2 b hb
        exact h3 i (X.idx (by omega) (by omega))
      · rcases List.mem_cons.mp ha with rfl | ha
        · exact ⟨k, by omega, rfl⟩
        · exact hg.2 a ha
      · simp only [isum]; omega
theorem Sch.last (X : Sch f ws ls top) (n : Nat) (hn : n ≤ top) (l : List Int) (a : Int) (h : Gapped f ws (l ++ [a])) (hs : isum (l ++ [a]) = n) : ls.getD n 0 = a := by
  induction n using Nat.strongRecOn generalizing l a with
  | ind n ih =>
    have pa := X.pos (h.2 a (by simp))
    have sl := X.nonneg h.left.2
    rw [isum_append] at hs
    simp only [isum] at hs
    obtain ⟨t, e, h1, h2, h3, h4⟩ := X.le.2.2 n (by omega) hn
    rw [e]
    have hA : ((a.toNat : Nat) : Int) = a := by omega
    have up : t ≤ a.toNat := by
      refine Decidable.byContradiction fun c => ?_
      have h5 := h4 a.toNat (by omega) (by omega)
      rcases nil_or_snoc l with rfl | ⟨l', b, rfl⟩
      · simp only [isum] at hs; omega
      · have g := ih (n - a.toNat) (by omega) (by omega) l' b h.left (by omega)
        have : f.getD a.toNat 0 < b := (List.pairwise_append.mp h.1).2.2 b (by simp) a (by simp)
        omega
    have dn : a.toNat ≤ t := by
      refine Decidable.byContradiction fun c => ?_
      have h5 : f.getD t 0 < ls.getD (n - t) 0 := by rcases h3 with h3 | h3 <;> omega
      obtain ⟨m, gm, sm⟩ := X.rep (n - t) (by omega)
      obtain ⟨q, gq, sq⟩ := X.rep t (by omega)
      rcases nil_or_snoc m with rfl | ⟨m', b, rfl⟩
      · simp only [isum] at sm; omega
      · have g := ih (n - t) (by omega) (by omega) m' b gm sm
        have pb := X.pos (gm.2 b (by simp))
        have hb := X.ge' (by omega) pb.2
        have gap : Gapped f ws (m' ++ [b] ++ q) := by
          refine ⟨List.pairwise_append.mpr ⟨gm.1, gq.1, fun x hx y hy => ?_⟩, fun x hx => (List.mem_append.mp hx).elim (gm.2 x) (gq.2 x)⟩
          have hy1 := X.mem_le gq.2 y hy
          have py := X.pos (gq.2 y hy)
          have hy2 := X.mono' (a := y) (b := (t : Int)) (by omega) (by omega) (by omega)
          have hbx : b ≤ x := by
            rcases List.mem_append.mp hx with hx | hx
            · have := (List.pairwise_append.mp gm.1).2.2 x hx b (by simp); omega
            · rw [List.mem_singleton.mp hx]; exact Int.le_refl _
          have : ((t : Int)).toNat = t := by omega
          rw [this] at hy2
          omega
        have eq := X.uniq _ _ h gap (by rw [isum_append, isum_append, sm, sq]; simp only [isum]; omega)
        rcases nil_or_snoc q with rfl | ⟨q', c', rfl⟩
        · simp only [isum] at sq; omega
        · rw [← List.append_assoc] at eq
          have ec := (List.append_inj' eq rfl).2
          have : a = c' := by simpa using ec
          have := X.mem_le gq.2 c' (by simp)
          omega
    omega
theorem Sch.isW (X : Sch f ws ls top) {x : Int} : IsW ws x ↔ 1 ≤ x ∧ x ≤ top ∧ ls.getD x.toNat 0 = x := by
  constructor
  · intro h
    have p := X.pos h
    refine ⟨p.1, p.2, X.last x.toNat (by omega) [] x ⟨by simp, fun a ha => by simp at ha; subst ha; exact h⟩ (by simp [isum]; omega)⟩
  · rintro ⟨h1, h2, h3⟩
    obtain ⟨l, g, s⟩ := X.rep x.toNat (by omega)
    rcases nil_or_snoc l with rfl | ⟨l', b, rfl⟩
    · simp only [isum] at s; omega
    · have e := X.last _ (by omega) l' b g s
      rw [h3] at e
      subst e
      exact g.2 _ (by simp)
end

end Mine

end

section
open PySem PySem.W PySem.Calls PyProof.Rows
open PySem PySem.W PySem.Calls PyProof.Rows
namespace Mine
variable [Base]
set_option maxRecDepth 100000
set_option maxHeartbeats 4000000
local macro_rules | `(tactic| walk_at "hv") => `(tactic| first | rfl | assumption)
local macro_rules | `(tactic| walk_at "dec") => `(tactic| first | rfl | assumption | exact decide_eq_true (by omega) | exact decide_eq_false (by omega))
local macro_rules | `(tactic| walk_at "go0") => `(tactic| first
  | with_reducible refine wpAny_execs_nil ?_
  | with_reducible refine wpAny_If ?_
  | ((with_reducible refine ite_f ?hdec ?_); (case hdec => walk_at "dec"))
  | ((with_reducible refine ite_t ?hdec ?_); (case hdec => walk_at "dec"))
  | ((with_reducible refine wpAny_isTrue_Compare1 ?_ ?hm); (case hm => with_unfolding_all rfl))
  | with_reducible refine isTrue_and ?_
  | with_reducible refine isTrue_and_nil ?_
  | with_reducible refine isTrue_or ?_
  | with_reducible refine isTrue_or_nil ?_
  | with_reducible refine isTrue_not ?_
  | ((with_reducible refine isTrue_plain ?_ ?he); (case he => rfl))
  | ((with_reducible refine wpAny_Assign_Name ?_ ?hs); (case hs => rfl))
  | with_reducible refine wpAny_AugAssign_Name ?_
  | with_reducible refine wpAny_Return_some ?_
  | with_reducible refine wpAny_BinOp ?_
  | ((with_reducible refine wpAny_Compare1 ?_ ?hm); (case hm => with_unfolding_all rfl))
  | with_reducible refine IfExp_ ?_
  | with_reducible refine UnaryOp_ ?_
  | with_reducible refine Subscript_ ?_
  | ((with_reducible refine' ldL ?F ?hv ?_ ?hk ?hx ?hd); (case F => assumption); (case hk => rfl); (case hx => rfl); (case hd => decide); (case hv => walk_at "hv"))
  | ((with_reducible refine' ldnL ?F ?hv ?_ ?hk ?hx); (case F => assumption); (case hk => rfl); (case hx => rfl); (case hv => walk_at "hv"))
  | ((with_reducible refine' stL ?F ?_ ?hk ?hx); (case F => assumption); (case hk => rfl); (case hx => rfl); intro h' t' F')
  | ((with_reducible refine' ldG ?F ?G ?hv ?_ ?hk ?hx ?hd); (case F => assumption); (case G => assumption); (case hk => rfl); (case hx => rfl); (case hd => decide); (case hv => assumption))
  | ((with_reducible refine' ldB ?F ?G ?hn ?hv ?_ ?hk ?hx ?hd); (case F => assumption); (case G => assumption); (case hk => rfl); (case hx => rfl); (case hd => decide); (case hn => assumption); (case hv => assumption))
  | ((with_reducible refine cInt ?_); intro _ _)
  | ((with_reducible refine cStr ?_); intro _ _)
  | with_reducible refine Constant_none ?_
  | with_reducible refine Constant_bool ?_
  | ((with_reducible refine addI ?_); intro _ _)
  | ((with_reducible refine subI ?_); intro _ _)
  | ((with_reducible refine modI ?hb ?_); (case hb => decide); intro _ _)
  | ((with_reducible refine fdivI ?hb ?hs ?_); (case hb => decide); (case hs => decide); intro _ _)
  | with_reducible refine PyProof.Rows.lt_int ?_
  | with_reducible refine PyProof.Rows.le_int ?_
  | with_reducible refine PyProof.Rows.gt_int ?_
  | with_reducible refine PyProof.Rows.ge_int ?_
  | with_reducible refine PyProof.Rows.eq_int ?_
  | with_reducible refine PyProof.Rows.ne_int ?_
  | ((with_reducible refine iaddI ?_); intro _ _)
  | ((with_reducible refine negI ?_); intro _ _)
  | with_reducible refine SliceG_ ?_
  | with_reducible refine evN ?_
  | with_reducible refine evS ?_
  | ((with_reducible refine' newSliceG ?F ?_); (case F => assumption); intro sl' hs' _ Fs')
  | with_reducible refine wpAny_truthy_bool ?_
  | with_reducible refine is_none_none ?_
  | with_reducible refine is_ref_none ?_
  | with_reducible refine is_int_none ?_
  | with_reducible refine isnot_none_none ?_
  | with_reducible refine isnot_ref_none ?_
  | ((with_reducible refine' MethodCall_ ?_ ?he); (case he => rfl))
  | ((with_reducible refine Call_ ?_ ?he); (case he => rfl))
  | with_reducible refine wpAny_Call_Name_kw ?_
  | ((with_reducible refine Assign_Tuple ?_ ?hs ?hw); (case hs => rfl); (case hw => rfl))
  | ((with_reducible refine plainObj_wpAny_Assign_Attribute ?_ ?hs); (case hs => rfl))
  | with_reducible refine truthy_none ?_
  | with_reducible refine wpAny_Break ?_
  | ((with_reducible refine callWith_builtin1 ?_ ?he ?hp); (case he => rfl); (case hp => rfl))
  | ((with_reducible refine args_cons ?_ ?he); (case he => rfl))
  | with_reducible refine args_nil ?_
  | ((with_reducible refine callWith_type1 ?_ ?he ?hp); (case he => rfl); (case hp => rfl))
  | ((with_reducible refine' rng2 ?F ?_); (case F => assumption); intro R' ta' tb' tc' h' t' hR' F')
  | ((with_reducible refine' rng1 ?F ?_); (case F => assumption); intro R' ta' tb' tc' h' t' hR' F')
  | ((with_reducible refine wpAny_For ?_ ?hs); (case hs => intro _; rfl))
  | ((with_reducible refine wpAny_Expr ?_ ?hi ?hs); (case hi => rfl); (case hs => rfl))
  | with_reducible refine List_ ?_
  | with_reducible refine Tuple_ ?_
  | ((with_reducible refine' appendM ?ho ?hc ?hd ?_); (case ho => walk_at "get"); (case hc => rfl); (case hd => rfl))
  | ((with_reducible refine callWith_method1 ?_ ?he ?hp); (case he => rfl); (case hp => rfl))
  | ((with_reducible refine' maxG ?F ?hh ?_); (case F => assumption); (case hh => assumption); intro v' h' t' F')
  | ((with_reducible refine' minG ?F ?hh ?_); (case F => assumption); (case hh => assumption); intro v' h' t' F')
  | with_reducible refine PySem.EqNone.ne_none_none ?_
  | with_reducible refine BoolOp_and ?_
  | with_reducible refine BoolOp_one ?_
  | with_reducible refine PyProof.Rows.ne_bool ?_
  | ((with_reducible refine PyProof.Rows.isTrue_chain ?_ ?hm); (case hm => with_unfolding_all rfl))
  | with_reducible refine PyProof.Rows.test_link ?_
  | with_reducible refine PyProof.Rows.test_last ?_
  | dsimp only)
local macro_rules | `(tactic| walk_at "go1") => `(tactic| first | with_reducible refine wpAny_execs_cons ?_ | walk_at "go0")
local macro_rules | `(tactic| walk_at "go") => `(tactic| repeat (walk_at "go1"))
local macro_rules | `(tactic| walk_at "gs") => `(tactic| repeat (walk_at "go0"))
local macro_rules | `(tactic| walk_at "mem") => `(tactic| first | exact List.Mem.head _ | assumption | exact List.Mem.tail _ (List.Mem.head _) | exact List.Mem.tail _ (List.Mem.tail _ (List.Mem.head _)) | exact List.Mem.tail _ (List.Mem.tail _ (List.Mem.tail _ (List.Mem.head _))) | (simp; done))
local macro_rules | `(tactic| walk_at "get") => `(tactic| first | exact Fn.get (by assumption) (by walk_at "mem") | exact Fn.getU (by assumption) (by walk_at "mem"))
local macro_rules | `(tactic| walk_at "len") => `(tactic| ((with_reducible refine' lenL ?ho ?hb ?_); (case ho => walk_at "get"); (case hb => first | assumption | omega); intro tl' ul'))
local macro_rules | `(tactic| walk_at "item") => `(tactic| ((with_reducible refine' itemI ?ho ?hi ?h0 ?h1 ?hb ?_ ?hs ?ht); (case ho => walk_at "get"); (case hi => assumption); (case h0 => omega); (case h1 => omega); (case hb => first | assumption | omega); (case hs => with_unfolding_all rfl); (case ht => intro _; with_unfolding_all rfl); intro ti'))
local macro_rules | `(tactic| walk_at "itemV") => `(tactic| ((with_reducible refine' itemV ?ho ?h0 ?h1 ?hb ?_ ?hs ?ht); (case ho => walk_at "get"); (case h0 => omega); (case h1 => omega); (case hb => first | assumption | omega); (case hs => with_unfolding_all rfl); (case ht => intro _; with_unfolding_all rfl)))
local macro_rules | `(tactic| walk_at "last") => `(tactic| ((with_reducible refine' itemLast ?ho ?hi ?h1 ?hb ?_ ?hs ?ht); (case ho => walk_at "get"); (case hi => assumption); (case h1 => omega); (case hb => omega); (case hs => with_unfolding_all rfl); (case ht => intro _; with_unfolding_all rfl); intro ti'))
theorem BrAt.uniq {xs : List Int} {x r r' : Int} (h : BrAt xs x r) (h' : BrAt xs x r') : r = r' := by
  obtain ⟨a1, a2, a3, a4⟩ := h
  obtain ⟨b1, b2, b3, b4⟩ := h'
  refine Decidable.byContradiction fun c => ?_
  by_cases e : r < r'
  · have := b3 r.toNat (by omega)
    have := a4 r.toNat (by omega) (by omega)
    omega
  · have := a3 r'.toNat (by omega)
    have := b4 r'.toNat (by omega) (by omega)
    omega
open Classical in
noncomputable def Sof (xs : List Int) (n k : Int) : Option (Int × Int) := if h : ∃ r, BrAt xs (n - k) r then (if h.choose = 0 then none else some (k, k + xs.getD (h.choose - 1).toNat 0)) else none
theorem Sof.at {xs : List Int} {n k r : Int} (h : BrAt xs (n - k) r) : Sof xs n k = if r = 0 then none else some (k, k + xs.getD (r - 1).toNat 0) := by
  have hx : ∃ r, BrAt xs (n - k) r := ⟨r, h⟩
  unfold Sof
  rw [dif_pos hx]
  have := hx.choose_spec.uniq h
  rw [this]
theorem Sof.sw (xs : List Int) (n : Int) : SW xs n (Sof xs n) := fun _ _ _ h => Sof.at h
theorem Sof.nonneg {xs : List Int} {n k i j : Int} (hx : ∀ i : Nat, i < xs.length → 0 ≤ xs.getD i 0) (hk : 0 ≤ k) (h : Sof xs n k = some (i, j)) : 0 ≤ i ∧ i ≤ j := by
  unfold Sof at h
  split at h
  · rename_i hx'
    split at h
    · cases h
    · cases h
      have := hx'.choose_spec
      have := this.2.1
      have := hx (hx'.choose - 1).toNat (by have := hx'.choose_spec.1; omega)
      omega
  · cases h

def SRres (S : Int → Option (Int × Int)) (col : Int) (res : Option (Int × Int)) : Prop := match S 0 with | none => res = none | some (i, j) => 0 ≤ i ∧ i ≤ j ∧ ∃ n, SR S col n i j none res

section
variable {f ws ls : List Int} {top : Nat}
abbrev Wof (ws : List Int) : List Int := ws.take (ws.length - 1)
theorem Wof.len {ws : List Int} : (Wof ws).length = ws.length - 1 := by simp
theorem Wof.at {ws : List Int} {i : Nat} (h : i + 1 < ws.length) : (Wof ws).getD i 0 = ws.getD i 0 := getD_take (by omega)
theorem Sch.sorted (X : Sch f ws ls top) : Sorted (Wof ws) := fun i j hij hj => by
  rw [Wof.len] at hj
  rw [Wof.at (by omega), Wof.at (by omega)]
  by_cases e : i = j
  · subst e; exact Int.le_refl _
  · exact Int.le_of_lt (X.ch.lt j (by omega) (by omega))
theorem Sch.wle (X : Sch f ws ls top) {i j : Nat} (hij : i ≤ j) (hj : j < ws.length) : ws.getD i 0 ≤ ws.getD j 0 := by
  by_cases e : i = j
  · subst e; exact Int.le_refl _
  · exact Int.le_of_lt (X.ch.lt j (by omega) (by omega))
theorem Sch.br (X : Sch f ws ls top) {x : Int} {k : Nat} (hk : k + 1 < ws.length) (h1 : ws.getD k 0 ≤ x) (h2 : x < ws.getD (k + 1) 0) : BrAt (Wof ws) x (k + 1) := by
  refine ⟨by omega, by rw [Wof.len]; omega, fun i hi => ?_, fun i hi hj => ?_⟩
  · rw [Wof.at (by omega)]
    have := X.wle (i := i) (j := k) (by omega) (by omega); omega
  · rw [Wof.len] at hj
    rw [Wof.at (by omega)]
    have := X.wle (i := k + 1) (j := i) (by omega) (by omega); omega
theorem Sch.br0 (X : Sch f ws ls top) {x : Int} (h : x ≤ 0) : BrAt (Wof ws) x 0 := by
  refine ⟨by omega, by omega, fun i hi => by omega, fun i hi hj => ?_⟩
  rw [Wof.len] at hj
  have := X.pos ⟨i, by omega, rfl⟩
  rw [Wof.at (by omega)]; omega
theorem BrAt.cons0 {xs : List Int} {x r : Int} (h : BrAt xs x r) (hx : 0 ≤ x) : BrAt (0 :: xs) x (r + 1) := by
  obtain ⟨a1, a2, a3, a4⟩ := h
  refine ⟨by omega, by simp only [List.length_cons]; omega, fun i hi => ?_, fun i hi hj => ?_⟩
  · cases i with
    | zero => simpa using hx
    | succ i => have := a3 i (by omega); simpa using this
  · cases i with
    | zero => omega
    | succ i => have := a4 i (by omega) (by simpa using hj); simpa using this
theorem Sch.s1 (X : Sch f ws ls top) {N k a : Int} {l : List Int} (g : Gapped f ws (a :: l)) (hs : k + isum (a :: l) = N) : Sof (Wof ws) N k = some (k, k + a) := by
  obtain ⟨j, hj, rfl⟩ := g.2 a List.mem_cons_self
  have h1 := X.sum_lt l j hj g
  have h2 := X.nonneg g.tail.2
  simp only [isum] at h1 hs
  rw [Sof.at (X.br hj (by omega) (by omega)), if_neg (by omega), show ((j : Int) + 1 - 1).toNat = j by omega, Wof.at hj]
theorem Sch.s2 (X : Sch f ws ls top) {N k a : Int} {l : List Int} (g : Gapped f ws (a :: l)) (hs : k + isum (a :: l) = N) : Sof (0 :: Wof ws) N k = some (k, k + a) := by
  obtain ⟨j, hj, rfl⟩ := g.2 a List.mem_cons_self
  have h1 := X.sum_lt l j hj g
  have h2 := X.nonneg g.tail.2
  have h3 := X.pos ⟨j, hj, rfl⟩
  simp only [isum] at h1 hs
  rw [Sof.at ((X.br hj (by omega) (by omega)).cons0 (by omega)), if_neg (by omega), show ((j : Int) + 1 + 1 - 1).toNat = j + 1 by omega, List.getD_cons_succ, Wof.at hj]
theorem nextAt_ne {i j : Int} (h : i < j) : nextAt i j = j := by unfold nextAt; rw [if_neg (by omega)]
theorem Sch.walk (X : Sch f ws ls top) {S : Int → Option (Int × Int)} {N col : Int} {m : Nat} {res : Option (Int × Int)} (hS : ∀ k a l, 0 ≤ k → Gapped f ws (a :: l) → k + isum (a :: l) = N → S k = some (k, k + a)) : ∀ (l1 l2 : List Int) (a k : Int) (found : Option (Int × Int)),
    Gapped f ws (a :: l1 ++ l2) → 0 ≤ k → k + isum (a :: l1 ++ l2) = N → k + isum (a :: l1) ≤ col →
    (∀ found l' b, a :: l1 = l' ++ [b] → SR S col m (k + isum (a :: l1) - b) (k + isum (a :: l1)) found res) → SR S col (m + l1.length) k (k + a) found res
  | [], l2, a, k, found, g, hk, hs, hc, he => by
    have := he found [] a rfl
    simp only [isum] at this
    rw [show k + (a + 0) - a = k by omega, show k + (a + 0) = k + a by omega] at this
    exact this
  | c :: l1, l2, a, k, found, g, hk, hs, hc, he => by
    have pa := X.pos (g.2 a (by simp))
    have pc := X.pos (g.2 c (by simp))
    have g' : Gapped f ws (c :: l1 ++ l2) := g.tail
    have n1 := X.nonneg (l := l1) fun x hx => g.2 x (by simp [hx])
    simp only [List.cons_append, isum] at hs hc
    refine SR.step (n := m + l1.length) (by omega) (by omega) (i' := k + a) (j' := k + a + c) ?_ ?_
    · rw [nextAt_ne (by omega)]
      exact hS _ _ (l1 ++ l2) (by omega) g' (by simp only [isum]; omega)
    · refine X.walk hS l1 l2 c (k + a) _ g' (by omega) (by simp only [List.cons_append, isum]; omega) (by simp only [isum]; omega) fun found l' b e => ?_
      have := he found (a :: l') b (by rw [e]; rfl)
      simp only [isum] at this ⊢
      rw [show k + a + (c + isum l1) = k + (a + (c + isum l1)) by omega]
      exact this
theorem Sch.first (X : Sch f ws ls top) (N : Nat) (hN : N ≤ top) : SRres (Sof (Wof ws) N) N (if N = 0 then none else some ((N : Int) - ls.getD N 0, (N : Int))) := by
  have z : ∀ k : Int, (N : Int) ≤ k → Sof (Wof ws) N k = none := fun k hk => by rw [Sof.at (X.br0 (by omega)), if_pos rfl]
  by_cases e : N = 0
  · subst e
    unfold SRres
    rw [z 0 (by omega)]; rfl
  · rw [if_neg e]
    obtain ⟨l, g, s⟩ := X.rep N hN
    cases l with
    | nil => simp only [isum] at s; omega
    | cons a l =>
      have pa := X.pos (g.2 a (by simp))
      unfold SRres
      rw [X.s1 (k := 0) g (by omega)]
      refine ⟨by omega, by omega, _, X.walk (m := 0) (fun k a l _ g h => X.s1 g h) l [] a 0 none (by simpa using g) (by omega) (by simpa using s) (by omega) fun found l' b e => ?_⟩
      rw [e] at g s ⊢
      have hb := X.last N hN l' b g s
      have pb := X.pos (g.2 b (by simp))
      rw [hb, s, show (0 : Int) + N - b = N - b by omega, show (0 : Int) + N = N by omega]
      exact SR.last (by omega) (by omega) (by rw [nextAt_ne (by omega)]; exact z _ (by omega))
theorem splitAt' (col : Int) : ∀ (l : List Int) (k : Int), k ≤ col → ∃ l1 l2, l = l1 ++ l2 ∧ k + isum l1 ≤ col ∧ (l2 = [] ∨ ∃ b l2', l2 = b :: l2' ∧ col < k + isum l1 + b)
  | [], k, h => ⟨[], [], rfl, by simp only [isum]; omega, .inl rfl⟩
  | a :: l, k, h => by
    by_cases e : k + a ≤ col
    · obtain ⟨l1, l2, rfl, h1, h2⟩ := splitAt' col l (k + a) e
      refine ⟨a :: l1, l2, rfl, by simp only [isum]; omega, ?_⟩
      rcases h2 with h2 | ⟨b, l2', h2, h3⟩
      · exact .inl h2
      · exact .inr ⟨b, l2', h2, by simp only [isum]; omega⟩
    · exact ⟨[], a :: l, rfl, by simp only [isum]; omega, .inr ⟨a, l, rfl, by simp only [isum]; omega⟩⟩
theorem Sch.second (X : Sch f ws ls top) (h1 : 1 ≤ top) (col : Nat) : ∃ (left : Nat) (P : Nat → Prop), P top ∧ (∀ x, P x → col < x → ∃ y : Nat, ls.getD x 0 = (x : Int) - y ∧ y < x ∧ P y) ∧ (∀ x, P x → x ≤ col → x = left) ∧ (∀ x, P x → x ≤ top) ∧ left ≤ col ∧ left ≤ top ∧
    (col ≤ top + 1 → SRres (Sof (0 :: Wof ws) top) col (if top < col then some ((top : Int), (top : Int)) else if left = 0 then none else some ((left : Int) - ls.getD left 0, (left : Int)))) ∧
    (0 < col → col < top → f.getD (top - col) 0 < ls.getD col 0 → left = col) := by
  obtain ⟨l, g, s⟩ := X.rep top (Nat.le_refl _)
  obtain ⟨l1, l2, rfl, hs1, hs2⟩ := splitAt' col l 0 (by omega)
  have n1 := X.nonneg g.left.2
  have n2 := X.nonneg g.right.2
  have hsum := isum_append l1 l2
  have zN : Sof (0 :: Wof ws) top top = some ((top : Int), (top : Int)) := by
    rw [Sof.at ((X.br0 (x := (top : Int) - top) (by omega)).cons0 (by omega)), if_neg (by omega)]
    simp
  have zS : Sof (0 :: Wof ws) top (top + 1) = none := by
    rw [Sof.at (r := 0) ⟨by omega, by omega, fun i hi => by omega, fun i hi hj => ?_⟩, if_pos rfl]
    cases i with
    | zero => simp; omega
    | succ i =>
      simp only [List.length_cons, Wof.len] at hj
      have := X.pos ⟨i, by omega, rfl⟩
      rw [List.getD_cons_succ, Wof.at (by omega)]; omega
  refine ⟨(isum l1).toNat, fun x => ∃ m m', l2 = m ++ m' ∧ (x : Int) = isum (l1 ++ m), ⟨l2, [], by simp, by omega⟩, ?_, ?_, ?_, by omega, by omega, ?_, ?_⟩
  · rintro x ⟨m, m', rfl, hx⟩ hc
    have gm : Gapped f ws (l1 ++ m) := by rw [← List.append_assoc] at g; exact g.left
    rcases nil_or_snoc m with rfl | ⟨m₀, b, rfl⟩
    · simp at hx; omega
    · have nm := X.nonneg (l := m') g.right.right.2
      have hm2 := isum_append (m₀ ++ [b]) m'
      have e := X.last x (by rw [isum_append] at hx; omega) (l1 ++ m₀) b (by rw [List.append_assoc]; exact gm) (by rw [List.append_assoc]; exact hx.symm)
      have pb := X.pos (gm.2 b (by simp))
      rw [← List.append_assoc] at hx gm
      have n3 := X.nonneg gm.left.2
      rw [isum_append] at hx
      simp only [isum] at hx
      exact ⟨(isum (l1 ++ m₀)).toNat, by omega, by omega, m₀, b :: m', by simp, by omega⟩
  · rintro x ⟨m, m', rfl, hx⟩ hc
    cases m with
    | nil => simp at hx; omega
    | cons b m =>
      rcases hs2 with hs2 | ⟨b', l2', hs2, hs3⟩
      · cases hs2
      · cases hs2
        have := X.nonneg (l := m) fun x hx => g.2 x (by simp [hx])
        rw [isum_append] at hx
        simp only [isum] at hx
        omega
  · rintro x ⟨m, m', rfl, hx⟩
    have := X.nonneg (l := m') g.right.right.2
    rw [isum_append] at hx
    have hm2 := isum_append m m'
    omega
  · intro hct
    have hS : ∀ k a l, 0 ≤ k → Gapped f ws (a :: l) → k + isum (a :: l) = top → Sof (0 :: Wof ws) top k = some (k, k + a) := fun k a l _ g h => X.s2 g h
    cases l1 with
    | nil =>
      cases l2 with
      | nil => simp only [List.append_nil, isum] at s; omega
      | cons a l2 =>
        have pa := X.pos (g.2 a (by simp))
        have hca : (col : Int) < a := by
          rcases hs2 with hs2 | ⟨b', l2', hs2, hs3⟩
          · cases hs2
          · cases hs2; simp only [isum] at hs3; omega
        unfold SRres
        rw [hS 0 a l2 (by omega) g (by rw [List.nil_append] at s; omega)]
        rw [if_neg (by omega), if_pos (by rfl)]
        exact ⟨by omega, by omega, 0, SR.stop (by omega)⟩
    | cons a l1 =>
      have pa := X.pos (g.2 a (by simp))
      have n4 := X.nonneg (l := l1) fun x hx => g.2 x (by simp [hx])
      unfold SRres
      rw [hS 0 a (l1 ++ l2) (by omega) g (by rw [List.cons_append] at s; omega)]
      refine ⟨by omega, by omega, _, X.walk (m := 1) hS l1 l2 a 0 none g (by omega) (by omega) hs1 fun found l' b e => ?_⟩
      have hb := X.last (isum (a :: l1)).toNat (by omega) l' b (by rw [← e]; exact g.left) (by rw [← e]; omega)
      have pb := X.pos (g.2 b (by rw [e]; simp))
      have hle : b ≤ isum (a :: l1) := X.mem_le g.left.2 b (by rw [e]; simp)
      rw [hb, show ((isum (a :: l1)).toNat : Int) = isum (a :: l1) by omega, show (0 : Int) + isum (a :: l1) = isum (a :: l1) by omega]
      have hne : ¬ (isum (a :: l1)).toNat = 0 := by omega
      rw [if_neg hne]
      rcases hs2 with rfl | ⟨b', l2', rfl, hs3⟩
      · have hT : isum (a :: l1) = top := by rw [List.append_nil] at s; exact s
        rw [hT]
        refine SR.step (n := 0) (by omega) (by omega) (i' := top) (j' := top) (by rw [nextAt_ne (by omega)]; exact zN) ?_
        by_cases hc : top < col
        · rw [if_pos hc]
          exact SR.last (by omega) (by omega) (by unfold nextAt; rw [if_pos rfl]; exact zS)
        · rw [if_neg hc]
          exact SR.stop (by omega)
      · have pb' := X.pos (g.2 b' (by simp))
        rw [hsum] at s
        have n5 := X.nonneg (l := l2') fun x hx => g.2 x (by simp [hx])
        have hrest : isum (b' :: l2') = b' + isum l2' := rfl
        rw [if_neg (by omega)]
        refine SR.step (n := 0) (by omega) (by omega) (i' := isum (a :: l1)) (j' := isum (a :: l1) + b') ?_ (SR.stop (by omega))
        rw [nextAt_ne (by omega)]
        exact hS _ _ _ (by omega) g.right (by omega)
  · intro hc0 hct hlt
    obtain ⟨lc, gc, sc⟩ := X.rep col (by omega)
    obtain ⟨q, gq, sq⟩ := X.rep (top - col) (by omega)
    rcases nil_or_snoc lc with rfl | ⟨c', b, rfl⟩
    · simp only [isum] at sc; omega
    · have hb := X.last col (by omega) c' b gc sc
      have pb := X.pos (gc.2 b (by simp))
      have gb := X.ge' (by omega) pb.2
      rw [hb] at hlt
      have gap : Gapped f ws (c' ++ [b] ++ q) := by
        refine ⟨List.pairwise_append.mpr ⟨gc.1, gq.1, fun x hx y hy => ?_⟩, fun x hx => (List.mem_append.mp hx).elim (gc.2 x) (gq.2 x)⟩
        have hy1 := X.mem_le gq.2 y hy
        have py := X.pos (gq.2 y hy)
        have hy2 := X.mono' (a := y) (b := ((top - col : Nat) : Int)) (by omega) (by omega) (by omega)
        have hbx : b ≤ x := by
          rcases List.mem_append.mp hx with hx | hx
          · have := (List.pairwise_append.mp gc.1).2.2 x hx b (by simp); omega
          · rw [List.mem_singleton.mp hx]; exact Int.le_refl _
        rw [show (((top - col : Nat) : Int)).toNat = top - col by omega] at hy2
        omega
      have eq := X.uniq _ _ g gap (by rw [s, isum_append, sc, sq]; omega)
      have : isum l1 = col := by
        rcases List.append_eq_append_iff.mp eq with ⟨m, e1, e2⟩ | ⟨m, e1, e2⟩
        · rw [e1] at sc gc
          rw [isum_append] at sc
          cases m with
          | nil => simp only [isum] at sc; omega
          | cons x m =>
            subst e2
            rcases hs2 with hs2 | ⟨b', l2', hs2, hs3⟩
            · cases hs2
            · cases hs2
              have := X.nonneg (l := m) fun y hy => gc.2 y (by simp [hy])
              simp only [isum] at sc
              omega
        · have e3 : isum l1 = isum (c' ++ [b]) + isum m := by rw [e1, isum_append]
          have := X.nonneg (l := m) fun y hy => g.2 y (by rw [e1]; simp [hy])
          omega
      omega
end

end Mine

end

section
open PySem PySem.W PySem.Calls PyProof.Rows
open PySem PySem.W PySem.Calls PyProof.Rows
namespace Mine
variable [Base]
set_option maxRecDepth 100000
set_option maxHeartbeats 4000000
local macro_rules | `(tactic| walk_at "hv") => `(tactic| first | rfl | assumption)
local macro_rules | `(tactic| walk_at "dec") => `(tactic| first | rfl | assumption | exact decide_eq_true (by omega) | exact decide_eq_false (by omega))
local macro_rules | `(tactic| walk_at "go0") => `(tactic| first
  | with_reducible refine wpAny_execs_nil ?_
  | with_reducible refine wpAny_If ?_
  | ((with_reducible refine ite_f ?hdec ?_); (case hdec => walk_at "dec"))
  | ((with_reducible refine ite_t ?hdec ?_); (case hdec => walk_at "dec"))
  | ((with_reducible refine wpAny_isTrue_Compare1 ?_ ?hm); (case hm => with_unfolding_all rfl))
  | with_reducible refine isTrue_and ?_
  | with_reducible refine isTrue_and_nil ?_
  | with_reducible refine isTrue_or ?_
  | with_reducible refine isTrue_or_nil ?_
  | with_reducible refine isTrue_not ?_
  | ((with_reducible refine isTrue_plain ?_ ?he); (case he => rfl))
  | ((with_reducible refine wpAny_Assign_Name ?_ ?hs); (case hs => rfl))
  | with_reducible refine wpAny_AugAssign_Name ?_
  | with_reducible refine wpAny_Return_some ?_
  | with_reducible refine wpAny_BinOp ?_
  | ((with_reducible refine wpAny_Compare1 ?_ ?hm); (case hm => with_unfolding_all rfl))
  | with_reducible refine IfExp_ ?_
  | with_reducible refine UnaryOp_ ?_
  | with_reducible refine Subscript_ ?_
  | ((with_reducible refine' ldL ?F ?hv ?_ ?hk ?hx ?hd); (case F => assumption); (case hk => rfl); (case hx => rfl); (case hd => decide); (case hv => walk_at "hv"))
  | ((with_reducible refine' ldnL ?F ?hv ?_ ?hk ?hx); (case F => assumption); (case hk => rfl); (case hx => rfl); (case hv => walk_at "hv"))
  | ((with_reducible refine' stL ?F ?_ ?hk ?hx); (case F => assumption); (case hk => rfl); (case hx => rfl); intro h' t' F')
  | ((with_reducible refine' ldG ?F ?G ?hv ?_ ?hk ?hx ?hd); (case F => assumption); (case G => assumption); (case hk => rfl); (case hx => rfl); (case hd => decide); (case hv => assumption))
  | ((with_reducible refine' ldB ?F ?G ?hn ?hv ?_ ?hk ?hx ?hd); (case F => assumption); (case G => assumption); (case hk => rfl); (case hx => rfl); (case hd => decide); (case hn => assumption); (case hv => assumption))
  | ((with_reducible refine cInt ?_); intro _ _)
  | ((with_reducible refine cStr ?_); intro _ _)
  | with_reducible refine Constant_none ?_
  | with_reducible refine Constant_bool ?_
  | ((with_reducible refine addI ?_); intro _ _)
  | ((with_reducible refine subI ?_); intro _ _)
  | ((with_reducible refine modI ?hb ?_); (case hb => decide); intro _ _)
  | ((with_reducible refine fdivI ?hb ?hs ?_); (case hb => decide); (case hs => decide); intro _ _)
  | with_reducible refine PyProof.Rows.lt_int ?_
  | with_reducible refine PyProof.Rows.le_int ?_
  | with_reducible refine PyProof.Rows.gt_int ?_
  | with_reducible refine PyProof.Rows.ge_int ?_
  | with_reducible refine PyProof.Rows.eq_int ?_
  | with_reducible refine PyProof.Rows.ne_int ?_
  | ((with_reducible refine iaddI ?_); intro _ _)
  | ((with_reducible refine negI ?_); intro _ _)
  | with_reducible refine SliceG_ ?_
  | with_reducible refine evN ?_
  | with_reducible refine evS ?_
  | ((with_reducible refine' newSliceG ?F ?_); (case F => assumption); intro sl' hs' _ Fs')
  | with_reducible refine wpAny_truthy_bool ?_
  | with_reducible refine is_none_none ?_
  | with_reducible refine is_ref_none ?_
  | with_reducible refine is_int_none ?_
  | with_reducible refine isnot_none_none ?_
  | with_reducible refine isnot_ref_none ?_
  | ((with_reducible refine' MethodCall_ ?_ ?he); (case he => rfl))
  | ((with_reducible refine Call_ ?_ ?he); (case he => rfl))
  | with_reducible refine wpAny_Call_Name_kw ?_
  | ((with_reducible refine Assign_Tuple ?_ ?hs ?hw); (case hs => rfl); (case hw => rfl))
  | ((with_reducible refine plainObj_wpAny_Assign_Attribute ?_ ?hs); (case hs => rfl))
  | with_reducible refine truthy_none ?_
  | with_reducible refine wpAny_Break ?_
  | ((with_reducible refine callWith_builtin1 ?_ ?he ?hp); (case he => rfl); (case hp => rfl))
  | ((with_reducible refine args_cons ?_ ?he); (case he => rfl))
  | with_reducible refine args_nil ?_
  | ((with_reducible refine callWith_type1 ?_ ?he ?hp); (case he => rfl); (case hp => rfl))
  | ((with_reducible refine' rng2 ?F ?_); (case F => assumption); intro R' ta' tb' tc' h' t' hR' F')
  | ((with_reducible refine' rng1 ?F ?_); (case F => assumption); intro R' ta' tb' tc' h' t' hR' F')
  | ((with_reducible refine wpAny_For ?_ ?hs); (case hs => intro _; rfl))
  | ((with_reducible refine wpAny_Expr ?_ ?hi ?hs); (case hi => rfl); (case hs => rfl))
  | with_reducible refine List_ ?_
  | with_reducible refine Tuple_ ?_
  | ((with_reducible refine' appendM ?ho ?hc ?hd ?_); (case ho => walk_at "get"); (case hc => rfl); (case hd => rfl))
  | ((with_reducible refine callWith_method1 ?_ ?he ?hp); (case he => rfl); (case hp => rfl))
  | ((with_reducible refine' maxG ?F ?hh ?_); (case F => assumption); (case hh => assumption); intro v' h' t' F')
  | ((with_reducible refine' minG ?F ?hh ?_); (case F => assumption); (case hh => assumption); intro v' h' t' F')
  | with_reducible refine PySem.EqNone.ne_none_none ?_
  | with_reducible refine BoolOp_and ?_
  | with_reducible refine BoolOp_one ?_
  | with_reducible refine PyProof.Rows.ne_bool ?_
  | ((with_reducible refine PyProof.Rows.isTrue_chain ?_ ?hm); (case hm => with_unfolding_all rfl))
  | with_reducible refine PyProof.Rows.test_link ?_
  | with_reducible refine PyProof.Rows.test_last ?_
  | dsimp only)
local macro_rules | `(tactic| walk_at "go1") => `(tactic| first | with_reducible refine wpAny_execs_cons ?_ | walk_at "go0")
local macro_rules | `(tactic| walk_at "go") => `(tactic| repeat (walk_at "go1"))
local macro_rules | `(tactic| walk_at "gs") => `(tactic| repeat (walk_at "go0"))
local macro_rules | `(tactic| walk_at "mem") => `(tactic| first | exact List.Mem.head _ | assumption | exact List.Mem.tail _ (List.Mem.head _) | exact List.Mem.tail _ (List.Mem.tail _ (List.Mem.head _)) | exact List.Mem.tail _ (List.Mem.tail _ (List.Mem.tail _ (List.Mem.head _))) | (simp; done))
local macro_rules | `(tactic| walk_at "get") => `(tactic| first | exact Fn.get (by assumption) (by walk_at "mem") | exact Fn.getU (by assumption) (by walk_at "mem"))
local macro_rules | `(tactic| walk_at "len") => `(tactic| ((with_reducible refine' lenL ?ho ?hb ?_); (case ho => walk_at "get"); (case hb => first | assumption | omega); intro tl' ul'))
local macro_rules | `(tactic| walk_at "item") => `(tactic| ((with_reducible refine' itemI ?ho ?hi ?h0 ?h1 ?hb ?_ ?hs ?ht); (case ho => walk_at "get"); (case hi => assumption); (case h0 => omega); (case h1 => omega); (case hb => first | assumption | omega); (case hs => with_unfolding_all rfl); (case ht => intro _; with_unfolding_all rfl); intro ti'))
local macro_rules | `(tactic| walk_at "itemV") => `(tactic| ((with_reducible refine' itemV ?ho ?h0 ?h1 ?hb ?_ ?hs ?ht); (case ho => walk_at "get"); (case h0 => omega); (case h1 => omega); (case hb => first | assumption | omega); (case hs => with_unfolding_all rfl); (case ht => intro _; with_unfolding_all rfl)))
local macro_rules | `(tactic| walk_at "last") => `(tactic| ((with_reducible refine' itemLast ?ho ?hi ?h1 ?hb ?_ ?hs ?ht); (case ho => walk_at "get"); (case hi => assumption); (case h1 => omega); (case hb => omega); (case hs => with_unfolding_all rfl); (case ht => intro _; with_unfolding_all rfl); intro ti'))
theorem inc_ext : ∀ {l l' : List Int}, l.Pairwise (· < ·) → l'.Pairwise (· < ·) → (∀ x, x ∈ l ↔ x ∈ l') → l = l'
  | [], [], _, _, _ => rfl
  | [], b :: l', _, _, h => absurd ((h b).mpr List.mem_cons_self) (by simp)
  | a :: l, [], _, _, h => absurd ((h a).mp List.mem_cons_self) (by simp)
  | a :: l, b :: l', p, p', h => by
    have p1 := List.pairwise_cons.mp p
    have p2 := List.pairwise_cons.mp p'
    have e : a = b := by
      have h1 := (h a).mp List.mem_cons_self
      have h2 := (h b).mpr List.mem_cons_self
      rcases List.mem_cons.mp h1 with h1 | h1
      · exact h1
      · rcases List.mem_cons.mp h2 with h2 | h2
        · exact h2.symm
        · have := p1.1 b h2; have := p2.1 a h1; omega
    subst e
    refine congrArg (a :: ·) (inc_ext p1.2 p2.2 fun x => ?_)
    constructor
    · intro hx
      rcases List.mem_cons.mp ((h x).mp (List.mem_cons_of_mem _ hx)) with rfl | hx'
      · have := p1.1 x hx; omega
      · exact hx'
    · intro hx
      rcases List.mem_cons.mp ((h x).mpr (List.mem_cons_of_mem _ hx)) with rfl | hx'
      · have := p2.1 x hx; omega
      · exact hx'
theorem getElem_getD {l : List Int} {i : Nat} (h : i < l.length) : l[i] = l.getD i 0 := by simp [List.getD, h]
theorem mem_Wof {ws : List Int} {x : Int} : x ∈ Wof ws ↔ IsW ws x := by
  rw [List.mem_iff_getElem]
  constructor
  · rintro ⟨i, hi, rfl⟩
    have hi' := hi
    rw [Wof.len] at hi'
    exact ⟨i, by omega, by rw [getElem_getD hi, Wof.at (by omega)]⟩
  · rintro ⟨k, hk, rfl⟩
    have hi : k < (Wof ws).length := by rw [Wof.len]; omega
    exact ⟨k, hi, by rw [getElem_getD hi, Wof.at hk]⟩
theorem Sch.comp {f ws ls : List Int} {top : Nat} (X : Sch f ws ls top) : ((List.range top).map fun j : Nat => (1 : Int) + j).filter (fun x => ls.getD x.toNat 0 == x) = Wof ws := by
  refine inc_ext ?_ ?_ fun x => ?_
  · refine List.Pairwise.filter _ (List.pairwise_map.mpr ?_)
    exact List.pairwise_lt_range.imp fun {a b} h => by omega
  · rw [List.pairwise_iff_getElem]
    intro i j hi hj hij
    rw [getElem_getD hi, getElem_getD hj]
    rw [Wof.len] at hi hj
    rw [Wof.at (by omega), Wof.at (by omega)]
    exact X.ch.lt j hij (by omega)
  · rw [mem_Wof, X.isW, List.mem_filter, List.mem_map]
    constructor
    · rintro ⟨⟨j, hj, rfl⟩, h⟩
      rw [List.mem_range] at hj
      exact ⟨by omega, by omega, by simpa using h⟩
    · rintro ⟨h1, h2, h3⟩
      exact ⟨⟨x.toNat - 1, List.mem_range.mpr (by omega), by omega⟩, by simpa using h3⟩
theorem Paired.eq_list {l l' : List Value} (h : Paired (fun a b : Value => b = a) l l') : l' = l := by
  induction h with
  | nil => rfl
  | cons a _ ih => rw [a, ih]
def isInt? (ls : List Int) : Value → Bool
  | .int k _ => ls.getD k.toNat 0 == k
  | _ => false
theorem ints_filter {ls : List Int} {vs : List Value} {xs : List Int} (h : IntsAre vs xs) : IntsAre (vs.filter (isInt? ls)) (xs.filter fun x => ls.getD x.toNat 0 == x) := by
  induction h with
  | nil => exact .nil
  | cons a t _ ih =>
    by_cases c : (ls.getD a.toNat 0 == a) = true
    · rw [List.filter_cons_of_pos (by exact c), List.filter_cons_of_pos (by exact c)]
      exact .cons _ _ ih
    · rw [List.filter_cons_of_neg (by exact c), List.filter_cons_of_neg (by exact c)]
      exact ih
theorem ints_of {vs : List Value} {xs : List Int} (hl : vs.length = xs.length) (h : ∀ (j : Nat) v, vs[j]? = some v → ∃ t, v = .int (xs.getD j 0) t) : IntsAre vs xs := by
  induction vs generalizing xs with
  | nil => cases xs with
    | nil => exact .nil
    | cons a l => simp at hl
  | cons v vs ih => cases xs with
    | nil => simp at hl
    | cons a l =>
      obtain ⟨t, rfl⟩ := h 0 v rfl
      refine .cons _ _ (ih (by simpa using hl) fun j v hv => ?_)
      obtain ⟨t, e⟩ := h (j + 1) v (by simpa using hv)
      exact ⟨t, by simpa using e⟩

structure Glob1 (h : Heap) (mg mb : Str → Option Value) (tD tK tD' tK' : Tok) (hsK hsK' : Int) : Prop where
  gl : Gl mg mb h
  len : mg "len" = none
  len' : mb "len" = some (.builtin "len")
  rng : mg "range" = none
  rng' : mb "range" = some (.type "range")
  mn : mg "min" = none
  mn' : mb "min" = some (.builtin "min")
  mx : mg "max" = none
  mx' : mb "max" = some (.builtin "max")
  nsr : mg "search_reverse" = some (.ref 21)
  nbr : mg "bisect_right" = some (.ref 30)
  nbl : mg "bisect_left" = some (.ref 39)
  nru : mg "_law_rule" = some (.ref 46)
  nle : mg "_law_least" = some (.ref 53)
  nwe : mg "_law_weights" = some (.ref 60)
  npr : mg "_law_prog" = some (.ref 67)
  dsr : IsDef pw1 1 h 21 .none .none 20
  csr : CodeP h 20
  dbr : IsDef pw1 3 h 30 (.ref 22) (.ref 23) 29
  cbr : CodeP h 29
  kbr : (KDr tD tK hsK).In h
  dbl : IsDef pw1 4 h 39 (.ref 31) (.ref 32) 38
  cbl : CodeP h 38
  kbl : (KDl tD' tK' hsK').In h
  dru : IsDef pw1 6 h 46 .none .none 45
  cru : CodeP h 45
  dle : IsDef pw1 7 h 53 .none .none 52
  cle : CodeP h 52
  dwe : IsDef pw1 8 h 60 .none .none 59
  cwe : CodeG h 59
  dpr : IsDef pw1 9 h 67 .none .none 66
  cpr : CodeG h 66

theorem fR_mono (ns : List Int) (t : Nat) : fR ns t ≤ fR ns (t + 1) ∧ (t : Int) ≤ fR ns t := by
  have hs : 0 ≤ stepR ns t := by
    unfold stepR
    split
    · exact ((fdiv_fmod_facts (ns.getD t 0) 5).2.2.1 (by decide)).1
    · omega
  refine ⟨by show _ ≤ max _ _; omega, ?_⟩
  cases t with
  | zero => show (0 : Int) ≤ 0; omega
  | succ t => show ((t + 1 : Nat) : Int) ≤ max _ _; omega
theorem fR_le (ns : List Int) {i j : Nat} (h : i ≤ j) : fR ns i ≤ fR ns j := by
  induction h with
  | refl => exact Int.le_refl _
  | step _ ih => exact Int.le_trans ih (fR_mono ns _).1
theorem ruleL_at {ns : List Int} {top t : Nat} (h : t ≤ top) : (ruleL ns top).getD t 0 = fR ns t := by
  simp only [ruleL, List.getD, List.getElem?_map, List.getElem?_range (show t < top + 1 by omega)]; rfl
theorem ruleL_len {ns : List Int} {top : Nat} : (ruleL ns top).length = top + 1 := by simp
theorem ruleL_sorted {ns : List Int} {top : Nat} : Sorted (ruleL ns top) := fun i j hij hj => by
  rw [ruleL_len] at hj
  rw [ruleL_at (by omega), ruleL_at (by omega)]; exact fR_le ns hij
theorem Fn.weak {h₀ h : Heap} {L : Addr} {m : Str → Option Value} {U T T' : List (Addr × Obj)} {C C' : List Addr} (F : Fn h₀ L m U T C h) (hT : ∀ p ∈ T', p ∈ T) (hC : ∀ c ∈ C', c ∈ C) : Fn h₀ L m U T' C' h :=
  { F.sub hT with codes := fun c hc => F.codes c (hC c hc) }
/-- the value told, among the objects known -/
def ToldIs (T : List (Addr × Obj)) (r : Option (Int × Int)) (v : Value) : Prop := match r with
  | none => v = .none
  | some (i, j) => ∃ a t u, v = .ref a ∧ (a, kdv_tup [.int i t, .int j u]) ∈ T
def loop2 : List Stmt := match ((FD pw1 10).2.1[8]? : Option Stmt) with
  | some (.For _ _ b _ _) => b
  | _ => []

end Mine

end

section
open PySem PySem.W PySem.Calls PyProof.Rows
open PySem PySem.W PySem.Calls PyProof.Rows
namespace Mine
variable [Base]
set_option maxRecDepth 100000
set_option maxHeartbeats 4000000
local macro_rules | `(tactic| walk_at "hv") => `(tactic| first | rfl | assumption)
local macro_rules | `(tactic| walk_at "dec") => `(tactic| first | rfl | assumption | exact decide_eq_true (by omega) | exact decide_eq_false (by omega))
local macro_rules | `(tactic| walk_at "go0") => `(tactic| first
  | with_reducible refine wpAny_execs_nil ?_
  | with_reducible refine wpAny_If ?_
  | ((with_reducible refine ite_f ?hdec ?_); (case hdec => walk_at "dec"))
  | ((with_reducible refine ite_t ?hdec ?_); (case hdec => walk_at "dec"))
  | ((with_reducible refine wpAny_isTrue_Compare1 ?_ ?hm); (case hm => with_unfolding_all rfl))
  | with_reducible refine isTrue_and ?_
  | with_reducible refine isTrue_and_nil ?_
  | with_reducible refine isTrue_or ?_
  | with_reducible refine isTrue_or_nil ?_
  | with_reducible refine isTrue_not ?_
  | ((with_reducible refine isTrue_plain ?_ ?he); (case he => rfl))
  | ((with_reducible refine wpAny_Assign_Name ?_ ?hs); (case hs => rfl))
  | with_reducible refine wpAny_AugAssign_Name ?_
  | with_reducible refine wpAny_Return_some ?_
  | with_reducible refine wpAny_BinOp ?_
  | ((with_reducible refine wpAny_Compare1 ?_ ?hm); (case hm => with_unfolding_all rfl))
  | with_reducible refine IfExp_ ?_
  | with_reducible refine UnaryOp_ ?_
  | with_reducible refine Subscript_ ?_
  | ((with_reducible refine' ldL ?F ?hv ?_ ?hk ?hx ?hd); (case F => assumption); (case hk => rfl); (case hx => rfl); (case hd => decide); (case hv => walk_at "hv"))
  | ((with_reducible refine' ldnL ?F ?hv ?_ ?hk ?hx); (case F => assumption); (case hk => rfl); (case hx => rfl); (case hv => walk_at "hv"))
  | ((with_reducible refine' stL ?F ?_ ?hk ?hx); (case F => assumption); (case hk => rfl); (case hx => rfl); intro h' t' F')
  | ((with_reducible refine' ldG ?F ?G ?hv ?_ ?hk ?hx ?hd); (case F => assumption); (case G => assumption); (case hk => rfl); (case hx => rfl); (case hd => decide); (case hv => assumption))
  | ((with_reducible refine' ldB ?F ?G ?hn ?hv ?_ ?hk ?hx ?hd); (case F => assumption); (case G => assumption); (case hk => rfl); (case hx => rfl); (case hd => decide); (case hn => assumption); (case hv => assumption))
  | ((with_reducible refine cInt ?_); intro _ _)
  | ((with_reducible refine cStr ?_); intro _ _)
  | with_reducible refine Constant_none ?_
  | with_reducible refine Constant_bool ?_
  | ((with_reducible refine addI ?_); intro _ _)
  | ((with_reducible refine subI ?_); intro _ _)
  | ((with_reducible refine modI ?hb ?_); (case hb => decide); intro _ _)
  | ((with_reducible refine fdivI ?hb ?hs ?_); (case hb => decide); (case hs => decide); intro _ _)
  | with_reducible refine PyProof.Rows.lt_int ?_
  | with_reducible refine PyProof.Rows.le_int ?_
  | with_reducible refine PyProof.Rows.gt_int ?_
  | with_reducible refine PyProof.Rows.ge_int ?_
  | with_reducible refine PyProof.Rows.eq_int ?_
  | with_reducible refine PyProof.Rows.ne_int ?_
  | ((with_reducible refine iaddI ?_); intro _ _)
  | ((with_reducible refine negI ?_); intro _ _)
  | with_reducible refine SliceG_ ?_
  | with_reducible refine evN ?_
  | with_reducible refine evS ?_
  | ((with_reducible refine' newSliceG ?F ?_); (case F => assumption); intro sl' hs' _ Fs')
  | with_reducible refine wpAny_truthy_bool ?_
  | with_reducible refine is_none_none ?_
  | with_reducible refine is_ref_none ?_
  | with_reducible refine is_int_none ?_
  | with_reducible refine isnot_none_none ?_
  | with_reducible refine isnot_ref_none ?_
  | ((with_reducible refine' MethodCall_ ?_ ?he); (case he => rfl))
  | ((with_reducible refine Call_ ?_ ?he); (case he => rfl))
  | with_reducible refine wpAny_Call_Name_kw ?_
  | ((with_reducible refine Assign_Tuple ?_ ?hs ?hw); (case hs => rfl); (case hw => rfl))
  | ((with_reducible refine plainObj_wpAny_Assign_Attribute ?_ ?hs); (case hs => rfl))
  | with_reducible refine truthy_none ?_
  | with_reducible refine wpAny_Break ?_
  | ((with_reducible refine callWith_builtin1 ?_ ?he ?hp); (case he => rfl); (case hp => rfl))
  | ((with_reducible refine args_cons ?_ ?he); (case he => rfl))
  | with_reducible refine args_nil ?_
  | ((with_reducible refine callWith_type1 ?_ ?he ?hp); (case he => rfl); (case hp => rfl))
  | ((with_reducible refine' rng2 ?F ?_); (case F => assumption); intro R' ta' tb' tc' h' t' hR' F')
  | ((with_reducible refine' rng1 ?F ?_); (case F => assumption); intro R' ta' tb' tc' h' t' hR' F')
  | ((with_reducible refine wpAny_For ?_ ?hs); (case hs => intro _; rfl))
  | ((with_reducible refine wpAny_Expr ?_ ?hi ?hs); (case hi => rfl); (case hs => rfl))
  | with_reducible refine List_ ?_
  | with_reducible refine Tuple_ ?_
  | ((with_reducible refine' appendM ?ho ?hc ?hd ?_); (case ho => walk_at "get"); (case hc => rfl); (case hd => rfl))
  | ((with_reducible refine callWith_method1 ?_ ?he ?hp); (case he => rfl); (case hp => rfl))
  | ((with_reducible refine' maxG ?F ?hh ?_); (case F => assumption); (case hh => assumption); intro v' h' t' F')
  | ((with_reducible refine' minG ?F ?hh ?_); (case F => assumption); (case hh => assumption); intro v' h' t' F')
  | with_reducible refine PySem.EqNone.ne_none_none ?_
  | with_reducible refine BoolOp_and ?_
  | with_reducible refine BoolOp_one ?_
  | with_reducible refine PyProof.Rows.ne_bool ?_
  | ((with_reducible refine PyProof.Rows.isTrue_chain ?_ ?hm); (case hm => with_unfolding_all rfl))
  | with_reducible refine PyProof.Rows.test_link ?_
  | with_reducible refine PyProof.Rows.test_last ?_
  | dsimp only)
local macro_rules | `(tactic| walk_at "go1") => `(tactic| first | with_reducible refine wpAny_execs_cons ?_ | walk_at "go0")
local macro_rules | `(tactic| walk_at "go") => `(tactic| repeat (walk_at "go1"))
local macro_rules | `(tactic| walk_at "gs") => `(tactic| repeat (walk_at "go0"))
local macro_rules | `(tactic| walk_at "mem") => `(tactic| first | exact List.Mem.head _ | assumption | exact List.Mem.tail _ (List.Mem.head _) | exact List.Mem.tail _ (List.Mem.tail _ (List.Mem.head _)) | exact List.Mem.tail _ (List.Mem.tail _ (List.Mem.tail _ (List.Mem.head _))) | (simp; done))
local macro_rules | `(tactic| walk_at "get") => `(tactic| first | exact Fn.get (by assumption) (by walk_at "mem") | exact Fn.getU (by assumption) (by walk_at "mem"))
local macro_rules | `(tactic| walk_at "len") => `(tactic| ((with_reducible refine' lenL ?ho ?hb ?_); (case ho => walk_at "get"); (case hb => first | assumption | omega); intro tl' ul'))
local macro_rules | `(tactic| walk_at "item") => `(tactic| ((with_reducible refine' itemI ?ho ?hi ?h0 ?h1 ?hb ?_ ?hs ?ht); (case ho => walk_at "get"); (case hi => assumption); (case h0 => omega); (case h1 => omega); (case hb => first | assumption | omega); (case hs => with_unfolding_all rfl); (case ht => intro _; with_unfolding_all rfl); intro ti'))
local macro_rules | `(tactic| walk_at "itemV") => `(tactic| ((with_reducible refine' itemV ?ho ?h0 ?h1 ?hb ?_ ?hs ?ht); (case ho => walk_at "get"); (case h0 => omega); (case h1 => omega); (case hb => first | assumption | omega); (case hs => with_unfolding_all rfl); (case ht => intro _; with_unfolding_all rfl)))
local macro_rules | `(tactic| walk_at "last") => `(tactic| ((with_reducible refine' itemLast ?ho ?hi ?h1 ?hb ?_ ?hs ?ht); (case ho => walk_at "get"); (case hi => assumption); (case h1 => omega); (case hb => omega); (case hs => with_unfolding_all rfl); (case ht => intro _; with_unfolding_all rfl); intro ti'))
theorem rest2_spec {prog : Program} {w : World} {h : Heap} {fa c ll : Addr} {lvs : List Value} {ls : List Int} {ln top col left : Nat} {oL : Obj} {P : Nat → Prop} {s : Shared} {J : (Str → Option Value) → List (Addr × Obj) → Prop} {Q : Flow → Shared → Prop} {r : Option (Int × Int)} {v : Value} {T T' : List (Addr × Obj)} {C C' : List Addr}
    (A : Around) (q : Str) (L : Addr) (h₁ : Heap) (t : Nat) (hr : Room A 9) {m : Str → Option Value} (F : Fn h L m [] T C h₁)
    (hT : ∀ p ∈ T', p ∈ T) (hC : ∀ c ∈ C', c ∈ C) (hoL : oL.data = .cell (some (.ref ll))) (mL : (L + 1, oL) ∈ T) (ml : (ll, listOf lvs.toArray ln) ∈ T) (lI : IntsAre lvs ls) (hlb : ls.length = top + 1) (htop : top < 1000) (hcol : col ≤ top + 1)
    (mt : ∃ tt, m "top" = some (.int top tt)) (mc : ∃ tt, m "col" = some (.int col tt)) (mv : m "told" = some v) (hv : ToldIs T r v)
    (hP0 : P top) (hP1 : ∀ x, P x → col < x → ∃ y : Nat, ls.getD x 0 = (x : Int) - y ∧ y < x ∧ P y) (hP2 : ∀ x, P x → x ≤ col → x = left) (hP3 : ∀ x, P x → x ≤ top) (hlt : left ≤ top)
    (er : r = if top < col then some ((top : Int), (top : Int)) else if left = 0 then none else some ((left : Int) - ls.getD left 0, (left : Int)))
    (hJ : ∀ m', (∀ x : Str, x ≠ "left" → x ≠ "due" → m' x = m x) → J m' []) :
    wpAny (model prog w) A (execs (loop2.drop 3) (envX q (FD pw1 10).2.2 L fa (.ref c) [("least", L + 1)])) (TurnPost s h L T' C' J Q) NoE { s with heap := h₁, toks := t } := by
  have hh := hr.handled
  have hb0 : A.units < cLine := by have := hr.units; omega
  obtain ⟨tt, mt⟩ := mt
  obtain ⟨tc, mc⟩ := mc
  show wpAny _ _ (execs (_ :: _) _) _ _ _
  walk_at "go"
  rename Fn _ _ _ _ _ _ _ => F₁
  refine while_G (fun k s' => ∃ (h' : Heap) (t' : Nat) (m' : Str → Option Value) (x : Nat) (tx : Tok), s' = { s with heap := h', toks := t' } ∧ Fn h L m' [] T C h' ∧ m' "left" = some (.int x tx) ∧ (∀ y : Str, y ≠ "left" → m' y = m y) ∧ P x ∧ x = k) top
    ⟨_, _, _, top, tt, rfl, F₁, rfl, fun y hy => if_neg hy, hP0, rfl⟩ ?_
  rintro k s' ⟨h', t', m', x, tx, rfl, F₂, ml', mo, hPx, rfl⟩
  have mt' := (mo "top" (by decide)).trans mt
  have mc' := (mo "col" (by decide)).trans mc
  have mv' := (mo "told" (by decide)).trans mv
  clear F F₁
  walk_at "go"
  refine split_dec (fun hgt => ?_) (fun hgt => ?_)
  · walk_at "go"
    refine ldC (c := L + 1) (o := oL) rfl (F₂.get mL) hoL ?_ rfl rfl
    walk_at "go"
    have := hP3 x hPx
    refine' itemI (k := (x : Int)) (F₂.get ml) lI (by omega) (by omega) (by omega) (fun ti => ?_) (by with_unfolding_all rfl) (by intro _; with_unfolding_all rfl)
    walk_at "go"
    rename Fn _ _ _ _ _ _ _ => F₃
    obtain ⟨y, ey, hy, hPy⟩ := hP1 x hPx (by omega)
    rw [show (x : Int).toNat = x by omega, ey, show (x : Int) - (x - y) = y by omega] at F₃
    exact ⟨y, hy, _, _, _, y, _, rfl, F₃, rfl, fun z hz => (if_neg hz).trans (mo z hz), hPy, rfl⟩
  · have hxl : x = left := hP2 x hPx (by omega)
    subst hxl
    walk_at "go"
    refine split_bool (fun hb => ?_) (fun hb => ?_)
    · have hx0 : x = 0 := by simpa using hb
      walk_at "go"
      rename Fn _ _ _ _ _ _ _ => F₄
      refine split_dec (fun hg => ?_) (fun hg => ?_)
      · walk_at "go"
        refine tupG F₄ fun b h₅ hb k₅ eb Fz => ?_
        rw [if_pos (by omega)] at er
        subst er
        obtain ⟨a, ta, tb, rfl, ha⟩ := hv
        refine neTT (Fz.get (.tail _ ha)) eb hb0 ?_
        rw [show (!((top : Int) == top && (top : Int) == top)) = false by simp]
        walk_at "go"
        exact TurnPost.next (s := s) (Fz.weak (fun p hp => .tail _ (hT p hp)) hC) (hJ _ fun y h1 h2 => (if_neg h2).trans (mo y h1))
      · rw [if_neg (by omega), if_pos hx0] at er
        subst er
        cases (show v = .none from hv)
        walk_at "go"
        rename Fn _ _ _ _ _ _ _ => Fz
        exact TurnPost.next (s := s) (Fz.weak (fun p hp => hT p hp) hC) (hJ _ fun y h1 h2 => (if_neg h2).trans (mo y h1))
    · have hx0 : ¬ x = 0 := by simpa using hb
      walk_at "go"
      refine ldC (c := L + 1) (o := oL) rfl (F₂.get mL) hoL ?_ rfl rfl
      walk_at "go"
      refine' itemI (k := (x : Int)) (F₂.get ml) lI (by omega) (by omega) (by omega) (fun ti => ?_) (by with_unfolding_all rfl) (by intro _; with_unfolding_all rfl)
      walk_at "go"
      refine tupG F₂ fun bd h₅ hbd k₅ ebd F₅ => ?_
      clear F₂
      walk_at "go"
      rename Fn _ _ _ _ _ _ _ => F₄
      refine split_dec (fun hg => ?_) (fun hg => ?_)
      · walk_at "go"
        refine tupG F₄ fun b h₅ hb k₅ eb Fz => ?_
        rw [if_pos (by omega)] at er
        subst er
        obtain ⟨a, ta, tb, rfl, ha⟩ := hv
        refine neTT (Fz.get (.tail _ (.tail _ ha))) eb hb0 ?_
        rw [show (!((top : Int) == top && (top : Int) == top)) = false by simp]
        walk_at "go"
        exact TurnPost.next (s := s) (Fz.weak (fun p hp => .tail _ (.tail _ (hT p hp))) hC) (hJ _ fun y h1 h2 => (if_neg h2).trans (mo y h1))
      · rw [if_neg (by omega), if_neg hx0] at er
        subst er
        obtain ⟨a, ta, tb, rfl, ha⟩ := hv
        walk_at "go"
        rename Fn _ _ _ _ _ _ _ => Fz
        refine neTT (Fz.get (.tail _ ha)) (Fz.get (.head _)) hb0 ?_
        rw [show (!((x : Int) - ls.getD x 0 == (x : Int) - ls.getD (x : Int).toNat 0 && (x : Int) == (x : Int))) = false by simp]
        walk_at "go"
        exact TurnPost.next (s := s) (Fz.weak (fun p hp => .tail _ (hT p hp)) hC) (hJ _ fun y h1 h2 => (if_neg h2).trans (mo y h1))

end Mine

end

section
open PySem PySem.W PySem.Calls PyProof.Rows
open PySem PySem.W PySem.Calls PyProof.Rows
namespace Mine
variable [Base]
set_option maxRecDepth 100000
set_option maxHeartbeats 4000000
local macro_rules | `(tactic| walk_at "hv") => `(tactic| first | rfl | assumption)
local macro_rules | `(tactic| walk_at "dec") => `(tactic| first | rfl | assumption | exact decide_eq_true (by omega) | exact decide_eq_false (by omega))
local macro_rules | `(tactic| walk_at "go0") => `(tactic| first
  | with_reducible refine wpAny_execs_nil ?_
  | with_reducible refine wpAny_If ?_
  | ((with_reducible refine ite_f ?hdec ?_); (case hdec => walk_at "dec"))
  | ((with_reducible refine ite_t ?hdec ?_); (case hdec => walk_at "dec"))
  | ((with_reducible refine wpAny_isTrue_Compare1 ?_ ?hm); (case hm => with_unfolding_all rfl))
  | with_reducible refine isTrue_and ?_
  | with_reducible refine isTrue_and_nil ?_
  | with_reducible refine isTrue_or ?_
  | with_reducible refine isTrue_or_nil ?_
  | with_reducible refine isTrue_not ?_
  | ((with_reducible refine isTrue_plain ?_ ?he); (case he => rfl))
  | ((with_reducible refine wpAny_Assign_Name ?_ ?hs); (case hs => rfl))
  | with_reducible refine wpAny_AugAssign_Name ?_
  | with_reducible refine wpAny_Return_some ?_
  | with_reducible refine wpAny_BinOp ?_
  | ((with_reducible refine wpAny_Compare1 ?_ ?hm); (case hm => with_unfolding_all rfl))
  | with_reducible refine IfExp_ ?_
  | with_reducible refine UnaryOp_ ?_
  | with_reducible refine Subscript_ ?_
  | ((with_reducible refine' ldL ?F ?hv ?_ ?hk ?hx ?hd); (case F => assumption); (case hk => rfl); (case hx => rfl); (case hd => decide); (case hv => walk_at "hv"))
  | ((with_reducible refine' ldnL ?F ?hv ?_ ?hk ?hx); (case F => assumption); (case hk => rfl); (case hx => rfl); (case hv => walk_at "hv"))
  | ((with_reducible refine' stL ?F ?_ ?hk ?hx); (case F => assumption); (case hk => rfl); (case hx => rfl); intro h' t' F')
  | ((with_reducible refine' ldG ?F ?G ?hv ?_ ?hk ?hx ?hd); (case F => assumption); (case G => assumption); (case hk => rfl); (case hx => rfl); (case hd => decide); (case hv => assumption))
  | ((with_reducible refine' ldB ?F ?G ?hn ?hv ?_ ?hk ?hx ?hd); (case F => assumption); (case G => assumption); (case hk => rfl); (case hx => rfl); (case hd => decide); (case hn => assumption); (case hv => assumption))
  | ((with_reducible refine cInt ?_); intro _ _)
  | ((with_reducible refine cStr ?_); intro _ _)
  | with_reducible refine Constant_none ?_
  | with_reducible refine Constant_bool ?_
  | ((with_reducible refine addI ?_); intro _ _)
  | ((with_reducible refine subI ?_); intro _ _)
  | ((with_reducible refine modI ?hb ?_); (case hb => decide); intro _ _)
  | ((with_reducible refine fdivI ?hb ?hs ?_); (case hb => decide); (case hs => decide); intro _ _)
  | with_reducible refine PyProof.Rows.lt_int ?_
  | with_reducible refine PyProof.Rows.le_int ?_
  | with_reducible refine PyProof.Rows.gt_int ?_
  | with_reducible refine PyProof.Rows.ge_int ?_
  | with_reducible refine PyProof.Rows.eq_int ?_
  | with_reducible refine PyProof.Rows.ne_int ?_
  | ((with_reducible refine iaddI ?_); intro _ _)
  | ((with_reducible refine negI ?_); intro _ _)
  | with_reducible refine SliceG_ ?_
  | with_reducible refine evN ?_
  | with_reducible refine evS ?_
  | ((with_reducible refine' newSliceG ?F ?_); (case F => assumption); intro sl' hs' _ Fs')
  | with_reducible refine wpAny_truthy_bool ?_
  | with_reducible refine is_none_none ?_
  | with_reducible refine is_ref_none ?_
  | with_reducible refine is_int_none ?_
  | with_reducible refine isnot_none_none ?_
  | with_reducible refine isnot_ref_none ?_
  | ((with_reducible refine' MethodCall_ ?_ ?he); (case he => rfl))
  | ((with_reducible refine Call_ ?_ ?he); (case he => rfl))
  | with_reducible refine wpAny_Call_Name_kw ?_
  | ((with_reducible refine Assign_Tuple ?_ ?hs ?hw); (case hs => rfl); (case hw => rfl))
  | ((with_reducible refine plainObj_wpAny_Assign_Attribute ?_ ?hs); (case hs => rfl))
  | with_reducible refine truthy_none ?_
  | with_reducible refine wpAny_Break ?_
  | ((with_reducible refine callWith_builtin1 ?_ ?he ?hp); (case he => rfl); (case hp => rfl))
  | ((with_reducible refine args_cons ?_ ?he); (case he => rfl))
  | with_reducible refine args_nil ?_
  | ((with_reducible refine callWith_type1 ?_ ?he ?hp); (case he => rfl); (case hp => rfl))
  | ((with_reducible refine' rng2 ?F ?_); (case F => assumption); intro R' ta' tb' tc' h' t' hR' F')
  | ((with_reducible refine' rng1 ?F ?_); (case F => assumption); intro R' ta' tb' tc' h' t' hR' F')
  | ((with_reducible refine wpAny_For ?_ ?hs); (case hs => intro _; rfl))
  | ((with_reducible refine wpAny_Expr ?_ ?hi ?hs); (case hi => rfl); (case hs => rfl))
  | with_reducible refine List_ ?_
  | with_reducible refine Tuple_ ?_
  | ((with_reducible refine' appendM ?ho ?hc ?hd ?_); (case ho => walk_at "get"); (case hc => rfl); (case hd => rfl))
  | ((with_reducible refine callWith_method1 ?_ ?he ?hp); (case he => rfl); (case hp => rfl))
  | ((with_reducible refine' maxG ?F ?hh ?_); (case F => assumption); (case hh => assumption); intro v' h' t' F')
  | ((with_reducible refine' minG ?F ?hh ?_); (case F => assumption); (case hh => assumption); intro v' h' t' F')
  | with_reducible refine PySem.EqNone.ne_none_none ?_
  | with_reducible refine BoolOp_and ?_
  | with_reducible refine BoolOp_one ?_
  | with_reducible refine PyProof.Rows.ne_bool ?_
  | ((with_reducible refine PyProof.Rows.isTrue_chain ?_ ?hm); (case hm => with_unfolding_all rfl))
  | with_reducible refine PyProof.Rows.test_link ?_
  | with_reducible refine PyProof.Rows.test_last ?_
  | dsimp only)
local macro_rules | `(tactic| walk_at "go1") => `(tactic| first | with_reducible refine wpAny_execs_cons ?_ | walk_at "go0")
local macro_rules | `(tactic| walk_at "go") => `(tactic| repeat (walk_at "go1"))
local macro_rules | `(tactic| walk_at "gs") => `(tactic| repeat (walk_at "go0"))
local macro_rules | `(tactic| walk_at "mem") => `(tactic| first | exact List.Mem.head _ | assumption | exact List.Mem.tail _ (List.Mem.head _) | exact List.Mem.tail _ (List.Mem.tail _ (List.Mem.head _)) | exact List.Mem.tail _ (List.Mem.tail _ (List.Mem.tail _ (List.Mem.head _))) | (simp; done))
local macro_rules | `(tactic| walk_at "get") => `(tactic| first | exact Fn.get (by assumption) (by walk_at "mem") | exact Fn.getU (by assumption) (by walk_at "mem"))
local macro_rules | `(tactic| walk_at "len") => `(tactic| ((with_reducible refine' lenL ?ho ?hb ?_); (case ho => walk_at "get"); (case hb => first | assumption | omega); intro tl' ul'))
local macro_rules | `(tactic| walk_at "item") => `(tactic| ((with_reducible refine' itemI ?ho ?hi ?h0 ?h1 ?hb ?_ ?hs ?ht); (case ho => walk_at "get"); (case hi => assumption); (case h0 => omega); (case h1 => omega); (case hb => first | assumption | omega); (case hs => with_unfolding_all rfl); (case ht => intro _; with_unfolding_all rfl); intro ti'))
local macro_rules | `(tactic| walk_at "itemV") => `(tactic| ((with_reducible refine' itemV ?ho ?h0 ?h1 ?hb ?_ ?hs ?ht); (case ho => walk_at "get"); (case h0 => omega); (case h1 => omega); (case hb => first | assumption | omega); (case hs => with_unfolding_all rfl); (case ht => intro _; with_unfolding_all rfl)))
local macro_rules | `(tactic| walk_at "last") => `(tactic| ((with_reducible refine' itemLast ?ho ?hi ?h1 ?hb ?_ ?hs ?ht); (case ho => walk_at "get"); (case hi => assumption); (case h1 => omega); (case hb => omega); (case hs => with_unfolding_all rfl); (case ht => intro _; with_unfolding_all rfl); intro ti'))
theorem itemT {prog : Program} {w : World} {A : Around} {E : Value → Shared → Prop} {s : Shared} {Q : Value → Shared → Prop} {value slice : Expr} {a : Addr} {i j k : Int} {t u tk : Tok} (ho : s.heap.get? a = some (kdv_tup [.int i t, .int j u])) (h0 : 0 ≤ k) (h1 : k < 2)
    (h : ∀ t, Q (.int ([i, j].getD k.toNat 0) t) s)
    (hs : subscripted slice false (.ref a) (.int k tk) = operate [.ref a, .int k tk] (getItem (.ref a) (.int k tk)) := by with_unfolding_all rfl) (ht : ∀ r, letTemporaryGo value (.ref a) r = pure () := by intro _; with_unfolding_all rfl) :
    wpAny (model prog w) A (subscriptTail value slice (.ref a) (.int k tk)) Q E s :=
  item_tuple_ints (vs := [.int i t, .int j u]) (ns := [i, j]) ⟨_, ho, rfl, 0, rfl⟩ (.cons _ _ (.cons _ _ .nil)) h0 (by simpa using h1) (by omega) h hs ht
theorem cmpBB {x y : Bool} (h : x = y) : (x != y) = false := by subst h; cases x <;> rfl

def loop2If : Stmt := match (loop2[2]? : Option Stmt) with
  | some x => x
  | none => .Pass ⟨0, 0, 0, 0⟩
theorem cond2_spec {prog : Program} {w : World} {h : Heap} {fa c ll rl : Addr} {lvs rvs : List Value} {f ls : List Int} {ln rn top col left : Nat} {oL : Obj} {s : Shared} {r : Option (Int × Int)} {v : Value} {T : List (Addr × Obj)} {C : List Addr}
    (A : Around) (q : Str) (L : Addr) (h₁ : Heap) (t : Nat) (hr : Room A 9) {m : Str → Option Value} (F : Fn h L m [] T C h₁)
    (hoL : oL.data = .cell (some (.ref ll))) (mL : (L + 1, oL) ∈ T) (ml : (ll, listOf lvs.toArray ln) ∈ T) (lI : IntsAre lvs ls) (hlb : ls.length = top + 1) (mrl : (rl, listOf rvs.toArray rn) ∈ T) (rI : IntsAre rvs f) (hfl : f.length = top + 1) (htop : top < 1000)
    (mt : ∃ tt, m "top" = some (.int top tt)) (mc : ∃ tt, m "col" = some (.int col tt)) (mr : m "rule" = some (.ref rl)) (mv : m "told" = some v) (hv : ToldIs T r v) (hle : left ≤ col)
    (hcl : 0 < col → col < top → f.getD (top - col) 0 < ls.getD col 0 → left = col)
    (er : r = if top < col then some ((top : Int), (top : Int)) else if left = 0 then none else some ((left : Int) - ls.getD left 0, (left : Int))) :
    wpAny (model prog w) A (exec loop2If (envX q (FD pw1 10).2.2 L fa (.ref c) [("least", L + 1)])) (fun f s' => f = .next ∧ ∃ h' t' m', s' = { s with heap := h', toks := t' } ∧ Fn h L m' [] T C h' ∧ ∀ y : Str, y ≠ "limit" → m' y = m y) NoE { s with heap := h₁, toks := t } := by
  have hh := hr.handled
  obtain ⟨tt, mt⟩ := mt
  obtain ⟨tc, mc⟩ := mc
  show wpAny _ _ (exec (.If _ _ _ _) _) _ _ _
  walk_at "go"
  refine split_dec (fun h0 => ?_) (fun h0 => ?_)
  · refine test_last ?_
    walk_at "go"
    refine split_dec (fun h1 => ?_) (fun h1 => ?_)
    · walk_at "go"
      refine' itemI (k := (top : Int) - col) (F.get mrl) rI (by omega) (by omega) (by omega) (fun ti => ?_) (by with_unfolding_all rfl) (by intro _; with_unfolding_all rfl)
      walk_at "go"
      rename Fn _ _ _ _ _ _ _ => F₁
      refine ldC (c := L + 1) (o := oL) rfl (F₁.get mL) hoL ?_ rfl rfl
      walk_at "go"
      refine' itemI (k := (col : Int)) (F₁.get ml) lI (by omega) (by omega) (by omega) (fun ti => ?_) (by with_unfolding_all rfl) (by intro _; with_unfolding_all rfl)
      have e1 : ((top : Int) - col).toNat = top - col := by omega
      have e2 : ((col : Int)).toNat = col := by omega
      rw [e1] at F₁
      rw [e1, e2]
      rw [if_neg (by omega)] at er
      by_cases hl0 : left = 0
      · rw [if_pos hl0] at er
        subst er
        cases (show v = .none from hv)
        walk_at "go"
        have hb : (decide (f.getD (top - col) 0 < ls.getD col 0) != false) = false := cmpBB (decide_eq_false fun hh => by have := hcl (by omega) (by omega) hh; omega)
        rw [hb]
        walk_at "go"
        exact ⟨rfl, _, _, _, rfl, F₁, fun y hy => if_neg hy⟩
      · rw [if_neg hl0] at er
        subst er
        obtain ⟨a, ta, tb, rfl, ha⟩ := hv
        walk_at "go"
        refine' itemT (k := 1) (F₁.get ha) (by omega) (by omega) (fun ti => ?_) (by with_unfolding_all rfl) (by intro _; with_unfolding_all rfl)
        walk_at "go"
        refine split_bool (fun hb => ?_) (fun hb => ?_)
        · have hlc : (left : Int) = col := by simpa using hb
          have hlc' : left = col := by omega
          walk_at "go"
          refine' itemT (k := 0) (F₁.get ha) (by omega) (by omega) (fun ti => ?_) (by with_unfolding_all rfl) (by intro _; with_unfolding_all rfl)
          walk_at "go"
          have hb : (decide (f.getD (top - col) 0 < ls.getD col 0) != decide (f.getD (top - col) 0 < (col : Int) - [(left : Int) - ls.getD left 0, (left : Int)].getD (0 : Int).toNat 0)) = false := cmpBB (by
            congr 1
            show _ = (_ < (col : Int) - ((left : Int) - ls.getD left 0))
            rw [hlc', show (col : Int) - (col - ls.getD col 0) = ls.getD col 0 by omega])
          rw [hb]
          walk_at "go"
          exact ⟨rfl, _, _, _, rfl, F₁, fun y hy => if_neg hy⟩
        · have hlc : ¬ (left : Int) = col := by simpa using hb
          walk_at "go"
          have hb2 : (decide (f.getD (top - col) 0 < ls.getD col 0) != ([(left : Int) - ls.getD left 0, (left : Int)].getD (1 : Int).toNat 0 == (col : Int))) = false := cmpBB (by
            rw [hb]
            exact decide_eq_false fun hh => by have := hcl (by omega) (by omega) hh; omega)
          rw [hb2]
          walk_at "go"
          exact ⟨rfl, _, _, _, rfl, F₁, fun y hy => if_neg hy⟩
    · walk_at "go"
      exact ⟨rfl, _, _, _, rfl, F, fun y hy => rfl⟩
  · walk_at "go"
    exact ⟨rfl, _, _, _, rfl, F, fun y hy => rfl⟩

theorem tail_spec {prog : Program} {w : World} {h : Heap} {fa c ll rl wl p : Addr} {lvs rvs wvs : List Value} {ns ls ws : List Int} {ln rn wn top : Nat} {oL : Obj} {T pN : List (Addr × Obj)} {C pCs : List Addr} {tD tK tD' tK' : Tok} {hsK hsK' : Int} {mg mb : Str → Option Value} (X : Glob1 h mg mb tD tK tD' tK' hsK hsK')
    (A : Around) (s₀ : Shared) (t : Nat) (q : Str) (L : Addr) (h₁ : Heap) (hr : Room A 9) {m : Str → Option Value} (F : Fn h L m [] T C h₁)
    (hoL : oL.data = .cell (some (.ref ll))) (mL : (L + 1, oL) ∈ T) (mll : (ll, listOf lvs.toArray ln) ∈ T) (lI : IntsAre lvs ls) (mrl : (rl, listOf rvs.toArray rn) ∈ T) (rI : IntsAre rvs (ruleL ns top)) (mwl : (wl, listOf wvs.toArray wn) ∈ T)
    (htop1 : 12 ≤ top) (htop2 : top ≤ 16) (S : Sch (ruleL ns top) ws ls top) (hpT : ∀ q ∈ pN, q ∈ T ∧ NT q.2) (hpC : ∀ c ∈ pCs, c ∈ C)
    (hP : ∀ (x : Str) (tx : Tok) (S : Int → Option (Int × Int)), x.length < 2 ^ 62 → SW (0 :: Wof ws) x.length S → Prog prog w (G1 mg mb 30 29 tD tK hsK) 4 (.str x tx) S p ((wl, listOf wvs.toArray wn) :: pN) pCs)
    (ms : m "second" = some (.ref p)) (mt : ∃ tt, m "top" = some (.int top tt)) (mr : m "rule" = some (.ref rl)) :
    wpAny (model prog w) A (execs ((FD pw1 10).2.1.drop 8) (envX q (FD pw1 10).2.2 L fa (.ref c) [("least", L + 1)])) (Ret s₀ h fun v _ => v = .bool true) NoE (St s₀ h₁ t) := by
  have hh := hr.handled
  have hb0 : A.units < cLine := by have := hr.units; omega
  obtain ⟨G, hlen, hlen', hrg, hrg', hmn, hmn', hmx, hmx', nsr, nbr, nbl, nru, nle, nwe, npr, dsr, csr, dbr, cbr, kbr, dbl, cbl, kbl, dru, cru, dle, cle, dwe, cwe, dpr, cpr⟩ := X
  obtain ⟨tt, mt⟩ := mt
  have hlb := S.le.1
  have hWn : ∀ i : Nat, i < (0 :: Wof ws).length → 0 ≤ (0 :: Wof ws).getD i 0 := fun i hi => by
    cases i with
    | zero => simp
    | succ i =>
      simp only [List.length_cons, Wof.len] at hi
      rw [List.getD_cons_succ, Wof.at (by omega)]
      have := S.pos ⟨i, by omega, rfl⟩
      omega
  show wpAny _ _ (execs (_ :: _) _) _ _ _
  walk_at "go"
  rename_i R' ta tb tc h₁₀ t₁₀ hR F₁₀
  clear F
  refine iter_range F₁₀ hh hR (by omega) (by omega) (by omega) (by omega) (fun i m U => U = [] ∧ m "second" = some (.ref p) ∧ (∃ tt, m "top" = some (.int top tt)) ∧ m "rule" = some (.ref rl))
    ⟨rfl, ms, ⟨_, mt⟩, mr⟩ ?_ ?_ rfl rfl
  · clear mt ms mr F₁₀
    rintro i ti m U h' I o tk hib ⟨rfl, ms, ⟨tt, mt⟩, mr⟩ F
    dsimp only
    rw [Int.zero_add] at F
    walk_at "go"
    refine callDef dsr ?_
    walk_at "go"
    refine mulS (c := 111) (n := top) (by omega) fun tx ux => ?_
    walk_at "go"
    refine ⟨F.keep, ?_⟩
    have hxl : (⟨(List.replicate top 111).toArray⟩ : Str).length = top := by simp [Str.length]
    obtain ⟨left, P, hP0, hP1, hP2, hP3, hle, hlt, hSR, hcl⟩ := S.second (by omega) i
    generalize er : (if top < i then some ((top : Int), (top : Int)) else if left = 0 then none else some ((left : Int) - ls.getD left 0, (left : Int))) = r at hSR
    refine callG (sr_spec (GF := G1 mg mb 30 29 tD tK hsK) (d := 2) (S := Sof (0 :: Wof ws) top) (T := (wl, listOf wvs.toArray wn) :: pN) (C := pCs) (dsr.kept F.keep) (csr.kept F.keep) (G.kept F.keep).lim ⟨G.kept F.keep, dbr.kept F.keep, cbr.kept F.keep, In.kept kbr F.keep KDr.nt⟩ (fun _ _ k x => x.kept k)
      (hP _ _ _ (by rw [hxl]; omega) (by rw [hxl]; exact Sof.sw _ _)) ⟨fun q hq => F.get ?_, fun c hc => F.codes c ?_⟩ (fun q hq => ?_) (hSR (by omega)) (fun _ _ _ hk h => Sof.nonneg hWn hk h)) (hr.less (by omega)) ?_
    · rcases List.mem_cons.mp hq with rfl | hq
      · exact .tail _ mwl
      · exact .tail _ (hpT q hq).1
    · exact hpC c hc
    · rcases List.mem_cons.mp hq with rfl | hq
      · exact NF.nt nofun
      · exact (hpT q hq).2
    · intro v h₁₁ t₁₁ k₁₁ hpost
      cases r with
      | none =>
        cases (show v = .none from hpost)
        replace F := F.kept k₁₁
        have hr0 : ¬ top < i ∧ left = 0 := by
          by_cases e1 : top < i
          · rw [if_pos e1] at er; cases er
          · by_cases e2 : left = 0
            · exact ⟨e1, e2⟩
            · rw [if_neg e1, if_neg e2] at er; cases er
        walk_at "gs"
        refine wpAny_execs_cons ?_
        walk_at "gs"
        rename Fn _ _ _ _ _ _ _ => F₂
        refine wpAny_execs_cons ?_
        refine wpAny_mono (cond2_spec (r := none) (s := St s₀ h₁₀ t₁₀) A q L _ _ hr F₂ hoL (.tail _ mL) (.tail _ mll) lI hlb (.tail _ mrl) rI ruleL_len (by omega) ⟨_, mt⟩ ⟨_, rfl⟩ mr rfl rfl hle hcl er.symm) (fun f s' hf => ?_) (fun _ _ x => x)
        obtain ⟨rfl, h', t', m', rfl, F', mo⟩ := hf
        exact rest2_spec (r := none) (s := St s₀ h₁₀ t₁₀) A q L h' t' hr F' (fun p hp => hp) (fun c hc => hc) hoL (.tail _ mL) (.tail _ mll) lI hlb (by omega) (by omega) ⟨_, (mo "top" (by decide)).trans mt⟩ ⟨_, (mo "col" (by decide)).trans rfl⟩ ((mo "told" (by decide)).trans rfl) rfl hP0 hP1 hP2 hP3 hlt er.symm
          (fun m'' hm => ⟨rfl, (hm "second" (by decide) (by decide)).trans ((mo "second" (by decide)).trans ms), ⟨_, (hm "top" (by decide) (by decide)).trans ((mo "top" (by decide)).trans mt)⟩, (hm "rule" (by decide) (by decide)).trans ((mo "rule" (by decide)).trans mr)⟩)
      | some ij =>
        obtain ⟨i', j'⟩ := ij
        obtain ⟨fh, hN, hCs, rfl, hnN, hnC, hH⟩ := hpost
        replace F := (F.learn k₁₁ hnN).learnAllC hnC
        have memR : ∀ {q : Addr × Obj}, q ∈ T → q ∈ hN ++ ((I, o) :: T) := fun hq => List.mem_append.mpr (.inr (.tail _ hq))
        walk_at "gs"
        refine wpAny_execs_cons ?_
        walk_at "gs"
        rename Fn _ _ _ _ _ _ _ => Fy
        refine spanG Fy G.lim (hr.less (by omega)) (hH.mono (fun _ hq => List.mem_append.mpr (.inl hq)) fun _ hq => List.mem_append.mpr (.inl hq)) fun a ta tb h₁₂ t₁₂ _ F₁₂ => ?_
        clear Fy F
        walk_at "gs"
        rename Fn _ _ _ _ _ _ _ => F₂
        refine wpAny_execs_cons ?_
        refine wpAny_mono (cond2_spec (r := some (i', j')) (s := St s₀ h₁₀ t₁₀) A q L _ _ hr F₂ hoL (.tail _ (memR mL)) (.tail _ (memR mll)) lI hlb (.tail _ (memR mrl)) rI ruleL_len (by omega) ⟨_, mt⟩ ⟨_, rfl⟩ mr rfl ⟨a, ta, tb, rfl, .head _⟩ hle hcl er.symm) (fun f s' hf => ?_) (fun _ _ x => x)
        obtain ⟨rfl, h', t', m', rfl, F', mo⟩ := hf
        exact rest2_spec (r := some (i', j')) (s := St s₀ h₁₀ t₁₀) A q L h' t' hr F' (fun p hp => .tail _ (List.mem_append.mpr (.inr hp))) (fun c hc => List.mem_append.mpr (.inr hc)) hoL (.tail _ (memR mL)) (.tail _ (memR mll)) lI hlb (by omega) (by omega) ⟨_, (mo "top" (by decide)).trans mt⟩ ⟨_, (mo "col" (by decide)).trans rfl⟩ ((mo "told" (by decide)).trans rfl) ⟨a, ta, tb, rfl, .head _⟩ hP0 hP1 hP2 hP3 hlt er.symm
          (fun m'' hm => ⟨rfl, (hm "second" (by decide) (by decide)).trans ((mo "second" (by decide)).trans ms), ⟨_, (hm "top" (by decide) (by decide)).trans ((mo "top" (by decide)).trans mt)⟩, (hm "rule" (by decide) (by decide)).trans ((mo "rule" (by decide)).trans mr)⟩)
  · intro m U h₁₅ t₁₅ ⟨hU, _⟩ F₁₅
    walk_at "go"
    exact Ret.mk F₁₅.keep rfl

end Mine

end

section
open PySem PySem.W PySem.Calls PyProof.Rows
open PySem PySem.W PySem.Calls PyProof.Rows
namespace Mine
variable [Base]
set_option maxRecDepth 100000
set_option maxHeartbeats 4000000
local macro_rules | `(tactic| walk_at "hv") => `(tactic| first | rfl | assumption)
local macro_rules | `(tactic| walk_at "dec") => `(tactic| first | rfl | assumption | exact decide_eq_true (by omega) | exact decide_eq_false (by omega))
local macro_rules | `(tactic| walk_at "go0") => `(tactic| first
  | with_reducible refine wpAny_execs_nil ?_
  | with_reducible refine wpAny_If ?_
  | ((with_reducible refine ite_f ?hdec ?_); (case hdec => walk_at "dec"))
  | ((with_reducible refine ite_t ?hdec ?_); (case hdec => walk_at "dec"))
  | ((with_reducible refine wpAny_isTrue_Compare1 ?_ ?hm); (case hm => with_unfolding_all rfl))
  | with_reducible refine isTrue_and ?_
  | with_reducible refine isTrue_and_nil ?_
  | with_reducible refine isTrue_or ?_
  | with_reducible refine isTrue_or_nil ?_
  | with_reducible refine isTrue_not ?_
  | ((with_reducible refine isTrue_plain ?_ ?he); (case he => rfl))
  | ((with_reducible refine wpAny_Assign_Name ?_ ?hs); (case hs => rfl))
  | with_reducible refine wpAny_AugAssign_Name ?_
  | with_reducible refine wpAny_Return_some ?_
  | with_reducible refine wpAny_BinOp ?_
  | ((with_reducible refine wpAny_Compare1 ?_ ?hm); (case hm => with_unfolding_all rfl))
  | with_reducible refine IfExp_ ?_
  | with_reducible refine UnaryOp_ ?_
  | with_reducible refine Subscript_ ?_
  | ((with_reducible refine' ldL ?F ?hv ?_ ?hk ?hx ?hd); (case F => assumption); (case hk => rfl); (case hx => rfl); (case hd => decide); (case hv => walk_at "hv"))
  | ((with_reducible refine' ldnL ?F ?hv ?_ ?hk ?hx); (case F => assumption); (case hk => rfl); (case hx => rfl); (case hv => walk_at "hv"))
  | ((with_reducible refine' stL ?F ?_ ?hk ?hx); (case F => assumption); (case hk => rfl); (case hx => rfl); intro h' t' F')
  | ((with_reducible refine' ldG ?F ?G ?hv ?_ ?hk ?hx ?hd); (case F => assumption); (case G => assumption); (case hk => rfl); (case hx => rfl); (case hd => decide); (case hv => assumption))
  | ((with_reducible refine' ldB ?F ?G ?hn ?hv ?_ ?hk ?hx ?hd); (case F => assumption); (case G => assumption); (case hk => rfl); (case hx => rfl); (case hd => decide); (case hn => assumption); (case hv => assumption))
  | ((with_reducible refine cInt ?_); intro _ _)
  | ((with_reducible refine cStr ?_); intro _ _)
  | with_reducible refine Constant_none ?_
  | with_reducible refine Constant_bool ?_
  | ((with_reducible refine addI ?_); intro _ _)
  | ((with_reducible refine subI ?_); intro _ _)
  | ((with_reducible refine modI ?hb ?_); (case hb => decide); intro _ _)
  | ((with_reducible refine fdivI ?hb ?hs ?_); (case hb => decide); (case hs => decide); intro _ _)
  | with_reducible refine PyProof.Rows.lt_int ?_
  | with_reducible refine PyProof.Rows.le_int ?_
  | with_reducible refine PyProof.Rows.gt_int ?_
  | with_reducible refine PyProof.Rows.ge_int ?_
  | with_reducible refine PyProof.Rows.eq_int ?_
  | with_reducible refine PyProof.Rows.ne_int ?_
  | ((with_reducible refine iaddI ?_); intro _ _)
  | ((with_reducible refine negI ?_); intro _ _)
  | with_reducible refine SliceG_ ?_
  | with_reducible refine evN ?_
  | with_reducible refine evS ?_
  | ((with_reducible refine' newSliceG ?F ?_); (case F => assumption); intro sl' hs' _ Fs')
  | with_reducible refine wpAny_truthy_bool ?_
  | with_reducible refine is_none_none ?_
  | with_reducible refine is_ref_none ?_
  | with_reducible refine is_int_none ?_
  | with_reducible refine isnot_none_none ?_
  | with_reducible refine isnot_ref_none ?_
  | ((with_reducible refine' MethodCall_ ?_ ?he); (case he => rfl))
  | ((with_reducible refine Call_ ?_ ?he); (case he => rfl))
  | with_reducible refine wpAny_Call_Name_kw ?_
  | ((with_reducible refine Assign_Tuple ?_ ?hs ?hw); (case hs => rfl); (case hw => rfl))
  | ((with_reducible refine plainObj_wpAny_Assign_Attribute ?_ ?hs); (case hs => rfl))
  | with_reducible refine truthy_none ?_
  | with_reducible refine wpAny_Break ?_
  | ((with_reducible refine callWith_builtin1 ?_ ?he ?hp); (case he => rfl); (case hp => rfl))
  | ((with_reducible refine args_cons ?_ ?he); (case he => rfl))
  | with_reducible refine args_nil ?_
  | ((with_reducible refine callWith_type1 ?_ ?he ?hp); (case he => rfl); (case hp => rfl))
  | ((with_reducible refine' rng2 ?F ?_); (case F => assumption); intro R' ta' tb' tc' h' t' hR' F')
  | ((with_reducible refine' rng1 ?F ?_); (case F => assumption); intro R' ta' tb' tc' h' t' hR' F')
  | ((with_reducible refine wpAny_For ?_ ?hs); (case hs => intro _; rfl))
  | ((with_reducible refine wpAny_Expr ?_ ?hi ?hs); (case hi => rfl); (case hs => rfl))
  | with_reducible refine List_ ?_
  | with_reducible refine Tuple_ ?_
  | ((with_reducible refine' appendM ?ho ?hc ?hd ?_); (case ho => walk_at "get"); (case hc => rfl); (case hd => rfl))
  | ((with_reducible refine callWith_method1 ?_ ?he ?hp); (case he => rfl); (case hp => rfl))
  | ((with_reducible refine' maxG ?F ?hh ?_); (case F => assumption); (case hh => assumption); intro v' h' t' F')
  | ((with_reducible refine' minG ?F ?hh ?_); (case F => assumption); (case hh => assumption); intro v' h' t' F')
  | with_reducible refine PySem.EqNone.ne_none_none ?_
  | with_reducible refine BoolOp_and ?_
  | with_reducible refine BoolOp_one ?_
  | with_reducible refine PyProof.Rows.ne_bool ?_
  | ((with_reducible refine PyProof.Rows.isTrue_chain ?_ ?hm); (case hm => with_unfolding_all rfl))
  | with_reducible refine PyProof.Rows.test_link ?_
  | with_reducible refine PyProof.Rows.test_last ?_
  | dsimp only)
local macro_rules | `(tactic| walk_at "go1") => `(tactic| first | with_reducible refine wpAny_execs_cons ?_ | walk_at "go0")
local macro_rules | `(tactic| walk_at "go") => `(tactic| repeat (walk_at "go1"))
local macro_rules | `(tactic| walk_at "gs") => `(tactic| repeat (walk_at "go0"))
local macro_rules | `(tactic| walk_at "mem") => `(tactic| first | exact List.Mem.head _ | assumption | exact List.Mem.tail _ (List.Mem.head _) | exact List.Mem.tail _ (List.Mem.tail _ (List.Mem.head _)) | exact List.Mem.tail _ (List.Mem.tail _ (List.Mem.tail _ (List.Mem.head _))) | (simp; done))
local macro_rules | `(tactic| walk_at "get") => `(tactic| first | exact Fn.get (by assumption) (by walk_at "mem") | exact Fn.getU (by assumption) (by walk_at "mem"))
local macro_rules | `(tactic| walk_at "len") => `(tactic| ((with_reducible refine' lenL ?ho ?hb ?_); (case ho => walk_at "get"); (case hb => first | assumption | omega); intro tl' ul'))
local macro_rules | `(tactic| walk_at "item") => `(tactic| ((with_reducible refine' itemI ?ho ?hi ?h0 ?h1 ?hb ?_ ?hs ?ht); (case ho => walk_at "get"); (case hi => assumption); (case h0 => omega); (case h1 => omega); (case hb => first | assumption | omega); (case hs => with_unfolding_all rfl); (case ht => intro _; with_unfolding_all rfl); intro ti'))
local macro_rules | `(tactic| walk_at "itemV") => `(tactic| ((with_reducible refine' itemV ?ho ?h0 ?h1 ?hb ?_ ?hs ?ht); (case ho => walk_at "get"); (case h0 => omega); (case h1 => omega); (case hb => first | assumption | omega); (case hs => with_unfolding_all rfl); (case ht => intro _; with_unfolding_all rfl)))
local macro_rules | `(tactic| walk_at "last") => `(tactic| ((with_reducible refine' itemLast ?ho ?hi ?h1 ?hb ?_ ?hs ?ht); (case ho => walk_at "get"); (case hi => assumption); (case h1 => omega); (case hb => omega); (case hs => with_unfolding_all rfl); (case ht => intro _; with_unfolding_all rfl); intro ti'))
theorem law_spec {prog : Program} {w : World} {h : Heap} {l fa c : Addr} {vs : List Value} {ns : List Int} {n : Nat} {tD tK tD' tK' : Tok} {hsK hsK' : Int} {mg mb : Str → Option Value} (X : Glob1 h mg mb tD tK tD' tK' hsK hsK')
    (hl : h.get? l = some (listOf vs.toArray n)) (hi : IntsAre vs ns) (hsz : ns.length < 2 ^ 62)
    (A : Around) (s₀ : Shared) (t : Nat) (q : Str) (L : Addr) (h₁ : Heap) (hr : Room A 9) {m : Str → Option Value} {oC : Obj} (hoC : oC.data = .cell none) (F : Fn h L m [(L + 1, oC)] [] [] h₁) (hm : m "script" = some (.ref l)) :
    wpAny (model prog w) A (execs (FD pw1 10).2.1 (envX q (FD pw1 10).2.2 L fa (.ref c) [("least", L + 1)])) (Ret s₀ h fun v _ => v = .bool true) NoE (St s₀ h₁ t) := by
  have hh := hr.handled
  have X' := X
  obtain ⟨G, hlen, hlen', hrg, hrg', hmn, hmn', hmx, hmx', nsr, nbr, nbl, nru, nle, nwe, npr, dsr, csr, dbr, cbr, kbr, dbl, cbl, kbl, dru, cru, dle, cle, dwe, cwe, dpr, cpr⟩ := X
  have hlv : vs.length = ns.length := hi.length
  replace F := F.recall hl (NF.nt nofun)
  show wpAny _ _ (execs (_ :: _) _) _ _ _
  walk_at "go"
  walk_at "len"
  walk_at "go"
  obtain ⟨top, htop, htop1, htop2⟩ : ∃ top : Nat, (12 + min (vs.length : Int) 4) = top ∧ 12 ≤ top ∧ top ≤ 16 := ⟨12 + min vs.length 4, by omega, by omega, by omega⟩
  rename Fn _ _ _ _ _ _ _ => F₁
  rw [htop] at F₁
  refine callDef dru ?_
  walk_at "go"
  refine ⟨F₁.keep, ?_⟩
  refine callG (rule_spec (dru.kept F₁.keep) (cru.kept F₁.keep) (G.kept F₁.keep) hlen hlen' hrg hrg' hmx hmx' (F₁.get (.head _)) hi hsz (by omega)) (hr.less (by omega)) ?_
  rintro _ h₂ t₂ k₂ ⟨rl, rvs, rn, rfl, rN, rI⟩
  replace F₁ := F₁.learn k₂ rN
  clear F
  walk_at "go"
  rename Fn _ _ _ _ _ _ _ => F₂
  refine callDef dle ?_
  walk_at "go"
  refine ⟨F₂.keep, ?_⟩
  refine callG (least_spec (dle.kept F₂.keep) (cle.kept F₂.keep) (G.kept F₂.keep) hrg hrg' (F₂.get (.head _)) rI ruleL_len (by omega)) (hr.less (by omega)) ?_
  rintro _ h₃ t₃ k₃ ⟨ll, lvs, ln, ls, rfl, lN, lI, hL⟩
  replace F₂ := F₂.learn k₃ lN
  clear F₁
  walk_at "go"
  refine stC (c := L + 1) F₂ rfl hoC (fun h₄ oL hoL F₄ => ?_) rfl rfl
  have hL0 : h.get? (L + 1) = none := (F₄.own _ (.head _)).2.2.1
  replace F₄ := F₄.freeze
  clear F₂
  walk_at "go"
  refine callDef dwe ?_
  walk_at "go"
  refine ⟨F₄.keep, ?_⟩
  refine callG (weights_spec (dwe.kept F₄.keep) (F₄.keep.code _ cwe) (G.kept F₄.keep) (dbl.kept F₄.keep) (cbl.kept F₄.keep) (In.kept kbl F₄.keep KDl.nt) hlen hlen' nbl (F₄.get (a := rl) (o := listOf rvs.toArray rn) (by simp)) rI ruleL_len (by omega) ruleL_sorted) (hr.less (by omega)) ?_
  rintro _ h₅ t₅ k₅ ⟨wl, wvs, wn, ws, rfl, wN, wI, hW, hW1, hW2⟩
  have S : Sch (ruleL ns top) ws ls top := ⟨ruleL_len, ruleL_sorted, fun t ht => by rw [ruleL_at ht]; exact (fR_mono ns t).2, hW, hW1, hW2, hL⟩
  replace F₄ := F₄.learn k₅ wN
  walk_at "go"
  rename Fn _ _ _ _ _ _ _ => F₅
  refine wpAny_ListComp_free (cl := [("least", L + 1)]) (isInt? ls) (fun a b => b = a) rfl (by decide) rfl (by decide) rfl ?_
  walk_at "go"
  rename_i R' ta' tb' tc' h' t' hR F₆
  refine wpAny_pyIter_range hR (small_one (by omega) (by omega) (by omega) (by omega)) ?_
  have hsz' : Builtin.Range.rangeSize 1 ((top : Int) + 1) 1 = ((top : Nat) : Int) := by rw [rangeSize_one]; split <;> omega
  rw [hsz']
  clear F₄
  have F₇ := F₆.pushT { cls := .type "range_iterator", dict := none, data := .fields #[rawInt 1, rawInt (top : Int), rawInt 1], slots := #[] } rfl (fun ps e => by cases e)
  refine ⟨_, _, _, _, _, _, rfl, (Walks.range hh _ 1 1 top).bound, by show _ ≤ 16777216; omega, ?_, ?_, ⟨?_, ?_⟩, ?_⟩
  · show Heap.get? _ _ = some _
    rw [show (1 : Int) + ((0 : Nat) : Int) * 1 = 1 by omega, show (top : Int) - ((0 : Nat) : Int) = top by omega]
    exact Heap.get?_push_size _ rfl
  · intro b hb
    rw [List.mem_singleton.mp hb]
    show _ < (Heap.push _ _).objs.size
    rw [Heap.size_push]; exact Nat.lt_succ_self _
  · rintro C i v ⟨hp₃, g₃, d₃, t₃, o₃⟩ m₃ E' _ ⟨hit, t, rfl⟩ hns hv hext _
    have hne : ∀ b o, h'.get? b = some o → hp₃.get? b = some o := fun b o e => hext b o (fun hb => by rw [List.mem_singleton.mp hb] at e; have := get_size h'; simp [this] at e) (Heap.get?_push_of_some _ e)
    refine wpAny_tests_one ?_
    refine wpAny_isTrue_Compare1 ?_ (by with_unfolding_all rfl)
    refine Subscript_ ?_
    refine wpAny_Name (wpAny_loadName_cell (v := .ref ll) rfl rfl (c := L + 1) rfl ⟨oL, hne _ _ (F₆.get (by simp)), hoL⟩ ?_) rfl
    refine wpAny_Name (wpAny_loadName_local rfl rfl hns hv ?_) rfl
    have hll := hne _ _ (F₆.get (a := ll) (o := listOf lvs.toArray ln) (by simp))
    have hlb := hL.1
    refine' itemI (k := 1 + (i : Int) * 1) hll lI (by omega) (by omega) (by omega) (fun ti => ?_) (by with_unfolding_all rfl) (by intro _; with_unfolding_all rfl)
    refine wpAny_Name (wpAny_loadName_local rfl rfl hns hv ?_) rfl
    refine PyProof.Rows.eq_int ?_
    refine wpAny_truthy_bool ?_
    exact ⟨rfl, hp₃, t₃, rfl, fun _ _ e => e⟩
  · rintro C i v ⟨hp₃, g₃, d₃, t₃, o₃⟩ m₃ E' _ _ _ hns hv hext _
    refine wpAny_Name (wpAny_loadName_local rfl rfl hns hv ?_) rfl
    exact ⟨rfl, hp₃, t₃, rfl, fun _ _ e => e⟩
  · intro D h₈ t₈ ys us hD hlist hplain hul hus hpair hext
    have F₈ : Fn h L _ [] _ _ h₈ := F₇.other (F₆.keep.gone (get_size _)) (by simp) (fun b o hb e => hext b o (by simpa using hb) e) (fun p hp => ne_of_get (F₆.know p hp).1 (get_size _))
    obtain ⟨dn, hDl⟩ := hplain
    have eys : ys = (us.filter (isInt? ls)).toArray := by rw [← Paired.eq_list hpair]
    subst eys
    have hIu : IntsAre us ((List.range top).map fun j : Nat => (1 : Int) + j) := ints_of (by simpa using hul) fun j v hv => by
      obtain ⟨hj, t, rfl⟩ := hus j v hv
      refine ⟨t, ?_⟩
      simp [List.getD, hj]
    have hID := ints_filter (ls := ls) hIu
    rw [S.comp] at hID
    refine neLL (F₈.get (a := wl) (o := listOf wvs.toArray wn) (by simp)) hDl wI hID (by have := hr.units; omega) ?_
    clear F₅ F₆ F₇
    walk_at "go"
    have hWl : ws.length ≤ top + 2 := by
      have h1 := hW.1
      by_cases e : ws.length ≤ 1
      · omega
      · have a1 := hW.ge (ws.length - 2) (by omega)
        have a2 := hW2 (ws.length - 2) (by omega)
        omega
    refine callDef dpr ?_
    walk_at "go"
    refine ⟨F₈.keep, ?_⟩
    refine callG (prog_spec (cb := 29) (tD := tD) (tK := tK) (hsK := hsK) (dpr.kept F₈.keep) (F₈.keep.code _ cpr) hlen hlen' nbr wI (by rw [Wof.len]; omega) S.sorted (G.kept F₈.keep) (F₈.get (a := wl) (o := listOf wvs.toArray wn) (by simp))) (hr.less (by omega)) ?_
    rintro _ h₉ t₉ k₉ ⟨p, pN, pCs, rfl, hpN, hpC, hP⟩
    replace F₈ := (F₈.learn k₉ hpN).learnAllC hpC
    have hWn : ∀ i : Nat, i < (Wof ws).length → 0 ≤ (Wof ws).getD i 0 := fun i hi => by
      rw [Wof.len] at hi
      rw [Wof.at (by omega)]
      have := S.pos ⟨i, by omega, rfl⟩
      omega
    have hpT : ∀ q ∈ pN, NT q.2 := fun q hq => (hpN q hq).2.1
    walk_at "go"
    rename_i R' ta tb tc h₁₀ t₁₀ hR F₁₀
    clear F₈
    refine iter_range F₁₀ hh hR (by omega) (by omega) (by omega) (by omega) (fun i m U => U = [] ∧ m "first" = some (.ref p) ∧ (∃ tt, m "top" = some (.int top tt)) ∧ m "rule" = some (.ref rl) ∧ m "weights" = some (.ref wl))
      ⟨rfl, rfl, ⟨_, rfl⟩, rfl, rfl⟩ ?_ ?_ rfl rfl
    · rintro i ti m U h' I o tk hib ⟨rfl, mf, ⟨tt, mt⟩, mr, mw⟩ F
      dsimp only
      rw [Int.zero_add] at F
      walk_at "go"
      refine callDef dsr ?_
      walk_at "go"
      refine mulS (c := 111) (n := i) (by omega) fun tx ux => ?_
      walk_at "go"
      refine ⟨F.keep, ?_⟩
      have hxl : (⟨(List.replicate i 111).toArray⟩ : Str).length = i := by simp [Str.length]
      refine callG (sr_spec (GF := G1 mg mb 30 29 tD tK hsK) (d := 2) (S := Sof (Wof ws) i) (T := (wl, listOf wvs.toArray wn) :: pN) (C := pCs) (dsr.kept F.keep) (csr.kept F.keep) (G.kept F.keep).lim ⟨G.kept F.keep, dbr.kept F.keep, cbr.kept F.keep, In.kept kbr F.keep KDr.nt⟩ (fun _ _ k x => x.kept k)
        (hP _ _ _ (by rw [hxl]; omega) (by rw [hxl]; exact Sof.sw _ _)) ⟨fun q hq => F.get ?_, fun c hc => F.codes c ?_⟩ (fun q hq => ?_) (S.first i (by omega)) (fun _ _ _ hk h => Sof.nonneg hWn hk h)) (hr.less (by omega)) ?_
      · rcases List.mem_cons.mp hq with rfl | hq
        · simp
        · exact List.mem_cons_of_mem _ (List.mem_append.mpr (.inl hq))
      · exact List.mem_append.mpr (.inl hc)
      · rcases List.mem_cons.mp hq with rfl | hq
        · exact NF.nt nofun
        · exact hpT q hq
      · intro v h₁₁ t₁₁ k₁₁ hpost
        have hb0 : A.units < cLine := by have := hr.units; omega
        by_cases hi0 : i = 0
        · rw [if_pos hi0] at hpost
          cases (show v = .none from hpost)
          subst hi0
          replace F := F.kept k₁₁
          walk_at "go"
          rename Fn _ _ _ _ _ _ _ => Fz
          exact TurnPost.next (s := St s₀ h₁₀ t₁₀) Fz ⟨rfl, mf, ⟨_, mt⟩, mr, mw⟩
        · rw [if_neg hi0] at hpost
          obtain ⟨fh, hN, hCs, rfl, hnN, hnC, hH⟩ := hpost
          have hib' : ((i : Int) == 0) = false := by simpa using hi0
          replace F := (F.learn k₁₁ hnN).learnAllC hnC
          walk_at "go"
          rename Fn _ _ _ _ _ _ _ => Fy
          refine spanG Fy G.lim (hr.less (by omega)) (hH.mono (fun _ hq => List.mem_append.mpr (.inl hq)) fun _ hq => List.mem_append.mpr (.inl hq)) fun a ta tb h₁₂ t₁₂ _ F₁₂ => ?_
          clear Fy F
          walk_at "go"
          rename Fn _ _ _ _ _ _ _ => F₁₃
          refine ldC (c := L + 1) (o := oL) rfl (F₁₃.get (by simp)) hoL ?_ rfl rfl
          have hll := F₁₃.get (a := ll) (o := listOf lvs.toArray ln) (by simp)
          have hlb := hL.1
          walk_at "go"
          refine' itemI (k := (i : Int)) hll lI (by omega) (by omega) (by omega) (fun ti => ?_) (by with_unfolding_all rfl) (by intro _; with_unfolding_all rfl)
          walk_at "go"
          refine tupG F₁₃ fun b h₁₄ hb k₁₄ eb F₁₄ => ?_
          refine neTT (F₁₄.get (.tail _ (.head _))) eb hb0 ?_
          have e2 : (!((i : Int) - ls.getD i 0 == (i : Int) - ls.getD (i : Int).toNat 0 && (i : Int) == (i : Int))) = false := by simp
          rw [e2]
          walk_at "go"
          exact TurnPost.next (s := St s₀ h₁₀ t₁₀) (F₁₄.weak (fun p hp => .tail _ (.tail _ (List.mem_append.mpr (.inr hp)))) (fun c hc => List.mem_append.mpr (.inr hc))) ⟨rfl, mf, ⟨_, mt⟩, mr, mw⟩
    · intro m U h₁₅ t₁₅ ⟨hU, mf, ⟨tt, mt⟩, mr, mw⟩ F₁₅
      subst hU
      walk_at "gs"
      refine wpAny_execs_cons ?_
      walk_at "gs"
      refine callDef dpr ?_
      walk_at "gs"
      refine listG F₁₅ fun zl h₁₆ _ F₁₆ => ?_
      replace F₁₆ := F₁₆.freeze
      clear F₁₅
      walk_at "gs"
      refine addL F₁₆ (F₁₆.get (.head _)) (F₁₆.get (a := wl) (o := listOf wvs.toArray wn) (by simp)) (fun w2 h₁₇ _ F₁₇ => ?_) (by have := wI.length; simp at this; show _ ≤ 16777216; simp; omega)
      clear F₁₆
      walk_at "gs"
      refine ⟨F₁₇.keep, ?_⟩
      have w2I : ∀ tz : Tok, IntsAre ([.int 0 tz] ++ wvs) (0 :: Wof ws) := fun _ => .cons _ _ wI
      have hs2 : Sorted (0 :: Wof ws) := fun i j hij hj => by
        cases i with
        | zero =>
          cases j with
          | zero => exact Int.le_refl _
          | succ j => rw [List.getD_cons_succ]; exact hWn j (by simpa using hj)
        | succ i =>
          cases j with
          | zero => omega
          | succ j => rw [List.getD_cons_succ, List.getD_cons_succ]; exact S.sorted i j (by omega) (by simpa using hj)
      refine callG (prog_spec (cb := 29) (tD := tD) (tK := tK) (hsK := hsK) (dpr.kept F₁₇.keep) (F₁₇.keep.code _ cpr) hlen hlen' nbr (w2I _) (by simp only [List.length_cons, Wof.len]; omega) hs2 (G.kept F₁₇.keep) (F₁₇.get (.head _))) (hr.less (by omega)) ?_
      rintro _ h₁₈ t₁₈ k₁₈ ⟨p2, p2N, p2Cs, rfl, hp2N, hp2C, hP2⟩
      replace F₁₇ := (F₁₇.learn k₁₈ hp2N).learnAllC hp2C
      refine stL F₁₇ (fun h₁₉ t₁₉ F₁₉ => ?_) rfl rfl
      exact tail_spec (ln := ln) (rn := rn) (pN := p2N) (pCs := p2Cs) X' A s₀ t₁₉ q L h₁₉ hr F₁₉ hoL (by simp) (mll := by simp) lI (mrl := by simp) rI (List.mem_append.mpr (.inr (.head _))) htop1 htop2 S
        (fun q hq => ⟨List.mem_append.mpr (.inl hq), (hp2N q hq).2.1⟩) (fun c hc => List.mem_append.mpr (.inl hc)) hP2 rfl ⟨_, mt⟩ mr

end Mine

end

section
open PySem PySem.W PySem.Calls PyProof.Rows
open PySem PySem.W PyProof.Rows
namespace Mine
set_option maxRecDepth 100000 in
set_option maxHeartbeats 8000000 in
open_top hd for PySem.Challenge.rw_pg0091_01
end Mine

end

section
open PySem PySem.W PySem.Calls PyProof.Rows
open PySem PySem.W PySem.Calls PyProof.Rows
namespace Mine
set_option maxRecDepth 100000
set_option maxHeartbeats 8000000
theorem live_max {h : Heap} : ∀ n : Nat, (∃ b o, b < n ∧ h.get? b = some o) → ∃ b o, h.get? b = some o ∧ ∀ b' o', b' < n → h.get? b' = some o' → b' ≤ b
  | 0, ⟨_, _, hb, _⟩ => absurd hb (Nat.not_lt_zero _)
  | n + 1, ⟨b, o, hb, e⟩ => by
    cases q : h.get? n with
    | some on => exact ⟨n, on, q, fun b' o' hb' _ => Nat.le_of_lt_succ hb'⟩
    | none =>
      have ne : ∀ {b o}, h.get? b = some o → b ≠ n := fun e z => by rw [z, q] at e; cases e
      have hbn : b ≠ n := ne e
      obtain ⟨c, oc, ec, hc⟩ := live_max n ⟨b, o, Nat.lt_of_le_of_ne (Nat.le_of_lt_succ hb) hbn, e⟩
      exact ⟨c, oc, ec, fun b' o' hb' e' => hc b' o' (Nat.lt_of_le_of_ne (Nat.le_of_lt_succ hb') (ne e')) e'⟩
theorem in2 {a b : Addr} {o o' : Obj} {h : Heap} (e : h.get? a = some o) (e' : h.get? b = some o') : Frag.In [(a, o), (b, o')] h := fun x y q => by
  simp only [List.lookup] at q
  split at q
  · rename_i hx; cases q; rw [eq_of_beq hx]; exact e
  · split at q
    · rename_i hx; cases q; rw [eq_of_beq hx]; exact e'
    · cases q
theorem listWell {P : Params} {h : Heap} {a : Addr} {vs : List Value} {xs : List PyData} (x : Well P h (.ref a) (ofPy (PyData.list xs))) (hl : h.IsList a vs.toArray) : h.get? a = some (listOf vs.toArray 0) := by
  have e : ∃ ws, ofPy (PyData.list xs) = .list ws := ⟨_, rfl⟩
  obtain ⟨ws, e⟩ := e
  rw [e] at x
  cases x with
  | list ho _ =>
    obtain ⟨o, ho', hc, n, hd⟩ := hl
    rw [ho] at ho'
    cases ho'
    cases hd
    exact ho
/-- what the head of the law gives, in the words of this text -/
theorem join1 {w : World} {s₁ : Shared} {fa l : Addr} {vs : List Value} {ns : List Int} {mg mb m : Str → Option Value} {loose : List Str} {mean : ExcName → Option Value} {cd : Value} {h₁ : Heap} {tk₁ : Nat} {oC : Obj} {nm : Str} {A : Around}
    (hT : TabsAt [(66, 62), (59, 55)] s₁.heap) (X : (Mine.hd.heap_39 w.params).In (ghostOf s₁.heap [(66, 62), (59, 55)])) (T : Top topProg loose mean mg mb (ghostOf s₁.heap [(66, 62), (59, 55)]))
    (F : Fr (ghostOf s₁.heap [(66, 62), (59, 55)]) s₁.heap.objs.size h₁ m) (N : News (ghostOf s₁.heap [(66, 62), (59, 55)]) s₁.heap.objs.size h₁ [(s₁.heap.objs.size + 1, oC), (62, tabObj #[]), (55, tabObj #[])])
    (hoC : oC.data = .cell none) (hl : s₁.heap.IsList l vs.toArray) (hw : Well w.params s₁.heap (.ref l) (ofPy (PyData.list (ns.map PyData.int)))) (hI : IntsAre vs ns) (hlen : ¬ (63 : Int) < ns.length) (hm : m "script" = some (.ref l)) (hcd : s₁.heap.CodeRec cd nm) (hr : Room A 9)
    {Q : Flow → Shared → Prop} {E : Value → Shared → Prop} 
    (hQ : ∀ f h' t', (∀ b o, (ghostOf s₁.heap [(66, 62), (59, 55)]).get? b = some o → h'.get? b = some o) → GrownAll [(66, 62), (59, 55)] h' → (match f with | .ret v => v | _ => .none) = .bool true → Q f ⟨h', s₁.gens, s₁.drawn, t', s₁.os⟩) :
    wpAny (model Challenge.rw_pg0091_01.row.prog w) A (execs (FD pw1 10).2.1 (envX "law" (FD pw1 10).2.2 s₁.heap.objs.size fa cd [("least", s₁.heap.objs.size + 1)])) Q E ⟨h₁, s₁.gens, s₁.drawn, tk₁, s₁.os⟩ := by
  have up : ∀ b o, (ghostOf s₁.heap [(66, 62), (59, 55)]).get? b = some o → s₁.heap.get? b = some o := fun b o e => of_hideAll _ e
  have X' : (Mine.hd.heap_39 w.params).In s₁.heap := fun a o e => up _ _ (X a o e)
  obtain ⟨b₀, o₀, e₀, hmax⟩ := live_max (h := s₁.heap) s₁.heap.objs.size ⟨72, _, Heap.lt_size (X' 72 _ rfl), X' 72 _ rfl⟩
  letI : Base := ⟨[62, 55], b₀ + 1⟩
  have hs1 : ∀ b o, s₁.heap.get? b = some o → h₁.get? b = some o := fun b o e => by
    by_cases hb : b ∈ [62, 55]
    · rcases List.mem_cons.mp hb with rfl | hb
      · rw [(hT (66, 62) (by simp)).2] at e; cases e; exact (N (62, tabObj #[]) (by simp)).1
      · rw [List.mem_singleton.mp hb] at e ⊢
        rw [(hT (59, 55) (by simp)).2] at e; cases e; exact (N (55, tabObj #[]) (by simp)).1
    · exact F.keep b o (ghost_ne e hb)
  have lk : Keep (ghostOf s₁.heap [(66, 62), (59, 55)]) s₁.heap := .ext up
  have G : Gl mg mb s₁.heap := ⟨lk.ns T.g, lk.ns T.b, lk.lim T.nolimit, let ⟨bm, o, a, b, c, d, e, f⟩ := T.bmain; ⟨bm, o, a, b, up _ _ c, d, e, f⟩, ⟨b₀, o₀, e₀, Nat.le_refl _⟩⟩
  obtain ⟨og, es, ep, eg, dg, skg, fg⟩ := T.g
  have eg' := (X 3 _ rfl).symm.trans eg
  cases eg'
  cases dg
  have tb := T.builtins
  obtain ⟨c, oc', vs', tc', rfl, _⟩ := hcd
  have hcode : ∀ q ∈ [((66 : Addr), (62 : Addr)), (59, 55)], CodeG s₁.heap q.1 := fun q hq => by
    refine CodeG.new ?_ (hT q hq).1 (hT q hq).2 (.inl ?_)
    · rcases List.mem_cons.mp hq with rfl | hq
      · exact ⟨_, 66, _, _, _, rfl, X' 66 _ rfl, rfl, rfl⟩
      · rw [List.mem_singleton.mp hq]; exact ⟨_, 59, _, _, _, rfl, X' 59 _ rfl, rfl, rfl⟩
    · rcases List.mem_cons.mp hq with rfl | hq
      · exact .head _
      · rw [List.mem_singleton.mp hq]; exact .tail _ (.head _)
  have Y : Glob1 s₁.heap mg mb 204 205 218 219 (PyData.keyHash w.params "key") (PyData.keyHash w.params "key") := {
    gl := G
    len := (fg "len").symm.trans rfl
    len' := (tb "len" (by decide)).trans rfl
    rng := (fg "range").symm.trans rfl
    rng' := (tb "range" (by decide)).trans rfl
    mn := (fg "min").symm.trans rfl
    mn' := (tb "min" (by decide)).trans rfl
    mx := (fg "max").symm.trans rfl
    mx' := (tb "max" (by decide)).trans rfl
    nsr := (fg "search_reverse").symm.trans rfl
    nbr := (fg "bisect_right").symm.trans rfl
    nbl := (fg "bisect_left").symm.trans rfl
    nru := (fg "_law_rule").symm.trans rfl
    nle := (fg "_law_least").symm.trans rfl
    nwe := (fg "_law_weights").symm.trans rfl
    npr := (fg "_law_prog").symm.trans rfl
    dsr := ⟨_, _, _, _, _, _, _, _, _, X' 21 _ rfl⟩
    csr := ⟨_, _, _, _, X' 20 _ rfl, nofun, rfl, rfl⟩
    dbr := ⟨_, _, _, _, _, _, _, _, _, X' 30 _ rfl⟩
    cbr := ⟨_, _, _, _, X' 29 _ rfl, nofun, rfl, rfl⟩
    kbr := in2 (X' 22 _ rfl) (X' 23 _ rfl)
    dbl := ⟨_, _, _, _, _, _, _, _, _, X' 39 _ rfl⟩
    cbl := ⟨_, _, _, _, X' 38 _ rfl, nofun, rfl, rfl⟩
    kbl := in2 (X' 31 _ rfl) (X' 32 _ rfl)
    dru := ⟨_, _, _, _, _, _, _, _, _, X' 46 _ rfl⟩
    cru := ⟨_, _, _, _, X' 45 _ rfl, nofun, rfl, rfl⟩
    dle := ⟨_, _, _, _, _, _, _, _, _, X' 53 _ rfl⟩
    cle := ⟨_, _, _, _, X' 52 _ rfl, nofun, rfl, rfl⟩
    dwe := ⟨_, _, _, _, _, _, _, _, _, X' 60 _ rfl⟩
    cwe := hcode (59, 55) (by simp)
    dpr := ⟨_, _, _, _, _, _, _, _, _, X' 67 _ rfl⟩
    cpr := hcode (66, 62) (by simp) }
  have N0 := N _ (.head _)
  have Fq : Fn s₁.heap s₁.heap.objs.size m [(s₁.heap.objs.size + 1, oC)] [] [] h₁ := {
    keep := .ext hs1
    ns := F.ns
    above := get_size _
    own := fun p hp => by
      rw [List.mem_singleton.mp hp]
      have hNF : NF oC := fun vs e => by rw [hoC] at e; cases e
      refine ⟨N0.1, hNF, ?_, N0.2.1⟩
      have hz : s₁.heap.get? (s₁.heap.objs.size + 1) = none := by
        cases q : s₁.heap.get? (s₁.heap.objs.size + 1) with
        | none => rfl
        | some o => exact absurd (Nat.lt_of_succ_lt (Heap.lt_size q)) (Nat.lt_irrefl _)
      exact hz
    know := fun _ h => nomatch h
    sep := fun _ _ _ h => nomatch h
    nodup := by simp
    codes := fun _ h => nomatch h }
  refine wpAny_mono (law_spec (s₀ := s₁) Y (listWell hw hl) hI (by omega) A tk₁ "law" s₁.heap.objs.size h₁ hr hoC Fq hm) (fun f s' hf => ?_) (fun _ _ x => x.elim)
  obtain ⟨h', t', rfl, k, hv⟩ := hf
  refine hQ f h' t' (fun b o e => ?_) ⟨k.tab 62 _ (hT (66, 62) (by simp)).2, k.tab 55 _ (hT (59, 55) (by simp)).2, trivial⟩ hv
  by_cases hn : NT o
  · exact k.obj _ _ (up _ _ e) hn
  · obtain ⟨ps, ho⟩ := Classical.not_forall.mp hn
    have ho' : o = tabObj ps := Classical.not_not.mp ho
    subst ho'
    refine k.old _ _ (up _ _ e) fun hg => ?_
    rcases hg with hg | hg
    · have hb : b ∈ [62, 55] := hg
      rcases List.mem_cons.mp hb with rfl | hb
      · rw [(N (62, tabObj #[]) (by simp)).2.2] at e; cases e
      · rw [List.mem_singleton.mp hb, (N (55, tabObj #[]) (by simp)).2.2] at e; cases e
    · have := hmax b _ (Heap.lt_size (up _ _ e)) (up _ _ e)
      have hg' : b₀ + 1 ≤ b := hg
      exact absurd (Nat.lt_of_lt_of_le (Nat.lt_succ_of_le this) hg') (Nat.lt_irrefl _)
end Mine

end

section
open PySem PySem.W PySem.Calls PyProof.Rows
open PySem PySem.W PySem.Calls PyProof.Rows
namespace Mine
set_option maxRecDepth 100000
set_option maxHeartbeats 8000000
theorem fin1 : PySem.Challenge.rw_pg0091_01.Holds := Mine.hd (by
  k_go0
  rename (_ : Obj).data = Data.cell _ => hcX
  rename _ = (#[] : Array GenState) => hgX
  refine join1 hT9 (by assumption) (by assumption) (by assumption) (by assumption) ?hoC (by assumption) (by assumption) (by assumption) (by assumption) ?hm (by assumption) ?hr ?hQ
  case hoC => exact hcX
  case hm => rfl
  case hr => exact ⟨rfl, by simp only [depth_deeper, depth_caller]; decide, by simp only [units_deeper, units_caller]; decide⟩
  case hQ =>
    intro f h' t' hk hg hv
    refine ⟨⟨.inl ⟨.bool true, .bool true, [], congrArg (fun v => Except.ok (Flow.ret v)) hv, raisesW_false ?_, .bool _, ?_, fun _ => ⟨List.nodup_nil, fun _ h => nomatch h⟩⟩, hk, rfl, hgX⟩, hg⟩
    · wrow_none_raised
    · first | kc_post | wrow_post)
end Mine

end

theorem PySem.Challenge.cw_pg0091_01_holds : PySem.Challenge.rw_pg0091_01.Holds :=
  Mine.fin1
