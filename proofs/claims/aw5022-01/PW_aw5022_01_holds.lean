import PyProof.Rows.All
import Wide.All
import OpenK.AllK
import Wide.FinOn
import PyProof.GenQ
import PyProof.ListNew
import KE.KDictList
import KE.KSortTup
import KE.KCallOwn
import PyProof.IsiH_list
import Lean
import PySem.Challenge.RW_aw5022_01
open PySem PySem.Spec PySem.Calls PyProof.Rows PySem.W
set_option Elab.async false
set_option maxRecDepth 100000
namespace Mine
open PySem PySem.W PyProof.Rows
set_option maxHeartbeats 8000000
open_top hd for PySem.Challenge.rw_aw5022_01
end Mine
namespace Mine

abbrev Cell := Addr × (Obj → Prop)
structure Own (h₀ h : Heap) (L : List Cell) : Prop where
  keep : ∀ b o, h₀.get? b = some o → h.get? b = some o
  has : ∀ c ∈ L, ∃ o, h.get? c.1 = some o ∧ c.2 o
  new : ∀ c ∈ L, h₀.get? c.1 = none
  hi : ∀ c ∈ L, 2 < c.1
  nd : (L.map Prod.fst).Nodup
  lim : h₀.NoLimit

theorem Own.start {h : Heap} (l : h.NoLimit) : Own h h [] := ⟨fun _ _ e => e, fun _ hp => (nomatch hp), fun _ hp => (nomatch hp), fun _ hp => (nomatch hp), List.nodup_nil, l⟩
theorem Own.at {h₀ h : Heap} {L : List Cell} (H : Own h₀ h L) {a : Addr} {P : Obj → Prop} (m : (a, P) ∈ L) : ∃ o, h.get? a = some o ∧ P o := H.has _ m
theorem Own.noSys {h₀ h : Heap} {L : List Cell} (H : Own h₀ h L) {a : Addr} {P : Obj → Prop} (m : (a, P) ∈ L) : (a == sysModules) = false := by
  have q : 2 < a := H.hi _ m
  refine beq_eq_false_iff_ne.mpr fun e => ?_
  rw [e] at q
  exact absurd q (by decide)
theorem Own.sub {h₀ h : Heap} {L L' : List Cell} (H : Own h₀ h L) (s : List.Sublist L' L) : Own h₀ h L' :=
  ⟨H.keep, fun c m => H.has c (s.subset m), fun c m => H.new c (s.subset m), fun c m => H.hi c (s.subset m), H.nd.sublist (s.map _), H.lim⟩
theorem Own.perm {h₀ h : Heap} {L L' : List Cell} (H : Own h₀ h L) (s : List.Perm L L') : Own h₀ h L' :=
  ⟨H.keep, fun c m => H.has c (s.mem_iff.mpr m), fun c m => H.new c (s.mem_iff.mpr m), fun c m => H.hi c (s.mem_iff.mpr m), (s.map _).nodup_iff.mp H.nd, H.lim⟩
theorem Own.lt {h₀ h : Heap} {L : List Cell} (H : Own h₀ h L) {c : Cell} (m : c ∈ L) : c.1 < h.objs.size := by
  obtain ⟨o, e, _⟩ := H.has c m
  exact Heap.lt_size e
theorem Own.limit {h₀ h : Heap} {L : List Cell} (H : Own h₀ h L) : h.NoLimit := H.lim.keeps H.keep
theorem Own.two {h₀ h : Heap} {L : List Cell} (H : Own h₀ h L) : 2 < h.objs.size := by
  obtain ⟨mc, a, _⟩ := H.limit
  exact a.lt
theorem Own.none {h₀ h : Heap} {L : List Cell} (H : Own h₀ h L) : h₀.get? h.objs.size = .none := by
  cases q : h₀.get? h.objs.size with
  | none => rfl
  | some o => exact absurd (Heap.lt_size (H.keep _ _ q)) (Nat.lt_irrefl _)
theorem Own.push {h₀ h : Heap} {L : List Cell} (H : Own h₀ h L) {o : Obj} {P : Obj → Prop} (hp : P o) (hf : o.isFreed = false) : Own h₀ (h.push o) ((h.objs.size, P) :: L) := by
  refine ⟨fun b o' e => Heap.get?_push_of_some _ (H.keep b o' e), fun c m => ?_, fun c m => ?_, fun c m => ?_, ?_, H.lim⟩
  · rcases List.mem_cons.mp m with rfl | m
    · exact ⟨o, Heap.get?_push_size _ hf, hp⟩
    · obtain ⟨o', e, hp'⟩ := H.has c m
      exact ⟨o', Heap.get?_push_of_some _ e, hp'⟩
  · rcases List.mem_cons.mp m with rfl | m
    · exact H.none
    · exact H.new c m
  · rcases List.mem_cons.mp m with rfl | m
    · exact H.two
    · exact H.hi c m
  · rw [List.map_cons, List.nodup_cons]
    refine ⟨fun hm => ?_, H.nd⟩
    obtain ⟨c, hc, e⟩ := List.mem_map.mp hm
    exact absurd (H.lt hc) (by rw [e]; exact Nat.lt_irrefl _)
theorem Own.ext {h₀ h h' : Heap} {L : List Cell} (H : Own h₀ h L) (k : ∀ b o, h.get? b = some o → h'.get? b = some o) : Own h₀ h' L :=
  ⟨fun b o e => k b o (H.keep b o e), fun c m => let ⟨o, e, p⟩ := H.has c m; ⟨o, k _ _ e, p⟩, H.new, H.hi, H.nd, H.lim⟩
theorem Own.extBut {h₀ h h' : Heap} {L : List Cell} {a : Addr} {P : Obj → Prop} (H : Own h₀ h ((a, P) :: L)) (k : Heap.ExtBut a h h') : Own h₀ h' L := by
  have nd := H.nd
  rw [List.map_cons, List.nodup_cons] at nd
  refine ⟨fun b o e => k b o (fun q => ?_) (H.keep b o e), fun c m => ?_, fun c m => H.new c (.tail _ m), fun c m => H.hi c (.tail _ m), nd.2, H.lim⟩
  · have z : h₀.get? a = .none := H.new _ (.head _)
    rw [q, z] at e; cases e
  · obtain ⟨o, e, p⟩ := H.has c (.tail _ m)
    exact ⟨o, k _ _ (fun q => nd.1 (List.mem_map.mpr ⟨c, m, q⟩)) e, p⟩

inductive Upd1 (a : Addr) (P P' : Obj → Prop) : List Cell → List Cell → Prop
  | head {r} : Upd1 a P P' ((a, P) :: r) ((a, P') :: r)
  | tail {p r r'} : Upd1 a P P' r r' → Upd1 a P P' (p :: r) (p :: r')
  | skip {W r r'} : Upd1 a P P' r r' → Upd1 a P P' (W ++ r) (W ++ r')
theorem Upd1.mem {a : Addr} {P P' : Obj → Prop} : ∀ {L L' : List Cell}, Upd1 a P P' L L' → (a, P) ∈ L
  | _, _, .head => .head _
  | _, _, .tail r => .tail _ r.mem
  | _, _, .skip r => List.mem_append_right _ r.mem
theorem Upd1.keys {a : Addr} {P P' : Obj → Prop} : ∀ {L L' : List Cell}, Upd1 a P P' L L' → L'.map Prod.fst = L.map Prod.fst
  | _, _, .head => rfl
  | _, _, .tail r => by rw [List.map_cons, List.map_cons, r.keys]
  | _, _, .skip r => by rw [List.map_append, List.map_append, r.keys]
theorem Upd1.ne {a : Addr} {P P' : Obj → Prop} {c : Cell} : ∀ {L L' : List Cell}, Upd1 a P P' L L' → (L'.map Prod.fst).Nodup → c ∈ L' → c = (a, P') ∨ (c ∈ L ∧ c.1 ≠ a)
  | _, _, .head, nd, m => by
    rcases List.mem_cons.mp m with rfl | m
    · exact .inl rfl
    · refine .inr ⟨.tail _ m, fun e => ?_⟩
      rw [List.map_cons, List.nodup_cons] at nd
      exact nd.1 (List.mem_map.mpr ⟨c, m, e⟩)
  | _, _, .tail r, nd, m => by
    rw [List.map_cons, List.nodup_cons] at nd
    rcases List.mem_cons.mp m with rfl | m
    · refine .inr ⟨.head _, fun e => nd.1 ?_⟩
      rw [r.keys]
      exact List.mem_map.mpr ⟨_, r.mem, e.symm⟩
    · rcases r.ne nd.2 m with h | h
      · exact .inl h
      · exact .inr ⟨.tail _ h.1, h.2⟩
  | _, _, .skip (W := W) r, nd, m => by
    rw [List.map_append] at nd
    have nd' := List.nodup_append.mp nd
    rcases List.mem_append.mp m with m | m
    · refine .inr ⟨List.mem_append_left _ m, fun e => ?_⟩
      refine nd'.2.2 c.1 (List.mem_map.mpr ⟨c, m, rfl⟩) a ?_ e
      rw [r.keys]
      exact List.mem_map.mpr ⟨_, r.mem, rfl⟩
    · rcases r.ne nd'.2.1 m with h | h
      · exact .inl h
      · exact .inr ⟨List.mem_append_right _ h.1, h.2⟩
theorem Own.upd {h₀ h h' : Heap} {L L' : List Cell} (H : Own h₀ h L) {a : Addr} {P P' : Obj → Prop} (U : Upd1 a P P' L L') (hs : Heap.SameBut a h h') {o : Obj} (e : h'.get? a = some o) (hp : P' o) : Own h₀ h' L' := by
  have hn : h₀.get? a = .none := H.new _ U.mem
  have h2 : 2 < a := H.hi _ U.mem
  have nd : (L'.map Prod.fst).Nodup := by rw [U.keys]; exact H.nd
  refine ⟨fun b o' e' => ?_, fun c m => ?_, fun c m => ?_, fun c m => ?_, nd, H.lim⟩
  · exact (hs.2 b (fun q => by rw [q, hn] at e'; cases e')).trans (H.keep b o' e')
  · rcases U.ne nd m with rfl | ⟨m, ne⟩
    · exact ⟨o, e, hp⟩
    · obtain ⟨o', e', p'⟩ := H.has c m
      exact ⟨o', (hs.2 c.1 ne).trans e', p'⟩
  · rcases U.ne nd m with rfl | ⟨m, _⟩
    · exact hn
    · exact H.new c m
  · rcases U.ne nd m with rfl | ⟨m, _⟩
    · exact h2
    · exact H.hi c m

inductive Rem1 (a : Addr) (P : Obj → Prop) : List Cell → List Cell → Prop
  | head {r} : Rem1 a P ((a, P) :: r) r
  | tail {p r r'} : Rem1 a P r r' → Rem1 a P (p :: r) (p :: r')
  | skip {W r r'} : Rem1 a P r r' → Rem1 a P (W ++ r) (W ++ r')
theorem Rem1.perm {a : Addr} {P : Obj → Prop} : ∀ {L L' : List Cell}, Rem1 a P L L' → List.Perm L ((a, P) :: L')
  | _, _, .head => .refl _
  | _, _, .tail r => ((r.perm.cons _).trans (.swap _ _ _))
  | _, _, .skip r => (r.perm.append_left _).trans List.perm_middle
inductive RemB (Y : List Cell) : List Cell → List Cell → Prop
  | head {r} : RemB Y (Y ++ r) r
  | tail {p r r'} : RemB Y r r' → RemB Y (p :: r) (p :: r')
  | skip {W r r'} : RemB Y r r' → RemB Y (W ++ r) (W ++ r')
theorem RemB.perm {Y : List Cell} : ∀ {L L' : List Cell}, RemB Y L L' → List.Perm L (Y ++ L')
  | _, _, .head => .refl _
  | _, _, .tail r => (r.perm.cons _).trans List.perm_middle.symm
  | _, _, .skip (W := W) (r' := r') r => (r.perm.append_left _).trans (by
    rw [← List.append_assoc, ← List.append_assoc]
    exact List.Perm.append_right _ List.perm_append_comm)
theorem Rem1.mem {a : Addr} {P : Obj → Prop} {L L' : List Cell} (r : Rem1 a P L L') : (a, P) ∈ L := r.perm.mem_iff.mpr (.head _)
def Sel (L' L : List Cell) : Prop := ∃ Z, List.Perm L (L' ++ Z)
theorem Sel.refl {L : List Cell} : Sel L L := ⟨[], by rw [List.append_nil]⟩
theorem Sel.nil {L : List Cell} : Sel [] L := ⟨L, .refl _⟩
theorem Sel.cons {a : Addr} {P : Obj → Prop} {r L L1 : List Cell} (x : Rem1 a P L L1) (y : Sel r L1) : Sel ((a, P) :: r) L := by
  obtain ⟨Z, p⟩ := y
  exact ⟨Z, x.perm.trans (p.cons _)⟩
theorem Sel.drop {p : Cell} {r L : List Cell} (y : Sel r L) : Sel r (p :: L) := by
  obtain ⟨Z, q⟩ := y
  exact ⟨p :: Z, (q.cons _).trans List.perm_middle.symm⟩
theorem Sel.block {Y r L L1 : List Cell} (x : RemB Y L L1) (y : Sel r L1) : Sel (Y ++ r) L := by
  obtain ⟨Z, p⟩ := y
  exact ⟨Z, x.perm.trans (by rw [List.append_assoc]; exact p.append_left _)⟩
theorem Sel.dropB {W r L : List Cell} (y : Sel r L) : Sel r (W ++ L) := by
  obtain ⟨Z, q⟩ := y
  refine ⟨W ++ Z, (q.append_left W).trans ?_⟩
  rw [← List.append_assoc, ← List.append_assoc]
  exact List.Perm.append_right _ List.perm_append_comm
theorem Sel.perm {L' L : List Cell} (x : List.Perm L L') : Sel L' L := ⟨[], by rw [List.append_nil]; exact x⟩
theorem Sel.trans {L₁ L₂ L₃ : List Cell} (x : Sel L₁ L₂) (y : Sel L₂ L₃) : Sel L₁ L₃ := by
  obtain ⟨Z, p⟩ := x
  obtain ⟨Y, q⟩ := y
  exact ⟨Z ++ Y, q.trans ((p.append_right _).trans (by rw [List.append_assoc]))⟩
theorem Sel.left {L X : List Cell} : Sel L (L ++ X) := ⟨X, .refl _⟩
theorem Sel.right {L X : List Cell} : Sel X (L ++ X) := ⟨L, List.perm_append_comm⟩
theorem Sel.app {L₁ L₂ X Y : List Cell} (x : Sel L₁ L₂) (y : Sel X Y) : Sel (L₁ ++ X) (L₂ ++ Y) := by
  obtain ⟨Z, p⟩ := x
  obtain ⟨W, q⟩ := y
  refine ⟨Z ++ W, (p.append q).trans ?_⟩
  rw [List.append_assoc, List.append_assoc]
  refine List.Perm.append_left _ ?_
  rw [← List.append_assoc, ← List.append_assoc]
  exact List.Perm.append_right _ List.perm_append_comm
theorem Own.sel {h₀ h : Heap} {L' L : List Cell} (H : Own h₀ h L) (x : Sel L' L) : Own h₀ h L' := by
  obtain ⟨Z, p⟩ := x
  exact (H.perm p).sub (List.sublist_append_left _ _)
theorem Own.loosen {h₀ h : Heap} {L : List Cell} {a : Addr} {P P' : Obj → Prop} (H : Own h₀ h ((a, P) :: L)) (k : ∀ o, P o → P' o) : Own h₀ h ((a, P') :: L) := by
  refine ⟨H.keep, fun c m => ?_, fun c m => ?_, fun c m => ?_, H.nd, H.lim⟩
  · rcases List.mem_cons.mp m with rfl | m
    · obtain ⟨o, e, p⟩ := H.has _ (.head _); exact ⟨o, e, k o p⟩
    · exact H.has c (.tail _ m)
  · rcases List.mem_cons.mp m with rfl | m
    · exact (H.new _ (List.mem_cons_self) : _)
    · exact H.new c (.tail _ m)
  · rcases List.mem_cons.mp m with rfl | m
    · exact (H.hi _ (List.mem_cons_self) : _)
    · exact H.hi c (.tail _ m)

structure Cx where
  prog : Program
  w : World
  A : Around
  h₀ : Heap
  G : Array GenState → Prop
  O : OsState

def Tr (c : Cx) {α : Type} (t : Sem α) (L : List Cell) (Q : α → List Cell → Prop) : Prop :=
  ∀ s : Shared, Own c.h₀ s.heap L → c.G s.gens → s.os = c.O →
    wpAny (model c.prog c.w) c.A t (fun v s' => ∃ L', Own c.h₀ s'.heap L' ∧ c.G s'.gens ∧ s'.os = c.O ∧ Q v L') (fun _ _ => False) s

def Post (c : Cx) {α : Type} (Q : α → List Cell → Prop) (v : α) (s' : Shared) : Prop := ∃ L', Own c.h₀ s'.heap L' ∧ c.G s'.gens ∧ s'.os = c.O ∧ Q v L'
section
variable {c : Cx} {α β : Type} {L : List Cell}
theorem Tr.use {t : Sem α} {Q : α → List Cell → Prop} (h : Tr c t L Q) {s : Shared} (H : Own c.h₀ s.heap L) (hg : c.G s.gens) (ho : s.os = c.O) {R : α → Shared → Prop} {E : Value → Shared → Prop}
    (k : ∀ v s' L', Own c.h₀ s'.heap L' → c.G s'.gens → s'.os = c.O → Q v L' → R v s') : wpAny (model c.prog c.w) c.A t R E s :=
  wpAny_mono (h s H hg ho) (fun v s' ⟨L', H', g', o', q⟩ => k v s' L' H' g' o' q) (fun _ _ x => x.elim)
theorem Tr.mono {t : Sem α} {Q Q' : α → List Cell → Prop} (h : Tr c t L Q) (k : ∀ v L', Q v L' → Q' v L') : Tr c t L Q' :=
  fun _ H hg ho => h.use H hg ho fun v _ L' H' g' o' q => ⟨L', H', g', o', k v L' q⟩
theorem Tr.weaken {t : Sem α} {Q : α → List Cell → Prop} {L' : List Cell} (s : List.Sublist L' L) (h : Tr c t L' Q) : Tr c t L Q := fun _ H hg ho => h _ (H.sub s) hg ho
theorem Tr.sel {t : Sem α} {Q : α → List Cell → Prop} {L' : List Cell} (s : Sel L' L) (h : Tr c t L' Q) : Tr c t L Q := fun _ H hg ho => h _ (H.sel s) hg ho
theorem Tr.perm {t : Sem α} {Q : α → List Cell → Prop} {L' : List Cell} (s : List.Perm L L') (h : Tr c t L' Q) : Tr c t L Q := fun _ H hg ho => h _ (H.perm s) hg ho
theorem Tr.loosen {t : Sem α} {Q : α → List Cell → Prop} {a : Addr} {P P' : Obj → Prop} (k : ∀ o, P o → P' o) (h : Tr c t ((a, P') :: L) Q) : Tr c t ((a, P) :: L) Q := fun _ H hg ho => h _ (H.loosen k) hg ho
theorem Tr.ex {ι : Type} {t : Sem α} {Q : α → List Cell → Prop} {a : Addr} {P : ι → Obj → Prop} (h : ∀ i, Tr c t ((a, P i) :: L) Q) : Tr c t ((a, fun o => ∃ i, P i o) :: L) Q := fun _ H hg ho => by
  obtain ⟨o, e, i, p⟩ := H.has _ (.head _)
  refine h i _ ⟨H.keep, fun c m => ?_, fun c m => ?_, fun c m => ?_, H.nd, H.lim⟩ hg ho
  · rcases List.mem_cons.mp m with rfl | m
    · exact ⟨o, e, p⟩
    · exact H.has c (.tail _ m)
  · rcases List.mem_cons.mp m with rfl | m
    · exact (H.new _ (List.mem_cons_self) : _)
    · exact H.new c (.tail _ m)
  · rcases List.mem_cons.mp m with rfl | m
    · exact (H.hi _ (List.mem_cons_self) : _)
    · exact H.hi c (.tail _ m)
theorem Tr.pure' {a : α} {Q : α → List Cell → Prop} (h : Q a L) : Tr c (pure a) L Q := fun _ H hg ho => wpAny_pure ⟨L, H, hg, ho, h⟩
theorem Tr.bind' {m : Sem α} {f : α → Sem β} {Q : β → List Cell → Prop} (h : Tr c m L fun a L' => Tr c (f a) L' Q) : Tr c (m >>= f) L Q :=
  fun _ H hg ho => wpAny_bind (h.use H hg ho fun _ _ _ H' g' o' q => q _ H' g' o')
theorem Tr.holding {vs : List Value} {m : Sem α} {Q : α → List Cell → Prop} (h : Tr c m L Q) : Tr c (holding vs m) L Q := fun _ H hg ho => wpAny_holding (h _ H hg ho)
theorem Tr.standAt {pos : Pos} {Q : Unit → List Cell → Prop} (h : Q () L) : Tr c (standAt pos) L Q := fun _ H hg ho => wpAny_standAt ⟨L, H, hg, ho, h⟩
theorem Tr.ofEq {t t' : Sem α} {Q : α → List Cell → Prop} (e : t = t') (h : Tr c t' L Q) : Tr c t L Q := e ▸ h
end

def Nx (Qn : List Cell → Prop) (Q : Flow → List Cell → Prop) : Flow → List Cell → Prop
  | .next, L => Qn L
  | f, L => Q f L
theorem Nx.next {Qn : List Cell → Prop} {Q : Flow → List Cell → Prop} {L : List Cell} (h : Qn L) : Nx Qn Q .next L := h
theorem Nx.ret {Qn : List Cell → Prop} {Q : Flow → List Cell → Prop} {L : List Cell} {v : Value} (h : Q (.ret v) L) : Nx Qn Q (.ret v) L := h
theorem Nx.brk {Qn : List Cell → Prop} {Q : Flow → List Cell → Prop} {L : List Cell} (h : Q .brk L) : Nx Qn Q .brk L := h
theorem Nx.cont {Qn : List Cell → Prop} {Q : Flow → List Cell → Prop} {L : List Cell} (h : Q .cont L) : Nx Qn Q .cont L := h

section
variable {c : Cx} {L : List Cell} {env : Env}
theorem tr_execs_nil {Q : Flow → List Cell → Prop} (h : Q .next L) : Tr c (execs [] env) L Q := fun _ H hg ho => wpAny_execs_nil ⟨L, H, hg, ho, h⟩
theorem tr_execs_cons {st : Stmt} {rest : List Stmt} {Q : Flow → List Cell → Prop} (h : Tr c (exec st env) L (Nx (fun L' => Tr c (execs rest env) L' Q) Q)) : Tr c (execs (st :: rest) env) L Q :=
  fun _ H hg ho => wpAny_execs_cons (h.use H hg ho fun f s' L' H' g' o' q => by
    cases f with
    | next => exact q _ H' g' o'
    | brk => exact ⟨L', H', g', o', q⟩
    | cont => exact ⟨L', H', g', o', q⟩
    | ret v => exact ⟨L', H', g', o', q⟩)
theorem tr_If {test : Expr} {body orelse : List Stmt} {pos : Pos} {Q : Flow → List Cell → Prop}
    (h : Tr c (isTrue test env (eval test env)) L fun b L' => (b = true → Tr c (execs body env) L' Q) ∧ (b = false → Tr c (execs orelse env) L' Q)) : Tr c (exec (.If test body orelse pos) env) L Q :=
  fun _ H hg ho => wpAny_If (h.use H hg ho fun b s' L' H' g' o' q => by
    cases b with
    | true => exact q.1 rfl _ H' g' o'
    | false => exact q.2 rfl _ H' g' o')
theorem tr_IfExp {test body orelse : Expr} {pos : Pos} {Q : Value → List Cell → Prop}
    (h : Tr c (isTrue test env (eval test env)) L fun b L' => (b = true → Tr c (eval body env) L' Q) ∧ (b = false → Tr c (eval orelse env) L' Q)) : Tr c (eval (.IfExp test body orelse pos) env) L Q :=
  Tr.ofEq (t' := (isTrue test env (eval test env) >>= fun b => if b = true then eval body env else eval orelse env)) rfl (Tr.bind' (h.mono fun b L' q => by
    cases b with
    | true => exact q.1 rfl
    | false => exact q.2 rfl))
theorem tr_Expr {e : Expr} {pos : Pos} {Q : Flow → List Cell → Prop} (h : Tr c (eval e env) L fun v L' => Q .next L')
    (hi : interactive env = false := by rfl) (hs : swapsWith e none pos.line env = pure false := by rfl) : Tr c (exec (.Expr e pos) env) L Q :=
  fun _ H hg ho => wpAny_Expr_any (h.use H hg ho fun v s' L' H' g' o' q => ⟨L', H', g', o', q⟩) hi hs
theorem tr_Return {e : Expr} {pos : Pos} {Q : Flow → List Cell → Prop} (h : Tr c (eval e env) L fun v L' => Q (.ret v) L') : Tr c (exec (.Return (some e) pos) env) L Q :=
  fun _ H hg ho => wpAny_Return_some (h _ H hg ho)
theorem tr_Return_none {pos : Pos} {Q : Flow → List Cell → Prop} (h : Q (.ret .none) L) : Tr c (exec (.Return none pos) env) L Q :=
  fun _ H hg ho => wpAny_Return_none ⟨L, H, hg, ho, h⟩
theorem tr_Pass {pos : Pos} {Q : Flow → List Cell → Prop} (h : Q .next L) : Tr c (exec (.Pass pos) env) L Q := fun _ H hg ho => wpAny_Pass ⟨L, H, hg, ho, h⟩
theorem tr_Break {pos : Pos} {Q : Flow → List Cell → Prop} (h : Q .brk L) : Tr c (exec (.Break pos) env) L Q := fun _ H hg ho => wpAny_Break ⟨L, H, hg, ho, h⟩
theorem tr_AssignName {x : Str} {p1 pos : Pos} {value : Expr} {Q : Flow → List Cell → Prop} (h : Tr c (eval value env) L fun v L' => Tr c (storeName env x v) L' fun _ L'' => Q .next L'')
    (hs : swapsWith value (some (.Name x p1)) pos.line env = pure false := by rfl) : Tr c (exec (.Assign [.Name x p1] value pos) env) L Q :=
  fun _ H hg ho => wpAny_Assign_Name (h.use H hg ho fun _ _ _ H' g' o' q => q _ H' g' o') hs
theorem tr_AugAssign {x : Str} {p1 pos : Pos} {op : Operator} {value : Expr} {Q : Flow → List Cell → Prop}
    (h : Tr c (loadName env x) L fun old L1 => Tr c (eval value env) L1 fun v L2 => Tr c (inplaceOp op old v) L2 fun r L3 => Tr c (storeName env x r) L3 fun _ L' => Q .next L') :
    Tr c (exec (.AugAssign (.Name x p1) op value pos) env) L Q :=
  fun _ H hg ho => wpAny_AugAssign_Name (h.use H hg ho fun _ _ _ H1 g1 o1 q1 => q1.use H1 g1 o1 fun _ _ _ H2 g2 o2 q2 => q2.use H2 g2 o2 fun _ _ _ H3 g3 o3 q3 => q3 _ H3 g3 o3)
theorem tr_isTrue_Compare {l r : Expr} {op : CmpOp} {pos : Pos} {whole : Sem Value} {Q : Bool → List Cell → Prop}
    (h : Tr c (eval l env) L fun a L1 => Tr c (eval r env) L1 fun b L2 => Tr c (compareOp op a b) L2 fun v L3 => Tr c (truthy v) L3 Q)
    (hm : behindInMarks op r = false := by with_unfolding_all rfl) : Tr c (isTrue (.Compare l [op] [r] pos) env whole) L Q :=
  fun _ H hg ho => wpAny_isTrue_Compare1 (h.use H hg ho fun _ _ _ H1 g1 o1 q1 => q1.use H1 g1 o1 fun _ _ _ H2 g2 o2 q2 => q2.use H2 g2 o2 fun _ _ _ H3 g3 o3 q3 => q3 _ H3 g3 o3) hm
theorem tr_Compare {l r : Expr} {op : CmpOp} {pos : Pos} {Q : Value → List Cell → Prop}
    (h : Tr c (eval l env) L fun a L1 => Tr c (eval r env) L1 fun b L2 => Tr c (compareOp op a b) L2 Q)
    (hm : behindInMarks op r = false := by with_unfolding_all rfl) : Tr c (eval (.Compare l [op] [r] pos) env) L Q :=
  fun _ H hg ho => wpAny_Compare1 (h.use H hg ho fun _ _ _ H1 g1 o1 q1 => q1.use H1 g1 o1 fun _ _ _ H2 g2 o2 q2 => q2 _ H2 g2 o2) hm
theorem tr_BinOp {l r : Expr} {op : Operator} {pos : Pos} {Q : Value → List Cell → Prop}
    (h : Tr c (eval l env) L fun a L1 => Tr c (eval r env) L1 fun b L2 => Tr c (binaryOp op a b) L2 Q) : Tr c (eval (.BinOp l op r pos) env) L Q :=
  fun _ H hg ho => wpAny_BinOp (h.use H hg ho fun _ _ _ H1 g1 o1 q1 => q1.use H1 g1 o1 fun _ _ _ H2 g2 o2 q2 => q2 _ H2 g2 o2)
end
end Mine
namespace Mine

def pNs (m : Str → Option Value) (o : Obj) : Prop := ∃ es ep, o.data = .dict es ep ∧ StrKeys es ∧ ∀ name, nsFind es name = m name
def pList (vs : List Value) (o : Obj) : Prop := ∃ n, o = { cls := .type "list", dict := none, data := .seq vs.toArray n, slots := #[] }
def pTup (vs : List Value) (o : Obj) : Prop := ∃ n, o = { cls := .type "tuple", dict := none, data := .seq vs.toArray n, slots := #[] }
def pCel (v : Option Value) (o : Obj) : Prop := o.data = .cell v
def pInst (C d : Addr) (o : Obj) : Prop := o = { cls := .ref C, dict := some d, data := .plain, slots := #[] }
def pAttr (k : Nat) (m : Str → Option Value) (o : Obj) : Prop := ∃ es ep, o.data = .dict es ep ∧ StrKeys es ∧ (∀ name, nsFind es name = m name) ∧ es.size ≤ k
def pLIter (l : Addr) (i : Nat) (o : Obj) : Prop := o = { cls := .type "list_iterator", dict := none, data := .fields #[.ref l, .int i 0], slots := #[] }

structure Bs (K : Frag) (c : Cx) (mg mb : Str → Option Value) : Prop where
  X : K.In c.h₀
  g : c.h₀.Ns mainGlobals mg
  b : c.h₀.Ns builtinsNs mb
  bi : ∀ x : Str, x ≠ "__name__" → mb x = bootBuiltins x
structure Rm (n : Nat) (A : Around) : Prop where
  hd : A.handled = none
  dp : A.depth + n ≤ 600
  un : A.units + 8 * n ≤ 8000

theorem ns_of {h : Heap} {a : Addr} {m : Str → Option Value} {o : Obj} (e : h.get? a = some o) (p : pNs m o) : h.Ns a m := by
  obtain ⟨es, ep, hd, hs, hf⟩ := p
  exact ⟨o, es, ep, e, hd, hs, hf⟩
theorem Own.ns {h₀ h : Heap} {L : List Cell} (H : Own h₀ h L) {a : Addr} {m : Str → Option Value} (hm : (a, pNs m) ∈ L) : h.Ns a m := by
  obtain ⟨o, e, p⟩ := H.at hm
  exact ns_of e p
theorem of_ns {h : Heap} {a : Addr} {m : Str → Option Value} (hn : h.Ns a m) : ∃ o, h.get? a = some o ∧ pNs m o := by
  obtain ⟨o, es, ep, e, hd, hs, hf⟩ := hn
  exact ⟨o, e, es, ep, hd, hs, hf⟩
theorem Own.list {h₀ h : Heap} {L : List Cell} (H : Own h₀ h L) {a : Addr} {vs : List Value} (hm : (a, pList vs) ∈ L) : h.IsList a vs.toArray := by
  obtain ⟨o, e, n, rfl⟩ := H.at hm
  exact ⟨_, e, rfl, n, rfl⟩

section
variable {K : Frag} {mg mb : Str → Option Value} {c : Cx} {L : List Cell} {env : Env} {x : Str} {pos : Pos}

theorem tr_local {m : Str → Option Value} {v : Value} {Q : Value → List Cell → Prop} (hm : (env.locals, pNs m) ∈ L) (hv : m x = some v) (h : Q v L)
    (hk : env.scope.kind = .function := by rfl) (hl : env.kindOf x = some .local := by rfl) (hd : (x == ("__debug__" : Str)) = false := by decide) : Tr c (eval (.Name x pos) env) L Q :=
  fun _ H hg ho => wpAny_Name (wpAny_loadName_local hk hl (H.ns hm) hv ⟨L, H, hg, ho, h⟩) hd
theorem tr_ldlocal {m : Str → Option Value} {v : Value} {Q : Value → List Cell → Prop} (hm : (env.locals, pNs m) ∈ L) (hv : m x = some v) (h : Q v L)
    (hk : env.scope.kind = .function := by rfl) (hl : env.kindOf x = some .local := by rfl) : Tr c (loadName env x) L Q :=
  fun _ H hg ho => wpAny_loadName_local hk hl (H.ns hm) hv ⟨L, H, hg, ho, h⟩
theorem tr_cell {a : Addr} {v : Value} {Q : Value → List Cell → Prop} (hc : env.cells.lookup x = some a) (hm : (a, pCel (some v)) ∈ L) (h : Q v L)
    (hk : env.scope.kind = .function := by rfl) (hl : env.kindOf x = some .cell := by rfl) (hd : (x == ("__debug__" : Str)) = false := by decide) : Tr c (eval (.Name x pos) env) L Q :=
  fun _ H hg ho => wpAny_Name (wpAny_loadName_cell hk hl hc (let ⟨o, e, p⟩ := H.at hm; ⟨o, e, p⟩) ⟨L, H, hg, ho, h⟩) hd
theorem tr_free {a : Addr} {v : Value} {Q : Value → List Cell → Prop} (hc : env.cells.lookup x = some a) (hm : (a, pCel (some v)) ∈ L) (h : Q v L)
    (hk : env.scope.kind = .function := by rfl) (hl : env.kindOf x = some .free := by rfl) (hd : (x == ("__debug__" : Str)) = false := by decide) (hn : (x == ("__classdict__" : Str)) = false := by decide) : Tr c (eval (.Name x pos) env) L Q :=
  fun _ H hg ho => wpAny_Name (wpAny_loadName_free hk hl hc (let ⟨o, e, p⟩ := H.at hm; ⟨o, e, p⟩) ⟨L, H, hg, ho, h⟩ hn) hd
theorem tr_global {v : Value} {Q : Value → List Cell → Prop} (B : Bs K c mg mb) (e : nsIn K mainGlobals x = some (some v)) (h : Q v L) (hge : env.globals = mainGlobals := by rfl)
    (hk : env.scope.kind = .function := by rfl) (hl : env.kindOf x = some .globalImplicit := by rfl) (hd : (x == ("__debug__" : Str)) = false := by decide) : Tr c (eval (.Name x pos) env) L Q :=
  fun _ H hg ho => Name_function_global hk hl (loadGlobal_global (by rw [hge]; exact B.g.keeps H.keep) (mg_of B.X B.g e) ⟨L, H, hg, ho, h⟩) hd
theorem tr_builtin {v : Value} {Q : Value → List Cell → Prop} (B : Bs K c mg mb) (e : nsIn K mainGlobals x = some none) (hv : bootBuiltins x = some v) (h : Q v L) (hn : x ≠ "__name__" := by decide) (hge : env.globals = mainGlobals := by rfl) (hbe : env.builtins = builtinsNs := by rfl)
    (hk : env.scope.kind = .function := by rfl) (hl : env.kindOf x = some .globalImplicit := by rfl) (hd : (x == ("__debug__" : Str)) = false := by decide) : Tr c (eval (.Name x pos) env) L Q :=
  fun _ H hg ho => Name_function_global hk hl (loadGlobal_builtin (by rw [hge]; exact B.g.keeps H.keep) (mg_none_of B.X B.g e) (by rw [hbe]; exact B.b.keeps H.keep) ((B.bi x hn).trans hv) ⟨L, H, hg, ho, h⟩) hd
theorem tr_store {m : Str → Option Value} {v : Value} {L' : List Cell} {Q : Unit → List Cell → Prop} (U : Upd1 env.locals (pNs m) (pNs fun y => if y = x then some v else m y) L L') (h : Q () L')
    (hk : env.scope.kind = .function := by rfl) (hl : env.kindOf x = some .local := by rfl) : Tr c (storeName env x v) L Q :=
  fun _ H hg ho => wpAny_storeName_local hl (H.ns U.mem) (fun h' hn hs => by
    obtain ⟨o, e, p⟩ := of_ns hn
    exact ⟨L', H.upd U hs e p, hg, ho, h⟩) (by rw [hk]; rfl)
theorem tr_storeCell {a : Addr} {v : Value} {v₀ : Option Value} {L' : List Cell} {Q : Unit → List Cell → Prop} (hc : env.cells.lookup x = some a) (U : Upd1 a (pCel v₀) (pCel (some v)) L L') (h : Q () L')
    (hk : env.scope.kind = .function := by rfl) (hl : env.kindOf x = some .cell := by rfl) : Tr c (storeName env x v) L Q :=
  fun _ H hg ho => wpAny_storeName_cell hk hl hc (let ⟨o, e, p⟩ := H.at U.mem; ⟨o, e, p⟩) fun h' ⟨o, e, p⟩ hs => ⟨L', H.upd U hs e p, hg, ho, h⟩

theorem tr_int {i : Int} {k : Nat} {Q : Value → List Cell → Prop} (h : ∀ t, Q (.int i t) L) : Tr c (eval (.Constant (.int i) k pos) env) L Q := fun _ H hg ho => wpAny_Constant_int ⟨L, H, hg, ho, h _⟩
theorem tr_bool {b : Bool} {k : Nat} {Q : Value → List Cell → Prop} (h : Q (.bool b) L) : Tr c (eval (.Constant (.bool b) k pos) env) L Q := fun _ H hg ho => wpAny_Constant_bool ⟨L, H, hg, ho, h⟩
theorem tr_none {k : Nat} {Q : Value → List Cell → Prop} (h : Q .none L) : Tr c (eval (.Constant .none k pos) env) L Q := fun _ H hg ho => wpAny_Constant_none ⟨L, H, hg, ho, h⟩
theorem tr_str {y : Str} {k : Nat} {Q : Value → List Cell → Prop} (h : ∀ t, Q (.str y t) L) : Tr c (eval (.Constant (.str y) k pos) env) L Q := fun _ H hg ho => Constant_str ⟨L, H, hg, ho, h _⟩

theorem tr_Call {func : Expr} {args : List Expr} {Q : Value → List Cell → Prop} (h : Tr c (eval func env) L fun f L1 => Tr c (callWith pos f [] (backTo pos (starEach args env)) []) L1 Q)
    (he : eval (.Call func args [] pos) env = (do callWith pos (← eval func env) [] (backTo pos (starEach args env)) (backToKw pos (keywordEach [] env))) := by rfl) : Tr c (eval (.Call func args [] pos) env) L Q :=
  fun _ H hg ho => Call_ (h.use H hg ho fun _ _ _ H1 g1 o1 q => q _ H1 g1 o1) he
theorem tr_MethodCall {o : Expr} {name : Str} {apos : Pos} {args : List Expr} {pl : Sem Bool} {Q : Value → List Cell → Prop}
    (h : Tr c (eval o env) L fun ov L1 => Tr c (getMethod ov name pl) L1 fun fx L2 => Tr c (callWith pos fx.1 fx.2 (backTo pos (starEach args env)) []) L2 Q)
    (he : eval (.Call (.Attribute o name apos) args [] pos) env = (do
      let ov ← eval o env
      standAt apos.atName
      let (f, first) ← holding [ov] (getMethod ov name pl)
      callWith pos f first (backTo pos (starEach args env)) []) := by rfl) : Tr c (eval (.Call (.Attribute o name apos) args [] pos) env) L Q :=
  fun _ H hg ho => MethodCall_ (h.use H hg ho fun _ _ _ H1 g1 o1 q => q.use H1 g1 o1 fun _ _ _ H2 g2 o2 q2 => q2 _ H2 g2 o2) he
theorem tr_args_nil {Q : List Value → List Cell → Prop} (h : Q [] L) : Tr c (spliced (backTo pos (starEach [] env))) L Q := fun _ H hg ho => args_nil ⟨L, H, hg, ho, h⟩
theorem tr_args_cons {e : Expr} {rest : List Expr} {Q : List Value → List Cell → Prop} (h : Tr c (eval e env) L fun v L1 => Tr c (spliced (backTo pos (starEach rest env))) L1 fun vs L2 => Q (v :: vs) L2)
    (he : starEach (e :: rest) env = (false, eval e env) :: starEach rest env := by rfl) : Tr c (spliced (backTo pos (starEach (e :: rest) env))) L Q :=
  fun _ H hg ho => args_cons (h.use H hg ho fun _ _ _ H1 g1 o1 q => q.use H1 g1 o1 fun _ _ L2 H2 g2 o2 q2 => ⟨L2, H2, g2, o2, q2⟩) he
theorem tr_evalArgs {f : Value} {args : List Expr} {Q : Args → List Cell → Prop} (h : Tr c (spliced (backTo pos (starEach args env))) L fun vs L1 => Q ⟨vs, []⟩ L1)
    (hp : (backTo pos (starEach args env)).any (·.1) = false := by rfl) : Tr c (evalArgs f true (backTo pos (starEach args env)) []) L Q := fun s H hg ho => by
  revert hp
  have hz := h s H hg ho
  revert hz
  generalize backTo pos (starEach args env) = l
  intro hz hp
  match l, hp, hz with
  | [], _, hz =>
    unfold evalArgs
    show wpAny (model c.prog c.w) c.A (spliced [] >>= _) _ _ s
    refine wpAny_bind (wpAny_mono hz (fun vs s' h' => ?_) fun _ _ x => x)
    refine wpAny_holding ?_
    exact wpAny_bind (wpAny_pure (wpAny_bind (wpAny_pure (wpAny_pure h'))))
  | (false, x) :: r, _, hz => exact evalArgs_plain hz
theorem tr_callBuiltin {id : String} {first : List Value} {args : List Expr} {Q : Value → List Cell → Prop} (h : Tr c (spliced (backTo pos (starEach args env))) L fun vs L1 => Tr c (call (.builtin id) (first ++ vs) []) L1 Q)
    (hp : (backTo pos (starEach args env)).any (·.1) = false := by rfl) : Tr c (callWith pos (.builtin id) first (backTo pos (starEach args env)) []) L Q :=
  fun _ H hg ho => callWith_builtin hp ((tr_evalArgs (Q := fun a L1 => a.kw = [] ∧ Tr c (call (.builtin id) (first ++ a.pos) []) L1 Q) (h.mono fun _ _ q => ⟨rfl, q⟩) hp).use H hg ho fun _ _ _ H1 g1 o1 q => by rw [q.1]; exact q.2 _ H1 g1 o1)
theorem tr_callFn {f : Addr} {first : List Value} {args : List Expr} {oc : Value} {od : Option Addr} {fd : FuncData} {osl : Array (Option Value)} {Q : Value → List Cell → Prop} (B : Bs K c mg mb) (hf : K.lookup f = some ⟨oc, od, .func fd, osl⟩)
    (h : Tr c (spliced (backTo pos (starEach args env))) L fun vs L1 => Tr c (call (.ref f) (first ++ vs) []) L1 Q)
    (hp : (backTo pos (starEach args env)).any (·.1) = false := by rfl) : Tr c (callWith pos (.ref f) first (backTo pos (starEach args env)) []) L Q :=
  fun _ H hg ho => callWith_function ((tr_evalArgs (Q := fun a L1 => a.kw = [] ∧ Tr c (call (.ref f) (first ++ a.pos) []) L1 Q) (h.mono fun _ _ q => ⟨rfl, q⟩) hp).use H hg ho fun a _ _ H1 g1 o1 q =>
    ⟨⟨H1.keep _ _ (B.X _ _ hf), rfl⟩, by rw [q.1]; exact q.2 _ H1 g1 o1⟩)
theorem tr_callBuiltin0 {id : String} {args : List Expr} {Q : Value → List Cell → Prop} (h : Tr c (spliced (backTo pos (starEach args env))) L fun vs L1 => Tr c (call (.builtin id) vs []) L1 Q)
    (hp : (backTo pos (starEach args env)).any (·.1) = false := by rfl) : Tr c (callWith pos (.builtin id) [] (backTo pos (starEach args env)) []) L Q := tr_callBuiltin h hp
theorem tr_callBuiltin1 {id : String} {x : Value} {args : List Expr} {Q : Value → List Cell → Prop} (h : Tr c (spliced (backTo pos (starEach args env))) L fun vs L1 => Tr c (call (.builtin id) (x :: vs) []) L1 Q)
    (hp : (backTo pos (starEach args env)).any (·.1) = false := by rfl) : Tr c (callWith pos (.builtin id) [x] (backTo pos (starEach args env)) []) L Q := tr_callBuiltin h hp
theorem tr_callFn0 {f : Addr} {args : List Expr} {oc : Value} {od : Option Addr} {fd : FuncData} {osl : Array (Option Value)} {Q : Value → List Cell → Prop} (B : Bs K c mg mb) (hf : K.lookup f = some ⟨oc, od, .func fd, osl⟩)
    (h : Tr c (spliced (backTo pos (starEach args env))) L fun vs L1 => Tr c (call (.ref f) vs []) L1 Q)
    (hp : (backTo pos (starEach args env)).any (·.1) = false := by rfl) : Tr c (callWith pos (.ref f) [] (backTo pos (starEach args env)) []) L Q := tr_callFn B hf h hp
theorem tr_callFn1 {f : Addr} {x : Value} {args : List Expr} {oc : Value} {od : Option Addr} {fd : FuncData} {osl : Array (Option Value)} {Q : Value → List Cell → Prop} (B : Bs K c mg mb) (hf : K.lookup f = some ⟨oc, od, .func fd, osl⟩)
    (h : Tr c (spliced (backTo pos (starEach args env))) L fun vs L1 => Tr c (call (.ref f) (x :: vs) []) L1 Q)
    (hp : (backTo pos (starEach args env)).any (·.1) = false := by rfl) : Tr c (callWith pos (.ref f) [x] (backTo pos (starEach args env)) []) L Q := tr_callFn B hf h hp
theorem tr_Attribute {value : Expr} {attr : Str} {Q : Value → List Cell → Prop} (h : Tr c (eval value env) L fun o L1 => Tr c (getAttr o attr true) L1 Q)
    (he : eval (.Attribute value attr pos) env = (do
      let o ← eval value env
      standAt pos.atName
      let r ← holding [o] (getAttr o attr true)
      letTemporaryGo value o r
      pure r) := by with_unfolding_all rfl) : Tr c (eval (.Attribute value attr pos) env) L Q :=
  fun _ H hg ho => Attribute_any_ (h.use H hg ho fun _ _ _ H1 g1 o1 q => q _ H1 g1 o1) he
theorem tr_Subscript {value slice : Expr} {Q : Value → List Cell → Prop} (h : Tr c (eval value env) L fun o L1 => Tr c (eval slice env) L1 fun i L2 => Tr c (subscriptTail value slice o i) L2 Q) :
    Tr c (eval (.Subscript value slice pos) env) L Q :=
  fun _ H hg ho => Subscript_ (h.use H hg ho fun _ _ _ H1 g1 o1 q => q.use H1 g1 o1 fun _ _ _ H2 g2 o2 q2 => q2 _ H2 g2 o2)
theorem tr_UnaryOp {op : UnaryOp} {e : Expr} {Q : Value → List Cell → Prop} (h : Tr c (eval e env) L fun v L1 => Tr c (unaryOp op v) L1 Q) : Tr c (eval (.UnaryOp op e pos) env) L Q :=
  fun _ H hg ho => UnaryOp_ (h.use H hg ho fun _ _ _ H1 g1 o1 q => q _ H1 g1 o1)
theorem tr_isTrue_Not {e : Expr} {whole : Sem Value} {Q : Bool → List Cell → Prop} (h : Tr c (isTrue e env (eval e env)) L fun b L1 => Q (!b) L1) : Tr c (isTrue (.UnaryOp .Not e pos) env whole) L Q :=
  fun _ H hg ho => wpAny_isTrue_Not (h _ H hg ho)
theorem tr_isTrue_value {e : Expr} {whole : Sem Value} {Q : Bool → List Cell → Prop} (h : Tr c whole L fun v L1 => Tr c (truthy v) L1 Q) (he : isTrue e env whole = (do let v ← whole; standAt e.pos; PySem.holding [v] (truthy v)) := by rfl) :
    Tr c (isTrue e env whole) L Q := fun _ H hg ho => wpAny_isTrue_value (h.use H hg ho fun _ _ _ H1 g1 o1 q => q _ H1 g1 o1) he
theorem tr_isTrue_BoolOp {op : BoolOp} {values : List Expr} {whole : Sem Value} {Q : Bool → List Cell → Prop} (h : Tr c (allTrue op values env) L Q) : Tr c (isTrue (.BoolOp op values pos) env whole) L Q :=
  fun _ H hg ho => wpAny_isTrue_BoolOp (h _ H hg ho)
theorem tr_Or_nil {Q : Bool → List Cell → Prop} (h : Q false L) : Tr c (allTrue .Or [] env) L Q := fun _ H hg ho => wpAny_allTrue_Or_nil ⟨L, H, hg, ho, h⟩
theorem tr_And_nil {Q : Bool → List Cell → Prop} (h : Q true L) : Tr c (allTrue .And [] env) L Q := fun _ H hg ho => wpAny_allTrue_And_nil ⟨L, H, hg, ho, h⟩
theorem tr_Or_cons {e : Expr} {rest : List Expr} {Q : Bool → List Cell → Prop} (h : Tr c (isTrue e env (eval e env)) L fun b L1 => (b = true → Q true L1) ∧ (b = false → Tr c (allTrue .Or rest env) L1 Q)) : Tr c (allTrue .Or (e :: rest) env) L Q :=
  fun _ H hg ho => wpAny_allTrue_Or_cons (h.use H hg ho fun b _ L1 H1 g1 o1 q => by
    cases b with
    | true => exact ⟨L1, H1, g1, o1, q.1 rfl⟩
    | false => exact q.2 rfl _ H1 g1 o1)
theorem tr_And_cons {e : Expr} {rest : List Expr} {Q : Bool → List Cell → Prop} (h : Tr c (isTrue e env (eval e env)) L fun b L1 => (b = false → Q false L1) ∧ (b = true → Tr c (allTrue .And rest env) L1 Q)) : Tr c (allTrue .And (e :: rest) env) L Q :=
  fun _ H hg ho => wpAny_allTrue_And_cons (h.use H hg ho fun b _ L1 H1 g1 o1 q => by
    cases b with
    | true => exact q.2 rfl _ H1 g1 o1
    | false => exact ⟨L1, H1, g1, o1, q.1 rfl⟩)
theorem tr_truthy_bool {b : Bool} {Q : Bool → List Cell → Prop} (h : Q b L) : Tr c (truthy (.bool b)) L Q := fun _ H hg ho => wpAny_truthy_bool ⟨L, H, hg, ho, h⟩
theorem tr_not {v : Value} {Q : Value → List Cell → Prop} (h : Tr c (truthy v) L fun b L1 => Q (.bool (!b)) L1) : Tr c (unaryOp .Not v) L Q := fun _ H hg ho => not_of (h _ H hg ho)
theorem tr_List {elts : List Expr} {Q : Value → List Cell → Prop} (h : Tr c (spliced (backTo pos (starEach elts env))) L fun vs L1 => vs.length ≤ sizeLine ∧ ∀ a, Q (.ref a) ((a, pList vs) :: L1)) : Tr c (eval (.List elts pos) env) L Q :=
  fun _ H hg ho => wpAny_List (h.use H hg ho fun vs s1 L1 H1 g1 o1 q => ⟨q.1, _, H1.push (P := pList vs) ⟨0, rfl⟩ rfl, g1, o1, q.2 _⟩)
theorem tr_Tuple {elts : List Expr} {k : Nat} {Q : Value → List Cell → Prop} (h : Tr c (spliced (backTo pos (starEach elts env))) L fun vs L1 => vs.length ≤ sizeLine ∧ ∀ a, Q (.ref a) ((a, pTup vs) :: L1)) : Tr c (eval (.Tuple elts k pos) env) L Q :=
  fun _ H hg ho => wpAny_Tuple (h.use H hg ho fun vs s1 L1 H1 g1 o1 q => ⟨q.1, _, H1.push (P := pTup vs) ⟨0, rfl⟩ rfl, g1, o1, q.2 _⟩)
end
end Mine
namespace Mine

def retOf : Flow → Value
  | .ret v => v
  | _ => .none
def Cx.deeper (c : Cx) (env : Env) : Cx := { c with A := c.A.deeper env }
theorem Rm.deeper {n : Nat} {A : Around} (R : Rm (n + 1) A) (env : Env) : Rm n (A.deeper env) := by
  obtain ⟨a, b, d⟩ := R
  refine ⟨a, ?_, ?_⟩
  · show A.depth + 1 + n ≤ 600; omega
  · show A.units + 3 + 8 * n ≤ 8000; omega
theorem Rm.le {n k : Nat} {A : Around} (R : Rm n A) (h : k ≤ n := by decide) : Rm k A := by
  obtain ⟨a, b, d⟩ := R
  exact ⟨a, by omega, by omega⟩
theorem Rm.room {n : Nat} {A : Around} (R : Rm n A) : A.depth < recursionLimit := by
  have := R.dp
  show A.depth < 1000
  omega
theorem Rm.units {n : Nat} {A : Around} (R : Rm n A) : A.units < cLine := by
  have := R.un
  show A.units < 9900
  omega
theorem Bs.deeper {K : Frag} {c : Cx} {mg mb : Str → Option Value} (B : Bs K c mg mb) (env : Env) : Bs K (c.deeper env) mg mb := ⟨B.X, B.g, B.b, B.bi⟩

theorem Own.frame {h₀ h h' : Heap} {L : List Cell} (H : Own h₀ h L) {m : Str → Option Value} (hn : h'.Ns h.objs.size m) (k : ∀ b o, h.get? b = some o → h'.get? b = some o) : Own h₀ h' ((h.objs.size, pNs m) :: L) := by
  refine ⟨fun b o e => k b o (H.keep b o e), fun c m' => ?_, fun c m' => ?_, fun c m' => ?_, ?_, H.lim⟩
  · rcases List.mem_cons.mp m' with rfl | m'
    · exact of_ns hn
    · obtain ⟨o, e, p⟩ := H.has c m'
      exact ⟨o, k _ _ e, p⟩
  · rcases List.mem_cons.mp m' with rfl | m'
    · exact H.none
    · exact H.new c m'
  · rcases List.mem_cons.mp m' with rfl | m'
    · exact H.two
    · exact H.hi c m'
  · rw [List.map_cons, List.nodup_cons]
    refine ⟨fun hm => ?_, H.nd⟩
    obtain ⟨c, hc, e⟩ := List.mem_map.mp hm
    exact absurd (H.lt hc) (by rw [e]; exact Nat.lt_irrefl _)

section
variable {K : Frag} {mg mb : Str → Option Value} {c : Cx} {L : List Cell} {n : Nat}

def TrF (c : Cx) (f : Value) (args : List Value) (L : List Cell) (Q : Value → List Cell → Prop) : Prop :=
  ∀ s : Shared, Own c.h₀ s.heap L → c.G s.gens → s.os = c.O → codeAny (model c.prog c.w) c.A (.call f ⟨args, []⟩) (fun r s' => match r with | .ok (.ret v) => ∃ L', Own c.h₀ s'.heap L' ∧ c.G s'.gens ∧ s'.os = c.O ∧ Q v L' | .ok _ => False | .error _ => False) s
theorem TrF.tr {f : Value} {args : List Value} {Q : Value → List Cell → Prop} (h : TrF c f args L Q) : Tr c (call f args []) L Q := fun s H g o => wpAny_call (h s H g o)
theorem TrF.mono {f : Value} {args : List Value} {Q Q' : Value → List Cell → Prop} (h : TrF c f args L Q) (k : ∀ v L', Q v L' → Q' v L') : TrF c f args L Q' := fun s H g o => codeAny_mono (h s H g o) fun r s' z => by
  cases r with
  | error e => exact z
  | ok fl => cases fl with
    | ret v => obtain ⟨L', a, b, d, q⟩ := z; exact ⟨L', a, b, d, k _ _ q⟩
    | _ => exact z
theorem TrF.sel {f : Value} {args : List Value} {Q : Value → List Cell → Prop} {L' : List Cell} (x : Sel L' L) (h : TrF c f args L' Q) : TrF c f args L Q := fun s H g o => h s (H.sel x) g o
theorem tr_callF {name qual : Str} {params : Arguments} {body : List Stmt} {scope : Scope} {dV kV doc pm cdv ct oc : Value} {an od : Option Addr} {osl : Array (Option Value)} {f : Addr} {args : List Value} {binds : List (Str × Value)}
    {Q : Value → List Cell → Prop} (B : Bs K c mg mb) (R : Rm n c.A) (ho : K.lookup f = some ⟨oc, od, .func (fnOf name qual params body scope dV kV doc pm an cdv ct), osl⟩) (hcd : codeIn K cdv qual = true)
    (hbind : ∀ s : Shared, K.In s.heap → BindsTo s (fnOf name qual params body scope dV kV doc pm an cdv ct) ⟨args, []⟩ binds) (hloc : ∀ y ∈ binds, scope.names.lookup y.1 = some .local)
    (h : ∀ Lf, Tr (c.deeper (envX qual scope Lf f cdv [])) (execs body (envX qual scope Lf f cdv [])) ((Lf, pNs fun y => binds.reverse.lookup y) :: L) fun fl L' => ∃ L'', Sel L'' L' ∧ Q (retOf fl) L'')
    (hcell : ∀ x ∈ scope.names, x.2 ≠ .cell := by decide) (hco : scope.isCoroutine = false := by rfl) (hgen : scope.isGenerator = false := by rfl) (hk : scope.kind = .function := by rfl) : TrF c (.ref f) args L Q := by
  intro s H hg ho'
  refine (codeAny_call_def (fd := fnOf name qual params body scope dV kV doc pm an cdv ct) (body := body) (binds := binds) R.room (H.keep _ _ (B.X _ _ ho)) rfl H.limit
    (codeRec_of (B.X.keeps H.keep) hcd) rfl (hbind s (B.X.keeps H.keep)) hcell hloc (fun h₁ hns hk₁ => ?_) hco hgen hk)
  refine (h s.heap.objs.size).use (s := { s with heap := h₁, toks := s.toks + binds.length }) (H.frame hns hk₁) hg ho' fun fl s' L' H' g' o' q => ?_
  obtain ⟨L'', sl, q⟩ := q
  exact ⟨L'', H'.sel sl, g', o', by cases fl <;> exact q⟩
theorem tr_call {name qual : Str} {params : Arguments} {body : List Stmt} {scope : Scope} {dV kV doc pm cdv ct oc : Value} {an od : Option Addr} {osl : Array (Option Value)} {f : Addr} {args : List Value} {binds : List (Str × Value)}
    {Q : Value → List Cell → Prop} (B : Bs K c mg mb) (R : Rm n c.A) (ho : K.lookup f = some ⟨oc, od, .func (fnOf name qual params body scope dV kV doc pm an cdv ct), osl⟩) (hcd : codeIn K cdv qual = true)
    (hbind : ∀ s : Shared, K.In s.heap → BindsTo s (fnOf name qual params body scope dV kV doc pm an cdv ct) ⟨args, []⟩ binds) (hloc : ∀ y ∈ binds, scope.names.lookup y.1 = some .local)
    (h : ∀ Lf, Tr (c.deeper (envX qual scope Lf f cdv [])) (execs body (envX qual scope Lf f cdv [])) ((Lf, pNs fun y => binds.reverse.lookup y) :: L) fun fl L' => ∃ L'', Sel L'' L' ∧ Q (retOf fl) L'')
    (hcell : ∀ x ∈ scope.names, x.2 ≠ .cell := by decide) (hco : scope.isCoroutine = false := by rfl) (hgen : scope.isGenerator = false := by rfl) (hk : scope.kind = .function := by rfl) : Tr c (call (.ref f) args []) L Q :=
  (tr_callF B R ho hcd hbind hloc h hcell hco hgen hk).tr

theorem Own.inst {h₀ h : Heap} {k : Nat} {x C d : Addr} {P : Obj → Prop} {m : Str → Option Value} (H : Own h₀ h L) (hx : (x, P) ∈ L) (hP : ∀ o, P o → o.cls = .ref C ∧ o.dict = some d ∧ notCls o = true) (hd : (d, pAttr k m) ∈ L) :
    ∃ ox od, InstAt h x ox C (some od) ∧ ∀ name, lookIn name od = some (m name) := by
  obtain ⟨ox, ex, px⟩ := H.at hx
  obtain ⟨od, ed, es, ep, hdt, hs, hf, _⟩ := H.at hd
  obtain ⟨a, b, e⟩ := hP ox px
  refine ⟨ox, _, ⟨ex, a, e, by rw [b]; exact ed⟩, fun name => ?_⟩
  have q := hf name
  unfold nsFind findBy at q
  unfold lookIn
  rw [hdt]
  dsimp only
  rw [Array.find?_toList]
  cases r : es.find? (fun e => e.key.isStr name) with
  | some e => rw [r] at q; rw [← q]; rfl
  | none =>
    rw [r] at q
    rw [← q]
    dsimp only
    rw [if_neg]
    · rfl
    · intro hh
      obtain ⟨e, he, hr⟩ := List.any_eq_true.mp hh
      obtain ⟨nm, t, hk⟩ := hs e (by simpa using he)
      rw [DictEntry.refKey, hk] at hr
      cases hr
theorem pInst_is {C d : Addr} : ∀ o, pInst C d o → o.cls = .ref C ∧ o.dict = some d ∧ notCls o = true := fun o p => by rw [p]; exact ⟨rfl, rfl, rfl⟩
def pSub (C d : Addr) (vs : List Value) (o : Obj) : Prop := ∃ n, o = { cls := .ref C, dict := some d, data := .seq vs.toArray n, slots := #[] }
theorem pSub_is {C d : Addr} {vs : List Value} : ∀ o, pSub C d vs o → o.cls = .ref C ∧ o.dict = some d ∧ notCls o = true := fun o p => by obtain ⟨n, rfl⟩ := p; exact ⟨rfl, rfl, rfl⟩

inductive GetOk (K : Frag) (C : Addr) : Prop
  | obj (hga : findIn K (.ref C) "__getattribute__" = some (some (.builtin "object.__getattribute__"))) (hk : findIn K (.ref C) "__getattr__" = some none)
  | lst (hga : findIn K (.ref C) "__getattribute__" = some (some (.builtin "list.__getattribute__"))) (hk : findIn K (.ref C) "__getattr__" = some none) (hm : mroIn K C (.type "list") = some true)
theorem GetOk.ga {K : Frag} {C : Addr} (x : GetOk K C) : ∃ ga, findIn K (.ref C) "__getattribute__" = some (some (.builtin ga)) ∧ (Manifest.canonical ga != "object.__getattribute__") = false ∧ findIn K (.ref C) "__getattr__" = some none := by
  cases x with
  | obj a b => exact ⟨_, a, PySem.F.canon_object_ga, b⟩
  | lst a b _ => exact ⟨_, a, canon_list_getattribute, b⟩
section
variable {prog : Program} {w : World} {A : Around} {E : Value → Shared → Prop} {s : Shared} {x C : Addr} {ox : Obj} {od : Option Obj}
theorem call_sub {id nm : String} {b : Builtin} {rest : List Value} {Q : Value → Shared → Prop} (X : K.In s.heap) (hx : s.heap.get? x = some ox) (hc : ox.cls = .ref C) (hm : mroIn K C (.type "list") = some true)
    (hk : builtinKind id = some .method ∨ builtinKind id = some .slot) (hs : splitId id = some ("list", nm)) (hp : plainId id = true) (hb : entryFor table id = some b)
    (hq : wpAny (model prog w) A.in1 (b ⟨.ref x :: rest, []⟩) (fun fin s' => match fin with | .done f => (match (Except.ok f : Result) with | .ok (.ret v) => Q v s' | .ok _ => False | .error e => E e s') | .again c' => c'.quiet = true ∧ codeAny (model prog w) A c' (fun r s' => match r with | .ok (.ret v) => Q v s' | .ok _ => False | .error e => E e s') s') E s)
    (ha : argsOk id ⟨.ref x :: rest, []⟩ := by rfl) :
    wpAny (model prog w) A (call (.builtin id) (.ref x :: rest)) Q E s := by
  refine wpAny_call (codeAny_call_builtin hp hb ?_)
  have inst : ∀ {Q' : Bool → Shared → Prop}, Q' true s → wpAny (model prog w) A.in1 (isInstance (.ref x) (.type "list")) Q' E s := fun hq' => by
    unfold isInstance typeOf
    obtain ⟨hh, g, d, t, os⟩ := s
    refine wpAny_bind (wpAny_bind (wpAny_loadPart hx (wpAny_pure ?_)))
    rw [hc]
    exact (looks_mroIn X hm).at hq'
  rcases hk with hk | hk <;> (
    simp only [checkBuiltinCall, hk, hs]
    refine wpAny_bind (inst ?_)
    rw [if_neg (by decide)]
    cases hsig : Manifest.signature? id with
    | none => exact wpAny_pure hq
    | some sig =>
      simp only [argsOk, hsig] at ha
      have h2 : Bind.checkArgs id sig ⟨.ref x :: rest, []⟩ = pure () := ha
      show wpAny _ _ (Bind.checkArgs id sig ⟨.ref x :: rest, []⟩) _ _ _
      rw [h2]; exact wpAny_pure hq)
theorem call_sub1 {id nm : String} {b : Builtin} {rest : List Value} {Q : Value → Shared → Prop} (X : K.In s.heap) (hx : s.heap.get? x = some ox) (hc : ox.cls = .ref C) (hm : mroIn K C (.type "list") = some true)
    (hk : builtinKind id = some .method ∨ builtinKind id = some .slot) (hs : splitId id = some ("list", nm)) (hp : plainId id = true) (hb : entryFor table id = some b)
    (hq : wpAny (model prog w) A.in1 (b ⟨.ref x :: rest, []⟩) (fun fin s' => ∃ v, fin = .done (.ret v) ∧ Q v s') E s)
    (ha : argsOk id ⟨.ref x :: rest, []⟩ := by rfl) : wpAny (model prog w) A (call (.builtin id) (.ref x :: rest)) Q E s :=
  call_sub X hx hc hm hk hs hp hb (wpAny_mono hq (fun fin s' h' => by obtain ⟨v, rfl, hv⟩ := h'; exact hv) fun _ _ h' => h') ha

theorem getv_sub {v : Value} {name : Str} {expr : Bool} {Q : Value → Shared → Prop} (X : K.In s.heap) (I : InstAt s.heap x ox C od) (hga : findIn K (.ref C) "__getattribute__" = some (some (.builtin "list.__getattribute__"))) (hk : findIn K (.ref C) "__getattr__" = some none)
    (hm : mroIn K C (.type "list") = some true) (hf : findObj K C od name = some (.value v)) (hh : handedIn v = true) (h : Q v { s with toks := s.toks + 1 }) : wpAny (model prog w) A (getAttr (.ref x) name expr) Q E s := by
  obtain ⟨hh', g, d, t, os⟩ := s
  have L0 := I.type (M := model prog w)
  have L1 := looks_findIn (M := model prog w) X hga
  have L2 := looks_findIn (M := model prog w) X hk
  have L3 := looks_find (M := model prog w) X I hf
  have hb := PySem.F.slot_list_getattribute.bind (.ref x)
  unfold getAttr getAttrBy
  refine wpAny_bind (wpAny_mkText (wpAny_holding (wpAny_bind (L0.at (wpAny_bind (L1.at ?_))))))
  dsimp only
  rw [if_neg (by simp [onTheHeap])]
  unfold getAttrByItsOwn hookBefore
  refine wpAny_bind ?_
  show wpAny _ _ (typeLookup (.ref C) "__getattr__") _ _ _
  refine L2.at (wpAny_bind (wpAny_attempt (wpAny_holding ?_)))
  unfold callGetattribute
  rw [if_neg (by simp [onTheHeap])]
  unfold boundAndCalled
  rw [hb]
  refine wpAny_bind (wpAny_pure ?_)
  refine call_sub1 (nm := "__getattribute__") X I.at_ I.cls hm (.inr (by decide +kernel)) (by decide +kernel) PySem.F.slot_list_getattribute.plain PySem.F.entry_list_ga ?_ (PySem.F.args_list_getattribute_2 _ _)
  refine wpAny_bind (m := slotArgs "__getattribute__" 1 _) (wpAny_pure ?_)
  refine wpAny_bind (wpAny_pure ?_)
  refine wpAny_bind (L0.at (wpAny_bind (L3.at ?_)))
  refine wpAny_pure ⟨v, rfl, ?_⟩
  show wpAny _ _ (handedOut v) _ _ _
  rw [handedOut_of hh]
  exact wpAny_pure h

theorem getv_ok {v : Value} {name : Str} {expr : Bool} {Q : Value → Shared → Prop} (X : K.In s.heap) (I : InstAt s.heap x ox C od) (hg : GetOk K C) (hf : findObj K C od name = some (.value v)) (hh : handedIn v = true) (h : Q v { s with toks := s.toks + 1 }) :
    wpAny (model prog w) A (getAttr (.ref x) name expr) Q E s := by
  cases hg with
  | obj a b => exact get_value X I a hf hh h
  | lst a b m => exact getv_sub X I a b m hf hh h
theorem meth_ok {f : Value} {tf : Value} {name : Str} {pl : Sem Bool} {Q : Value × List Value → Shared → Prop} (X : K.In s.heap) (I : InstAt s.heap x ox C od) (hg : GetOk K C) (hf : findIn K (.ref C) name = some (some f))
    (ht : Looks (model prog w) s.heap (typeOf f) tf) (hok : tf = .type "function" ∨ tf = .type "method_descriptor") (hs : shadowIn od name = some false) (h : Q (f, [.ref x]) s) : wpAny (model prog w) A (getMethod (.ref x) name pl) Q E s := by
  obtain ⟨ga, hga, hcan, hk⟩ := hg.ga
  unfold getMethod specialOf
  refine wpAny_bind (wpAny_bind (I.type.here ((looks_findIn X hga).here ?_)))
  dsimp only
  rw [hcan, if_neg (by decide)]
  refine wpAny_bind (wpAny_bind (I.type.here ((looks_findIn X hk).here ?_)))
  refine wpAny_bind (wpAny_bind (I.type.here ((looks_findIn X hf).here (wpAny_bind (ht.here ?_)))))
  rw [if_neg (by rcases hok with rfl | rfl <;> decide +kernel)]
  refine wpAny_bind (wpAny_loadPart I.at_ ?_)
  have hd := I.dict
  cases e : ox.dict with
  | none => exact wpAny_bind (wpAny_rule (wpAny_pure h))
  | some dx =>
    cases od with
    | none => rw [e] at hd; exact hd.elim
    | some o =>
      rw [e] at hd
      obtain ⟨r, a, b⟩ := Option.map_eq_some_iff.mp hs
      refine wpAny_bind (wpAny_bind (wpAny_loadPart hd ?_))
      rw [nsLook_of a]
      refine wpAny_pure ?_
      rw [b]
      exact wpAny_bind (wpAny_rule (wpAny_pure h))
end

theorem tr_getAttr {k : Nat} {x C d : Addr} {P : Obj → Prop} {m : Str → Option Value} {name : Str} {v : Value} {expr : Bool} {attr : Option Value} {Q : Value → List Cell → Prop} (B : Bs K c mg mb) (hx : (x, P) ∈ L)
    (hP : ∀ o, P o → o.cls = .ref C ∧ o.dict = some d ∧ notCls o = true) (hd : (d, pAttr k m) ∈ L) (hg : GetOk K C) (hh : hasDictIn K C = true) (ha : findIn K (.ref C) name = some attr) (hn : noGet K attr = true)
    (hv : m name = some v) (h : Q v L) (hi : handedIn v = true := by rfl) : Tr c (getAttr (.ref x) name expr) L Q := by
  intro s H g o
  obtain ⟨ox, od, I, hl⟩ := H.inst hx hP hd
  exact getv_ok (B.X.keeps H.keep) I hg (findObj_own hh ha hn (by rw [hl, hv])) hi ⟨L, H, g, o, h⟩
theorem tr_getMethod {k : Nat} {x C d f : Addr} {P : Obj → Prop} {m : Str → Option Value} {name : Str} {pl : Sem Bool} {Q : Value × List Value → List Cell → Prop} (B : Bs K c mg mb) (hx : (x, P) ∈ L)
    (hP : ∀ o, P o → o.cls = .ref C ∧ o.dict = some d ∧ notCls o = true) (hd : (d, pAttr k m) ∈ L) (hg : GetOk K C) (hf : findIn K (.ref C) name = some (some (.ref f))) (ht : isFn K (.ref f) = true)
    (hv : m name = none) (h : Q (.ref f, [.ref x]) L) : Tr c (getMethod (.ref x) name pl) L Q := by
  intro s H g o
  obtain ⟨ox, od, I, hl⟩ := H.inst hx hP hd
  have X := B.X.keeps H.keep
  exact meth_ok X I hg hf (looks_typeIn X (beq_iff_eq.mp ht)) (.inl rfl) (by show (lookIn name od).map _ = _; rw [hl, hv]; rfl) ⟨L, H, g, o, h⟩
theorem tr_getMethodB {k : Nat} {x C d : Addr} {P : Obj → Prop} {m : Str → Option Value} {name : Str} {id : String} {pl : Sem Bool} {Q : Value × List Value → List Cell → Prop} (B : Bs K c mg mb) (hx : (x, P) ∈ L)
    (hP : ∀ o, P o → o.cls = .ref C ∧ o.dict = some d ∧ notCls o = true) (hd : (d, pAttr k m) ∈ L) (hg : GetOk K C) (hf : findIn K (.ref C) name = some (some (.builtin id))) (ht : typeOf (.builtin id) = pure (.type "method_descriptor"))
    (hv : m name = none) (h : Q (.builtin id, [.ref x]) L) : Tr c (getMethod (.ref x) name pl) L Q := by
  intro s H g o
  obtain ⟨ox, od, I, hl⟩ := H.inst hx hP hd
  exact meth_ok (B.X.keeps H.keep) I hg hf (Looks.of_pure ht) (.inr rfl) (by show (lookIn name od).map _ = _; rw [hl, hv]; rfl) ⟨L, H, g, o, h⟩
theorem tr_getMethodL {l : Addr} {vs : List Value} {name : Str} {id : String} {pl : Sem Bool} {Q : Value × List Value → List Cell → Prop} (hl : (l, pList vs) ∈ L) (slot : Slot "list" name id) (hty : typeOf (.builtin id) = pure (.type "method_descriptor"))
    (h : Q (.builtin id, [.ref l]) L) : Tr c (getMethod (.ref l) name pl) L Q := by
  intro s H g o
  obtain ⟨ob, e, k, rfl⟩ := H.at hl
  exact getMethod_builtin ⟨_, e, rfl⟩ PySem.F.plainAttrs_list slot hty (fun a q => by cases q; exact ⟨_, e, rfl⟩) ⟨L, H, g, o, h⟩
theorem tr_append {l : Addr} {vs : List Value} {x : Value} {L' : List Cell} {Q : Value → List Cell → Prop} (U : Upd1 l (pList vs) (pList (vs ++ [x])) L L') (h : Q .none L') (hsz : vs.length ≤ sizeLine) : Tr c (call (.builtin "list.append") [.ref l, x] []) L Q := by
  intro s H g o
  obtain ⟨ob, e, k, rfl⟩ := H.at U.mem
  refine wpAny_list_append_plain ⟨k, e⟩ (fun h' hp hs => ?_) (by rw [List.size_toArray]; exact hsz)
  obtain ⟨k', e'⟩ := hp
  exact ⟨L', H.upd U hs e' ⟨k', by simp⟩, g, o, h⟩
end
end Mine
namespace Mine

section
variable {prog : Program} {w : World} {A : Around} {E : Value → Shared → Prop} {s : Shared} {K : Frag} {x C : Addr} {ox : Obj} {od : Option Obj}
theorem special_sub {name : Str} {id : String} {args : List Value} {Q : Option Value → Shared → Prop} (X : K.In s.heap) (hx : s.heap.get? x = some ox) (hc : ox.cls = .ref C) (hf : findIn K (.ref C) name = some (some (.builtin id)))
    (hbd : ∀ self, bindSpecial (.builtin id) self = pure (.builtin id, [self])) (h : wpAny (model prog w) A (call (.builtin id) (.ref x :: args)) (fun v => Q (some v)) E s) : wpAny (model prog w) A (callSpecial? (.ref x) name args) Q E s := by
  unfold callSpecial? specialOf
  refine wpAny_bind (wpAny_bind ?_)
  unfold typeOf
  refine wpAny_bind (wpAny_loadPart hx (wpAny_pure ?_))
  rw [hc]
  obtain ⟨hh, g, d, t, os⟩ := s
  refine (looks_findIn X hf).at ?_
  dsimp only
  rw [hbd]
  exact wpAny_holding (wpAny_bind (wpAny_pure (wpAny_bind (wpAny_mono h (fun v s' h' => wpAny_pure h') fun _ _ h' => h'))))
theorem specialOf_sub {name : Str} {r : Option Value} {Q : Option Value → Shared → Prop} (X : K.In s.heap) (hx : s.heap.get? x = some ox) (hc : ox.cls = .ref C) (hf : findIn K (.ref C) name = some r)
    (h : Q r s) : wpAny (model prog w) A (specialOf (.ref x) name) Q E s := by
  unfold specialOf typeOf
  refine wpAny_bind (wpAny_bind (wpAny_loadPart hx (wpAny_pure ?_)))
  rw [hc]
  obtain ⟨hh, g, d, t, os⟩ := s
  exact (looks_findIn X hf).at h

structure ListSub (K : Frag) (C : Addr) : Prop where
  mro : mroIn K C (.type "list") = some true
  len : findIn K (.ref C) "__len__" = some (some (.builtin "list.__len__"))
  bool : findIn K (.ref C) "__bool__" = some none
  iter : findIn K (.ref C) "__iter__" = some (some (.builtin "list.__iter__"))
  getitem : findIn K (.ref C) "__getitem__" = some (some (.builtin "list.__getitem__"))

theorem len_body_sub {vs : List Value} {n : Nat} {Q : Value → Shared → Prop} (X : K.In s.heap) (S : ListSub K C) (hx : s.heap.get? x = some ox) (hc : ox.cls = .ref C) (hd : ox.data = .seq vs.toArray n) (hfit : vs.length ≤ sizeLine)
    (h : Q (.int vs.length (s.toks + 1)) { s with toks := s.toks + 1 + 1 }) : wpAny (model prog w) A (Builtin.«len» ⟨[.ref x], []⟩) (fun fin s' => ∃ v, fin = .done (.ret v) ∧ Q v s') E s := by
  have hfit' : ((vs.length : Nat) : Int) < 2 ^ 63 := by have : sizeLine = 2 ^ 24 := rfl; omega
  unfold Builtin.«len»
  refine wpAny_bind (m := oneArg "len" _) (wpAny_pure ?_)
  refine wpAny_bind (m := callSpecial? (.ref x) (Str.ofString "__len__")) (special_sub X hx hc S.len slot_list_len.bind (call_sub1 (nm := "__len__") X hx hc S.mro (.inr (by decide +kernel)) (by decide +kernel) slot_list_len.plain entry_list_len ?_ (args_list_len _)))
  show wpAny _ _ (do retInt (← seqSize x)) _ _ s
  unfold seqSize
  refine wpAny_bind (wpAny_bind (wpAny_load hx ?_))
  rw [hd]
  refine wpAny_pure (wpAny_bind (wpAny_mkInt (wpAny_pure ⟨_, rfl, ?_⟩)))
  refine wpAny_bind (wpAny_holding (wpAny_pure ?_))
  refine wpAny_bind (wpAny_letGo ?_)
  show wpAny _ _ (if ((vs.toArray.size : Nat) : Int) < 0 then _ else _) _ _ _
  rw [if_neg (by omega)]
  show wpAny _ _ (if ((vs.toArray.size : Nat) : Int) ≥ 2 ^ 63 then _ else _) _ _ _
  rw [if_neg (by rw [List.size_toArray]; omega)]
  rw [List.size_toArray]
  exact wpAny_bind (wpAny_mkInt (wpAny_pure ⟨_, rfl, h⟩))
theorem len_sub {vs : List Value} {n : Nat} {Q : Value → Shared → Prop} (X : K.In s.heap) (S : ListSub K C) (hx : s.heap.get? x = some ox) (hc : ox.cls = .ref C) (hd : ox.data = .seq vs.toArray n) (hfit : vs.length ≤ sizeLine)
    (h : Q (.int vs.length (s.toks + 1)) { s with toks := s.toks + 1 + 1 }) : wpAny (model prog w) A (call (.builtin "len") [.ref x]) Q E s :=
  call_function_entry kind_len plain_len entry_len (args_len1 _) (len_body_sub X S hx hc hd hfit h)
theorem truthy_sub {vs : List Value} {n : Nat} {Q : Bool → Shared → Prop} (X : K.In s.heap) (S : ListSub K C) (hx : s.heap.get? x = some ox) (hc : ox.cls = .ref C) (hd : ox.data = .seq vs.toArray n) (hfit : vs.length ≤ sizeLine)
    (h : Q (!vs.isEmpty) { s with toks := s.toks + 1 + 1 }) : wpAny (model prog w) A (truthy (.ref x)) Q E s := by
  have none1 : ∀ {Q' : Option Value → Shared → Prop}, Q' .none s → wpAny (model prog w) A (callSpecial? (.ref x) "__bool__") Q' E s := fun hq => by
    unfold callSpecial?
    exact wpAny_bind (specialOf_sub X hx hc S.bool (wpAny_pure hq))
  have hne : ((vs.length : Int) != 0) = !vs.isEmpty := by cases vs <;> simp <;> omega
  have key : wpAny (model prog w) A (runValue (.builtin "len" ⟨[.ref x], []⟩)) (fun v s' => v = .int vs.length (s.toks + 1) ∧ Q (!vs.isEmpty) s') E s := by
    refine wpAny_runValue (codeAny_builtin entry_len ?_)
    rw [Around.under_plainId plain_len _]
    exact wpAny_mono (len_body_sub (Q := fun v s' => v = .int vs.length (s.toks + 1) ∧ Q (!vs.isEmpty) s') X S hx hc hd hfit ⟨rfl, h⟩) (fun fin s' h' => by obtain ⟨r, rfl, hq⟩ := h'; exact hq) fun _ _ e => e
  unfold truthy
  refine wpAny_bind (none1 ?_)
  refine wpAny_bind (specialOf_sub X hx hc S.len ?_)
  exact wpAny_bind (wpAny_mono key (fun r s' h' => by obtain ⟨rfl, hq⟩ := h'; exact wpAny_pure (hne ▸ hq)) fun _ _ e => e)
theorem pyIter_sub {Q : Value → Shared → Prop} (X : K.In s.heap) (S : ListSub K C) (hx : s.heap.get? x = some ox) (hc : ox.cls = .ref C)
    (h : Q (.ref s.heap.objs.size) { s with heap := s.heap.push { cls := .type "list_iterator", data := .fields #[.ref x, .int 0 0] } }) : wpAny (model prog w) A (pyIter (.ref x)) Q E s := by
  unfold pyIter
  refine wpAny_bind (specialOf_sub X hx hc S.iter ?_)
  have e : ∀ (Q' : Option Value → Shared → Prop) (r : Sem Value), wpAny (model prog w) A (call (.builtin "list.__iter__") [.ref x]) (fun v => Q' (some v)) E s → wpAny (model prog w) A (callSpecialIfBoundUnlessNone? (.ref x) "__iter__" r) Q' E s := fun Q' r hq => by
    unfold callSpecialIfBoundUnlessNone? bindSpecialIfBound?
    refine wpAny_holding (wpAny_bind (wpAny_bind (specialOf_sub X hx hc S.iter ?_)))
    refine wpAny_bind (wpAny_askSetting ?_)
    have hb := slot_list_iter.bind (.ref x)
    have hb' : ∀ {Q'' : Option (Value × List Value) → Shared → Prop} {E'' : Value → Shared → Prop}, Q'' (some (.builtin "list.__iter__", [.ref x])) s → wpAny (model prog w) A (do return some (← bindSpecial (.builtin "list.__iter__") (.ref x))) Q'' E'' s := fun hq'' => by
      rw [hb]; exact wpAny_bind (wpAny_pure (wpAny_pure hq''))
    have fin : wpAny (model prog w) A (if (Value.builtin "list.__iter__" == Value.none) = true then (do return some (← r)) else (do return some (← call (.builtin "list.__iter__") [.ref x]))) Q' E s := by
      rw [if_neg (by decide)]
      exact wpAny_bind (wpAny_mono hq (fun v s' h' => wpAny_pure h') fun _ _ z => z)
    split
    · exact hb' fin
    · exact wpAny_tryCatch (hb' fin)
  refine wpAny_bind (e _ _ (call_sub1 (nm := "__iter__") X hx hc S.mro (.inr (by decide +kernel)) (by decide +kernel) slot_list_iter.plain entry_list_iter ?_ (args_list_iter _)))
  show wpAny _ _ (do ret (← newFields "list_iterator" [.ref x, rawInt 0])) _ _ s
  refine wpAny_bind (wpAny_newObj_type (wpAny_pure ⟨_, rfl, ?_⟩))
  exact wpAny_bind (wpAny_specialOf (T := "list_iterator") ⟨_, Heap.get?_push_size _ rfl, rfl⟩ slot_listiter_next.lookup (wpAny_pure h))
end
end Mine
namespace Mine
section
variable {prog : Program} {w : World} {A : Around} {E : Value → Shared → Prop} {s : Shared} {K : Frag} {x C : Addr} {ox : Obj} {od : Option Obj}
theorem next_item {it l : Addr} {i n : Nat} {oi ol : Obj} {items : Array Value} {v : Value} {Q : Option Value → Shared → Prop} (hi : s.heap.get? it = some oi) (hp : pLIter l i oi) (hl : s.heap.get? l = some ol) (hd : ol.data = .seq items n) (hv : items[i]? = some v)
    (h : ∀ h' o', h'.get? it = some o' → pLIter l (i + 1) o' → Heap.SameBut it s.heap h' → Q (some v) { s with heap := h' }) : wpAny (model prog w) A (pyNext (.ref it)) Q E s := by
  unfold pLIter at hp
  subst hp
  have hT : s.TypeIs (.ref it) "list_iterator" := ⟨_, hi, rfl⟩
  unfold pyNext
  refine wpAny_bind (wpAny_attempt (wpAny_callSpecial?_slot (name := Str.ofString "__next__") hT slot_listiter_next (wpAny_call_entry slot_listiter_next hT entry_listiter_next ?_ (args_listiter_next _))))
  refine wpAny_bind (m := field (.ref it) 0) (wpAny_field hi rfl (x := .ref l) rfl ?_)
  rw [if_neg (show ¬ ((Value.ref l == Value.none) = true) from Bool.false_ne_true)]
  refine wpAny_bind (m := field (.ref it) 1) (wpAny_field hi rfl (x := .int i 0) rfl ?_)
  refine wpAny_bind (m := seqItems? (.ref l)) (wpAny_seqItems hl hd ?_)
  simp only [Int.toNat_natCast, hv]
  refine wpAny_bind (wpAny_setField hi rfl (by simp) (wpAny_pure ⟨v, rfl, wpAny_pure (h _ _ (Heap.get?_update_self _ hi rfl) ?_ (Heap.SameBut.update ..))⟩))
  show _ = _
  simp [Obj.mapFields, rawInt]

theorem next_end {it l : Addr} {i n : Nat} {oi ol : Obj} {items : Array Value} {Q : Option Value → Shared → Prop} (hh : A.handled = none) (hi : s.heap.get? it = some oi) (hp : pLIter l i oi) (hl : s.heap.get? l = some ol) (hd : ol.data = .seq items n) (hv : items[i]? = none)
    (h : ∀ h', Heap.ExtBut it s.heap h' → Q none { s with heap := h' }) : wpAny (model prog w) A (pyNext (.ref it)) Q E s := by
  unfold pLIter at hp
  subst hp
  have hT : s.TypeIs (.ref it) "list_iterator" := ⟨_, hi, rfl⟩
  unfold pyNext
  refine wpAny_bind (wpAny_attempt (wpAny_callSpecial?_slot (name := Str.ofString "__next__") hT slot_listiter_next (wpAny_call_entry slot_listiter_next hT entry_listiter_next ?_ (args_listiter_next _))))
  refine wpAny_bind (m := field (.ref it) 0) (wpAny_field hi rfl (x := .ref l) rfl ?_)
  rw [if_neg (show ¬ ((Value.ref l == Value.none) = true) from Bool.false_ne_true)]
  refine wpAny_bind (m := field (.ref it) 1) (wpAny_field hi rfl (x := .int i 0) rfl ?_)
  refine wpAny_bind (m := seqItems? (.ref l)) (wpAny_seqItems hl hd ?_)
  simp only [Int.toNat_natCast, hv]
  refine wpAny_bind (wpAny_rule (wpAny_bind (wpAny_setField hi rfl (by simp) ?_)))
  refine wpAny_bind (m := newExc (.type "StopIteration") []) ?_
  simp only [newExc, newTuple]
  refine wpAny_bind (wpAny_newObj_type ?_ (by size_fits))
  refine wpAny_bind (m := firstArgMember _ _) (wpAny_of_eq (a := Value.none) (by first | rfl | (simp only [firstArgMember]; rfl)) ?_)
  refine wpAny_newObj_type ?_ (by size_fits)
  simp only [raiseNew]
  refine wpAny_bind (wpAny_handled ?_)
  rw [show A.in1.handled = none from hh]
  refine wpAny_bind (wpAny_pure (wpAny_throw ?_))
  refine wpAny_bind (wpAny_isInstance (T := "StopIteration") (b := true) ⟨_, Heap.get?_push_size _ rfl, rfl⟩ isSubtype_stop ?_)
  exact wpAny_pure (h _ (((Heap.SameBut.update ..).extBut.push _).push _))
end

def SeqP (P : Obj → Prop) (vs : List Value) : Prop := ∀ o, P o → ∃ n, o.data = .seq vs.toArray n
theorem pList_seq {vs : List Value} : SeqP (pList vs) vs := fun o ⟨n, e⟩ => ⟨n, by rw [e]⟩
theorem pTup_seq {vs : List Value} : SeqP (pTup vs) vs := fun o ⟨n, e⟩ => ⟨n, by rw [e]⟩
theorem pSub_seq {C d : Addr} {vs : List Value} : SeqP (pSub C d vs) vs := fun o ⟨n, e⟩ => ⟨n, by rw [e]⟩

def TrC (c : Cx) (code : Code) (L : List Cell) (Q : Flow → List Cell → Prop) : Prop :=
  ∀ s : Shared, Own c.h₀ s.heap L → c.G s.gens → s.os = c.O →
    codeAny (model c.prog c.w) c.A code (fun r s' => match r with | .ok f => ∃ L', Own c.h₀ s'.heap L' ∧ c.G s'.gens ∧ s'.os = c.O ∧ Q f L' | .error _ => False) s

section
variable {K : Frag} {mg mb : Str → Option Value} {c : Cx} {L : List Cell} {env : Env} {n : Nat}
theorem tr_nextItem {it l : Addr} {i : Nat} {P : Obj → Prop} {vs : List Value} {v : Value} {L' : List Cell} {Q : Option Value → List Cell → Prop} (U : Upd1 it (pLIter l i) (pLIter l (i + 1)) L L') (hl : (l, P) ∈ L) (hP : SeqP P vs) (hv : vs[i]? = some v)
    (h : Q (some v) L') : Tr c (pyNext (.ref it)) L Q := fun s H g o => by
  obtain ⟨oi, ei, pi⟩ := H.at U.mem
  obtain ⟨ol, el, pl⟩ := H.at hl
  obtain ⟨k, hd⟩ := hP ol pl
  exact next_item ei pi el hd (by simpa using hv) fun h' o' e' p' hs => ⟨L', H.upd U hs e' p', g, o, h⟩
theorem tr_nextEnd {it l : Addr} {i : Nat} {P : Obj → Prop} {vs : List Value} {L' : List Cell} {Q : Option Value → List Cell → Prop} (R : Rm n c.A) (U : Rem1 it (pLIter l i) L L') (hl : (l, P) ∈ L) (hP : SeqP P vs) (hv : vs[i]? = none)
    (h : Q none L') : Tr c (pyNext (.ref it)) L Q := fun s H g o => by
  obtain ⟨oi, ei, pi⟩ := H.at U.mem
  obtain ⟨ol, el, pl⟩ := H.at hl
  obtain ⟨k, hd⟩ := hP ol pl
  exact next_end R.hd ei pi el hd (by simpa using hv) fun h' hs => ⟨L', (H.perm U.perm).extBut hs, g, o, h⟩
theorem tr_For {target iter : Expr} {body orelse : List Stmt} {pos : Pos} {Q : Flow → List Cell → Prop}
    (h : Tr c (eval iter env) L fun x L1 => Tr c (pyIter x) L1 fun it L2 => TrC c (.forLoop target it body orelse env) L2 Q)
    (hs : ∀ x, foldedSetIterable iter env x = pure x := by intro _; rfl) : Tr c (exec (.For target iter body orelse pos) env) L Q := fun s H g o =>
  wpAny_For (h.use H g o fun _ _ _ H1 g1 o1 q => q.use H1 g1 o1 fun it s2 _ H2 g2 o2 q2 => codeAny_mono (q2 _ H2 g2 o2) (fun r s' hr => by
    cases r with
    | ok f => exact hr
    | error e => exact hr.elim)) hs
theorem tr_forLoop {target : Expr} {it : Value} {body orelse : List Stmt} {Q : Flow → List Cell → Prop} (I : Nat → List Cell → Prop)
    (turn : ∀ k L, I k L → Tr c (pyNext it) L fun r L1 => match r with
      | none => Tr c (execs orelse env) L1 Q
      | some v => Tr c (letOwnedTupleGo target it v) L1 fun _ L2 => Tr c (assign target env v) L2 fun _ L3 => Tr c (execs body env) L3 fun f L4 => match f with
          | .next | .cont => ∃ m L5, m < k ∧ Sel L5 L4 ∧ I m L5
          | .brk => Q .next L4
          | .ret v => Q (.ret v) L4)
    (k : Nat) (h : I k L) : TrC c (.forLoop target it body orelse env) L Q := fun s H g o => by
  refine codeAny_forLoop_any (fun k s => ∃ L, Own c.h₀ s.heap L ∧ c.G s.gens ∧ s.os = c.O ∧ I k L) (fun k s ⟨L, H, g, o, hI⟩ => ?_) k ⟨L, H, g, o, h⟩
  refine (turn k L hI).use H g o fun r s1 L1 H1 g1 o1 q => ?_
  cases r with
  | none => exact q.use H1 g1 o1 fun f s2 L2 H2 g2 o2 q2 => ⟨L2, H2, g2, o2, q2⟩
  | some v =>
      refine q.use H1 g1 o1 fun _ s2 L2 H2 g2 o2 q2 => q2.use H2 g2 o2 fun _ s3 L3 H3 g3 o3 q3 => q3.use H3 g3 o3 fun f s4 L4 H4 g4 o4 q4 => ?_
      cases f with
      | next => obtain ⟨m, L5, hm, hs, hI'⟩ := q4; exact ⟨m, hm, L5, H4.sel hs, g4, o4, hI'⟩
      | cont => obtain ⟨m, L5, hm, hs, hI'⟩ := q4; exact ⟨m, hm, L5, H4.sel hs, g4, o4, hI'⟩
      | brk => exact ⟨L4, H4, g4, o4, q4⟩
      | ret v => exact ⟨L4, H4, g4, o4, q4⟩
theorem tr_While {test : Expr} {body orelse : List Stmt} {pos : Pos} {Q : Flow → List Cell → Prop} (h : TrC c (.whileLoop test body orelse env) L Q) : Tr c (exec (.While test body orelse pos) env) L Q := fun s H g o =>
  wpAny_While (codeAny_mono (h s H g o) (fun r s' hr => by
    cases r with
    | ok f => exact hr
    | error e => exact hr.elim))
theorem tr_whileLoop {test : Expr} {body orelse : List Stmt} {Q : Flow → List Cell → Prop} (I : Nat → List Cell → Prop)
    (turn : ∀ k L, I k L → Tr c (isTrue test env (eval test env)) L fun b L1 => (b = true → Tr c (execs body env) L1 fun f L4 => match f with
          | .next | .cont => ∃ m L5, m < k ∧ Sel L5 L4 ∧ I m L5
          | .brk => Q .next L4
          | .ret v => Q (.ret v) L4) ∧ (b = false → Tr c (execs orelse env) L1 Q))
    (k : Nat) (h : I k L) : TrC c (.whileLoop test body orelse env) L Q := fun s H g o => by
  refine codeAny_whileLoop (fun k s => ∃ L, Own c.h₀ s.heap L ∧ c.G s.gens ∧ s.os = c.O ∧ I k L) (fun k s ⟨L, H, g, o, hI⟩ => ?_) k ⟨L, H, g, o, h⟩
  refine (turn k L hI).use H g o fun b s1 L1 H1 g1 o1 q => ?_
  cases b with
  | false => exact (q.2 rfl).use H1 g1 o1 fun f s2 L2 H2 g2 o2 q2 => ⟨L2, H2, g2, o2, q2⟩
  | true =>
      refine (q.1 rfl).use H1 g1 o1 fun f s4 L4 H4 g4 o4 q4 => ?_
      cases f with
      | next => obtain ⟨m, L5, hm, hs, hI'⟩ := q4; exact ⟨m, hm, L5, H4.sel hs, g4, o4, hI'⟩
      | cont => obtain ⟨m, L5, hm, hs, hI'⟩ := q4; exact ⟨m, hm, L5, H4.sel hs, g4, o4, hI'⟩
      | brk => exact ⟨L4, H4, g4, o4, q4⟩
      | ret v => exact ⟨L4, H4, g4, o4, q4⟩
theorem tr_letGoName {x : Str} {pos : Pos} {it v : Value} {Q : Unit → List Cell → Prop} (h : Q () L) : Tr c (letOwnedTupleGo (.Name x pos) it v) L Q := Tr.pure' h
theorem tr_assignName {x : Str} {pos : Pos} {v : Value} {Q : Unit → List Cell → Prop} (h : Tr c (storeName env x v) L Q) : Tr c (assign (.Name x pos) env v) L Q := fun s H g o => wpAny_assign_Name (h s H g o)
theorem tr_iterList {l : Addr} {vs : List Value} {Q : Value → List Cell → Prop} (hl : (l, pList vs) ∈ L) (h : ∀ it, Q (.ref it) ((it, pLIter l 0) :: L)) : Tr c (pyIter (.ref l)) L Q := fun s H g o =>
  wpAny_pyIter_list (H.list hl) ⟨_, H.push (P := pLIter l 0) rfl rfl, g, o, h _⟩
theorem tr_iterSub {x C d : Addr} {vs : List Value} {Q : Value → List Cell → Prop} (B : Bs K c mg mb) (S : ListSub K C) (hx : (x, pSub C d vs) ∈ L) (h : ∀ it, Q (.ref it) ((it, pLIter x 0) :: L)) : Tr c (pyIter (.ref x)) L Q := fun s H g o => by
  obtain ⟨ox, ex, k, rfl⟩ := H.at hx
  exact pyIter_sub (B.X.keeps H.keep) S ex rfl ⟨_, H.push (P := pLIter x 0) rfl rfl, g, o, h _⟩
theorem tr_lenSub {x C d : Addr} {vs : List Value} {Q : Value → List Cell → Prop} (B : Bs K c mg mb) (S : ListSub K C) (hx : (x, pSub C d vs) ∈ L) (hz : vs.length ≤ sizeLine) (h : ∀ t, Q (.int vs.length t) L) : Tr c (call (.builtin "len") [.ref x] []) L Q := fun s H g o => by
  obtain ⟨ox, ex, k, rfl⟩ := H.at hx
  exact len_sub (B.X.keeps H.keep) S ex rfl rfl hz ⟨L, H, g, o, h _⟩
theorem tr_lenList {l : Addr} {vs : List Value} {Q : Value → List Cell → Prop} (hl : (l, pList vs) ∈ L) (hz : vs.length ≤ sizeLine) (h : ∀ t, Q (.int vs.length t) L) : Tr c (call (.builtin "len") [.ref l] []) L Q := fun s H g o =>
  call_len_list (H.list hl) (by rw [List.size_toArray]; have : sizeLine = 2 ^ 24 := rfl; omega) (by rw [List.size_toArray]; exact ⟨L, H, g, o, h _⟩)
theorem tr_truthySub {x C d : Addr} {vs : List Value} {Q : Bool → List Cell → Prop} (B : Bs K c mg mb) (S : ListSub K C) (hx : (x, pSub C d vs) ∈ L) (hz : vs.length ≤ sizeLine) (h : Q (!vs.isEmpty) L) : Tr c (truthy (.ref x)) L Q := fun s H g o => by
  obtain ⟨ox, ex, k, rfl⟩ := H.at hx
  exact truthy_sub (B.X.keeps H.keep) S ex rfl rfl hz ⟨L, H, g, o, h⟩
theorem tr_truthyList {l : Addr} {vs : List Value} {Q : Bool → List Cell → Prop} (hl : (l, pList vs) ∈ L) (hz : vs.length ≤ sizeLine) (h : Q (!vs.isEmpty) L) : Tr c (truthy (.ref l)) L Q := fun s H g o =>
  wpAny_truthy_list (H.list hl) (by rw [List.size_toArray]; have : sizeLine = 2 ^ 24 := rfl; omega) ⟨L, H, g, o, by rw [List.isEmpty_toArray]; exact h⟩
theorem tr_truthyNone {Q : Bool → List Cell → Prop} (h : Q false L) : Tr c (truthy .none) L Q := Tr.ofEq (t' := pure false) rfl (Tr.pure' h)
end
end Mine
namespace Mine
def pDict (c : Cx) (kvs : List (Str × Value)) (o : Obj) : Prop := o.IsDictOf (strKind c.prog c.w) kvs
theorem Own.dict {c : Cx} {h : Heap} {L : List Cell} (H : Own c.h₀ h L) {a : Addr} {kvs : List (Str × Value)} (hm : (a, pDict c kvs) ∈ L) : h.DictOf (strKind c.prog c.w) a kvs := by
  obtain ⟨o, e, p⟩ := H.at hm
  exact Heap.dictOf_iff.mpr ⟨o, e, p⟩

section
variable {prog : Program} {w : World} {A : Around} {s : Shared} {K : Frag} {x C d : Addr} {ox : Obj} {od : Option Obj}
theorem nsSet_sz {M : Model} {E : Value → Shared → Prop} {o : Obj} {k : Nat} {m : Str → Option Value} {name : Str} {v : Value} {Q : Unit → Shared → Prop} (ho : s.heap.get? d = some o) (hp : pAttr k m o)
    (hQ : ∀ h' o', h'.get? d = some o' → pAttr (k + 1) (fun y => if y = name then some v else m y) o' → Heap.SameBut d s.heap h' → Q () { s with heap := h', toks := s.toks + 1 }) : wpAny M A (nsSet d name v) Q E s := by
  obtain ⟨es, ep, hd, hk, hm, hz⟩ := hp
  have hany : es.any (·.refKey) = false := by
    rw [Array.any_eq_false']; intro e he; obtain ⟨n, t, h⟩ := hk e he; simp [DictEntry.refKey, h]
  unfold nsSet
  refine wpAny_bind (wpAny_bind (wpAny_askSetting (wpAny_pure (wpAny_bind (wpAny_mkText (wpAny_bind (wpAny_loadPart ho ?_)))))))
  simp only [hd, aRefKeyMayBeTheName_eq, aRefKeyMayBeTheNameByArray, hany, Bool.and_false, Bool.false_eq_true, if_false]
  refine wpAny_updatePart ho ?_
  obtain ⟨c, dd, dt, sl⟩ := o
  dsimp only at hd
  subst hd
  cases hi : es.findIdx? (·.key.isStr name) with
  | some i =>
    refine hQ _ _ (Heap.get?_update_self _ ho (by simp only [Obj.putName_eq, Obj.putNameByArray, hi]; rfl)) ⟨_, ep, by simp only [Obj.putName_eq, Obj.putNameByArray, hi]; rfl, hk.modify _ _, fun x => ?_, by rw [Array.size_modify]; omega⟩ (Heap.SameBut.update ..)
    show _ = if x = name then some v else m x
    rw [← hm]; exact findBy_modify (fun n v => v.isStr n) Value.isStr_inj es name x v i hi
  | none =>
    refine hQ _ _ (Heap.get?_update_self _ ho (by simp only [Obj.putName_eq, Obj.putNameByArray, hi]; rfl)) ⟨_, ep + 1, by simp only [Obj.putName_eq, Obj.putNameByArray, hi]; rfl, hk.push _ _ _ _, fun x => ?_, by rw [Array.size_push]; omega⟩ (Heap.SameBut.update ..)
    show _ = if x = name then some v else m x
    rw [← hm]
    exact findBy_push (fun n v => v.isStr n) es name x _ _ v (fun y => by
      show (name == y) = decide (y = name)
      by_cases h : y = name
      · subst h; simp
      · have : ¬ name = y := fun e => h e.symm
        simp [h, this]) hi
theorem osa_ns {o : Obj} {k : Nat} {m : Str → Option Value} {name : Str} {tk : Tok} {v : Value} {R : Result → Shared → Prop} (X : K.In s.heap) (I : InstAt s.heap x ox C od) (hod : ox.dict = some d) (ho : s.heap.get? d = some o) (hp' : pAttr k m o) (hz : k ≤ 1000)
    (hp : plainOver K C = true) (ht : takerIn K C name = some none) (hh : hasDictIn K C = true)
    (h : ∀ h' o', h'.get? d = some o' → pAttr (k + 1) (fun y => if y = name then some v else m y) o' → Heap.SameBut d s.heap h' → R (.ok (.ret .none)) { s with heap := h', toks := s.toks + 1 }) :
    codeAny (model prog w) A (.call (.builtin "object.__setattr__") ⟨[.ref x, .str name tk, v], []⟩) R s := by
  refine osa_open X I hp ht fun b => ?_
  obtain ⟨cd, hc, hd'⟩ := any_some hh
  obtain ⟨hx', hcl, hn', -⟩ := I
  obtain ⟨oc, odi, oda, osl⟩ := ox
  dsimp only at hcl hod
  subst hcl hod
  refine wpAny_bind (wpAny_pure (wpAny_bind (wpAny_bind (wpAny_loadPart hx' (wpAny_bind ((looks_clsIn X hc).here ?_))))))
  rw [hd']
  refine wpAny_pure (a := some d) (wpAny_bind (wpAny_pure (wpAny_bind ?_)))
  refine nsSet_sz ho hp' fun h' o' e' p' hs' => ?_
  obtain ⟨es, ep, hdt, _, _, hz'⟩ := id p'
  exact wpAny_bind (wpAny_lookBehind e' (by rw [hdt]; exact pastItsLine_dict (by rw [sizeLine_eq]; omega)) (wpAny_pure (h h' o' e' p' hs')))
end
section
variable {K : Frag} {mg mb : Str → Option Value} {c : Cx} {L : List Cell} {env : Env} {n : Nat} {pos : Pos}
theorem tr_setAttr {k : Nat} {x C d : Addr} {P : Obj → Prop} {m : Str → Option Value} {name : Str} {v : Value} {L' : List Cell} {Q : Unit → List Cell → Prop} (B : Bs K c mg mb) (hx : (x, P) ∈ L)
    (hP : ∀ o, P o → o.cls = .ref C ∧ o.dict = some d ∧ notCls o = true) (U : Upd1 d (pAttr k m) (pAttr (k + 1) fun y => if y = name then some v else m y) L L')
    (hs : findIn K (.ref C) "__setattr__" = some (some (.builtin "object.__setattr__"))) (hp : plainOver K C = true) (ht : takerIn K C name = some none) (hh : hasDictIn K C = true)
    (h : Q () L') (hz : k ≤ 1000 := by decide) : Tr c (setAttr (.ref x) name v) L Q := by
  intro s H g o
  obtain ⟨ox, od, I, hl⟩ := H.inst hx hP U.mem
  obtain ⟨oa, ea, pa⟩ := H.at U.mem
  have X := B.X.keeps H.keep
  have hod : ox.dict = some d := by
    obtain ⟨o', e', p'⟩ := H.at hx
    have := I.at_
    rw [e'] at this
    cases this
    exact (hP _ p').2.1
  refine set_plain X I hs (osa_ns (s := { s with toks := s.toks + 1 }) X I hod ea pa hz hp ht hh fun h' o' e' p' hs' => ?_)
  exact ⟨L', H.upd U hs' e' p', g, o, h⟩

theorem Own.dictP {c : Cx} {h : Heap} {L : List Cell} (H : Own c.h₀ h L) {a : Addr} {P : Obj → Prop} {kvs : List (Str × Value)} (hm : (a, P) ∈ L) (hP : ∀ o, P o → pDict c kvs o) : h.DictOf (strKind c.prog c.w) a kvs := by
  obtain ⟨o, e, p⟩ := H.at hm
  exact Heap.dictOf_iff.mpr ⟨o, e, hP o p⟩
theorem tr_dictGet {P : Obj → Prop} {d : Addr} {kvs : List (Str × Value)} {k : Str} {t : Tok} {v : Value} {Q : Value → List Cell → Prop} (hd : (d, P) ∈ L) (hP : ∀ o, P o → pDict c kvs o) (hv : valueAt kvs k = some v) (h : Q v L) : Tr c (getItem (.ref d) (.str k t)) L Q := fun s H g o =>
  wpAny_getItem_of (knd := strKind c.prog c.w) (strKind_is _ _ k t) (H.dictP hd hP).mapOf hv ⟨L, H, g, o, h⟩
theorem tr_dictIn {P : Obj → Prop} {d : Addr} {kvs : List (Str × Value)} {k : Str} {t : Tok} {Q : Value → List Cell → Prop} (hd : (d, P) ∈ L) (hP : ∀ o, P o → pDict c kvs o) (h : Q (.bool (valueAt kvs k).isSome) L) : Tr c (compareOp .In (.str k t) (.ref d)) L Q := fun s H g o =>
  wpAny_in_of (knd := strKind c.prog c.w) (strKind_is _ _ k t) (H.noSys hd) (H.dictP hd hP).mapOf ⟨L, H, g, o, h⟩
theorem tr_dictNotIn {P : Obj → Prop} {d : Addr} {kvs : List (Str × Value)} {k : Str} {t : Tok} {Q : Value → List Cell → Prop} (hd : (d, P) ∈ L) (hP : ∀ o, P o → pDict c kvs o) (h : Q (.bool (!(valueAt kvs k).isSome)) L) : Tr c (compareOp .NotIn (.str k t) (.ref d)) L Q := fun s H g o =>
  wpAny_notIn_of (knd := strKind c.prog c.w) (strKind_is _ _ k t) (H.noSys hd) (H.dictP hd hP).mapOf ⟨L, H, g, o, h⟩
def pDictE (c : Cx) (ep : Nat) (kvs : List (Str × Value)) (o : Obj) : Prop := ∃ es, o.ExactDict ∧ o.data = .dict es ep ∧ KeysOf (strKind c.prog c.w) es ∧ Pairs (strKind c.prog c.w) es.toList kvs ∧ (kvs.map (·.1)).Nodup
theorem pDictE_dict {ep : Nat} {kvs : List (Str × Value)} : ∀ o, pDictE c ep kvs o → pDict c kvs o := fun o ⟨es, r⟩ => ⟨es, ep, r⟩
theorem pDict_open {kvs : List (Str × Value)} : ∀ o, pDict c kvs o → ∃ ep, pDictE c ep kvs o := fun o ⟨es, ep, r⟩ => ⟨ep, es, r⟩
theorem pDict_refl {kvs : List (Str × Value)} : ∀ o, pDict c kvs o → pDict c kvs o := fun _ h => h
theorem Own.dictE {c : Cx} {h : Heap} {L : List Cell} (H : Own c.h₀ h L) {a : Addr} {ep : Nat} {kvs : List (Str × Value)} (hm : (a, pDictE c ep kvs) ∈ L) : h.DictAt (strKind c.prog c.w) a kvs ep := by
  obtain ⟨o, e, es, r⟩ := H.at hm
  exact ⟨o, es, e, r⟩
theorem tr_dictSet {d : Addr} {kvs : List (Str × Value)} {k : Str} {t : Tok} {v : Value} {L' : List Cell} {Q : Unit → List Cell → Prop} (U : Upd1 d (pDict c kvs) (pDict c (stored kvs k v)) L L') (hz : kvs.length ≤ sizeLine) (h : Q () L') : Tr c (setItem (.ref d) (.str k t) v) L Q := fun s H g o =>
  wpAny_setItem_pairs (knd := strKind c.prog c.w) (strKind_is _ _ k t) (H.dict U.mem) (fun h' hm hs => by
    obtain ⟨o', e', p'⟩ := Heap.dictOf_iff.mp hm
    exact ⟨L', H.upd U hs e' p', g, o, h⟩) hz
theorem tr_dictDel {d : Addr} {kvs : List (Str × Value)} {k : Str} {t : Tok} {L' : List Cell} {Q : Unit → List Cell → Prop} (U : Upd1 d (pDict c kvs) (pDict c (without kvs k)) L L') (hz : kvs.length ≤ sizeLine) (hk : (valueAt kvs k).isSome = true) (h : Q () L') : Tr c (delItem (.ref d) (.str k t)) L Q := fun s H g o => by
  have hD := H.dict U.mem
  refine wpAny_delItem_slot hD.typeIs (by decide) PySem.F.slot_dict_delitem (call_meetsIn PySem.F.slot_dict_delitem hD.typeIs PySem.F.entry_dict_delitem (PySem.F.args_dict_delitem_2 _ _) (meets_dict_delitem_pairs (strKind c.prog c.w) d (strKind_is _ _ k t)) ⟨kvs, hD, hz, hk, fun h' hm hs => ?_⟩)
  obtain ⟨o', e', p'⟩ := Heap.dictOf_iff.mp hm
  exact ⟨L', H.upd U hs e' p', g, o, h⟩
theorem tr_dictCopy {d : Addr} {kvs : List (Str × Value)} {Q : Value → List Cell → Prop} (hd : (d, pDict c kvs) ∈ L) (hz : kvs.length ≤ sizeLine) (h : ∀ a, Q (.ref a) ((a, pDict c kvs) :: L)) : Tr c (call (.builtin "dict.copy") [.ref d] []) L Q := fun s H g o => by
  have hD := H.dict hd
  refine call_meetsIn PySem.F.slot_dict_copy hD.typeIs PySem.F.entry_dict_copy (PySem.F.args_dict_copy_1 _) (meets_dict_copy (strKind c.prog c.w) d (H.noSys hd)) ⟨kvs, hD, hz, fun h' hm hm' hk => ?_⟩
  refine ⟨(s.heap.objs.size, pDict c kvs) :: L, ?_, g, o, h _⟩
  obtain ⟨o', e', p'⟩ := Heap.dictOf_iff.mp hm
  refine ⟨fun b o e => hk b o (H.keep b o e), fun c' m' => ?_, fun c' m' => ?_, fun c' m' => ?_, ?_, H.lim⟩
  · rcases List.mem_cons.mp m' with rfl | m'
    · exact ⟨o', e', p'⟩
    · obtain ⟨o2, e2, p2⟩ := H.has c' m'
      exact ⟨o2, hk _ _ e2, p2⟩
  · rcases List.mem_cons.mp m' with rfl | m'
    · exact H.none
    · exact H.new c' m'
  · rcases List.mem_cons.mp m' with rfl | m'
    · exact H.two
    · exact H.hi c' m'
  · rw [List.map_cons, List.nodup_cons]
    refine ⟨fun hm => ?_, H.nd⟩
    obtain ⟨c', hc, e⟩ := List.mem_map.mp hm
    exact absurd (H.lt hc) (by rw [e]; exact Nat.lt_irrefl _)
theorem tr_Dict {Q : Value → List Cell → Prop} (h : ∀ a, Q (.ref a) ((a, pDict c []) :: L)) : Tr c (eval (.Dict [] [] pos) env) L Q := fun s H g o =>
  wpAny_Dict_empty ⟨_, H.push (P := pDict c []) ⟨#[], 0, ⟨rfl, rfl, rfl⟩, rfl, fun e he => (by simp at he), .nil, List.nodup_nil⟩ rfl, g, o, h _⟩
theorem tr_add {a b : Int} {t u : Tok} {Q : Value → List Cell → Prop} (h : ∀ k, Q (.int (a + b) k) L) : Tr c (binaryOp .Add (.int a t) (.int b u)) L Q := fun s H g o => PySem.P.add_int ⟨L, H, g, o, h _⟩
theorem tr_iadd {a b : Int} {t u : Tok} {Q : Value → List Cell → Prop} (h : ∀ k, Q (.int (a + b) k) L) : Tr c (inplaceOp .Add (.int a t) (.int b u)) L Q := fun s H g o => PySem.P.iadd_int ⟨L, H, g, o, h _⟩
theorem tr_sub {a b : Int} {t u : Tok} {Q : Value → List Cell → Prop} (h : ∀ k, Q (.int (a - b) k) L) : Tr c (binaryOp .Sub (.int a t) (.int b u)) L Q := fun s H g o => PySem.P.sub_int ⟨L, H, g, o, h _⟩
theorem tr_mul {a b : Int} {t u : Tok} {Q : Value → List Cell → Prop} (hm : IntMulOk a b) (h : ∀ k, Q (.int (a * b) k) L) : Tr c (binaryOp .Mult (.int a t) (.int b u)) L Q := fun s H g o => PySem.P.mul_int ⟨L, H, g, o, h _⟩ hm
theorem tr_neg {a : Int} {t : Tok} {Q : Value → List Cell → Prop} (h : ∀ k, Q (.int (-a) k) L) : Tr c (unaryOp .USub (.int a t)) L Q := fun s H g o => PySem.P.neg_int ⟨L, H, g, o, h _⟩
theorem tr_gt {a b : Int} {t u : Tok} {Q : Value → List Cell → Prop} (h : Q (.bool (decide (a > b))) L) : Tr c (compareOp .Gt (.int a t) (.int b u)) L Q := fun s H g o => PySem.P.gt_int ⟨L, H, g, o, h⟩
theorem tr_lt {a b : Int} {t u : Tok} {Q : Value → List Cell → Prop} (h : Q (.bool (decide (a < b))) L) : Tr c (compareOp .Lt (.int a t) (.int b u)) L Q := fun s H g o => PySem.P.lt_int ⟨L, H, g, o, h⟩
theorem tr_le {a b : Int} {t u : Tok} {Q : Value → List Cell → Prop} (h : Q (.bool (decide (a ≤ b))) L) : Tr c (compareOp .LtE (.int a t) (.int b u)) L Q := fun s H g o => PySem.P.le_int ⟨L, H, g, o, h⟩
theorem tr_ge {a b : Int} {t u : Tok} {Q : Value → List Cell → Prop} (h : Q (.bool (decide (a ≥ b))) L) : Tr c (compareOp .GtE (.int a t) (.int b u)) L Q := fun s H g o => PySem.P.ge_int ⟨L, H, g, o, h⟩
theorem tr_eq {a b : Int} {t u : Tok} {Q : Value → List Cell → Prop} (h : Q (.bool (a == b)) L) : Tr c (compareOp .Eq (.int a t) (.int b u)) L Q := fun s H g o => PySem.P.eq_int ⟨L, H, g, o, h⟩
theorem tr_ne {a b : Int} {t u : Tok} {Q : Value → List Cell → Prop} (h : Q (.bool (a != b)) L) : Tr c (compareOp .NotEq (.int a t) (.int b u)) L Q := fun s H g o => PySem.P.ne_int ⟨L, H, g, o, h⟩
theorem tr_truthyInt {a : Int} {t : Tok} {Q : Bool → List Cell → Prop} (h : Q (a != 0) L) : Tr c (truthy (.int a t)) L Q := fun s H g o => PySem.P.truthy_int ⟨L, H, g, o, h⟩
end
end Mine
namespace Mine

theorem ints_len : ∀ {vs : List Value} {ns : List Int}, IntsAre vs ns → vs.length = ns.length
  | _, _, .nil => rfl
  | _, _, .cons n t h => by rw [List.length_cons, List.length_cons, ints_len h]
theorem ints_get : ∀ {vs : List Value} {ns : List Int}, IntsAre vs ns → ∀ {i : Nat} {n : Int}, ns[i]? = some n → ∃ t, vs[i]? = some (.int n t)
  | _, _, .nil, _, _, e => by simp at e
  | _, _, .cons n t h, 0, m, e => by simp at e; subst e; exact ⟨t, rfl⟩
  | _, _, .cons n t h, i + 1, m, e => by simp only [List.getElem?_cons_succ] at e ⊢; exact ints_get h e
theorem ints_none {vs : List Value} {ns : List Int} (h : IntsAre vs ns) {i : Nat} (e : ns[i]? = none) : vs[i]? = none := by
  rw [List.getElem?_eq_none_iff] at e ⊢; rw [ints_len h]; exact e
theorem ints_app : ∀ {vs : List Value} {ns : List Int} {us : List Value} {ms : List Int}, IntsAre vs ns → IntsAre us ms → IntsAre (vs ++ us) (ns ++ ms)
  | _, _, _, _, .nil, h => h
  | _, _, _, _, .cons n t h, h' => .cons n t (ints_app h h')
theorem ints_take : ∀ (k : Nat) {vs : List Value} {ns : List Int}, IntsAre vs ns → IntsAre (vs.take k) (ns.take k)
  | 0, _, _, _ => .nil
  | k + 1, _, _, .nil => .nil
  | k + 1, _, _, .cons n t h => .cons n t (ints_take k h)
theorem ints_drop : ∀ (k : Nat) {vs : List Value} {ns : List Int}, IntsAre vs ns → IntsAre (vs.drop k) (ns.drop k)
  | 0, _, _, h => h
  | k + 1, _, _, .nil => .nil
  | k + 1, _, _, .cons n t h => ints_drop k h
theorem ints_one (i : Int) (t : Tok) : IntsAre [.int i t] [i] := .cons i t .nil
theorem ints_erase : ∀ {vs : List Value} {ns : List Int} (x : Int), IntsAre vs ns → x ∈ ns → ∃ j, ∃ hj : j < vs.length, (∃ t, vs[j] = .int x t) ∧ (∀ m (hm : m < vs.length), m < j → isInt x vs[m] = false) ∧ IntsAre (vs.eraseIdx j) (ns.erase x)
  | _, _, x, .nil, h => nomatch h
  | _, _, x, .cons (vs := vs) (ns := ns) n t h, hx => by
    by_cases e : n = x
    · subst e
      refine ⟨0, by simp, ⟨t, rfl⟩, fun m hm q => by omega, ?_⟩
      rw [List.erase_cons_head]
      exact h
    · have hx' : x ∈ ns := by
        rcases List.mem_cons.mp hx with q | q
        · exact absurd q.symm e
        · exact q
      obtain ⟨j, hj, a, b, d⟩ := ints_erase x h hx'
      refine ⟨j + 1, by simp; exact hj, ?_, fun m hm q => ?_, ?_⟩
      · simpa using a
      · cases m with
        | zero => show (n == x) = false; exact beq_eq_false_iff_ne.mpr e
        | succ m => exact b m (by simpa using hm) (by omega)
      · rw [List.erase_cons_tail (by simpa using e)]
        exact .cons n t d

def pInts (ns : List Int) (o : Obj) : Prop := ∃ vs, IntsAre vs ns ∧ pList vs o
def pDomL (C d : Addr) (ns : List Int) (o : Obj) : Prop := ∃ vs, IntsAre vs ns ∧ pSub C d vs o
theorem pDomL_is {C d : Addr} {ns : List Int} : ∀ o, pDomL C d ns o → o.cls = .ref C ∧ o.dict = some d ∧ notCls o = true := fun o p => by obtain ⟨_, _, p⟩ := p; exact pSub_is o p
def SeqI (P : Obj → Prop) (ns : List Int) : Prop := ∀ o, P o → ∃ vs n, IntsAre vs ns ∧ o.data = .seq vs.toArray n
theorem pInts_seq {ns : List Int} : SeqI (pInts ns) ns := fun o ⟨vs, h, n, e⟩ => ⟨vs, n, h, by rw [e]⟩
theorem pDomL_seq {C d : Addr} {ns : List Int} : SeqI (pDomL C d ns) ns := fun o ⟨vs, h, n, e⟩ => ⟨vs, n, h, by rw [e]⟩

section
variable {prog : Program} {w : World} {A : Around} {E : Value → Shared → Prop} {s : Shared} {K : Frag} {x C : Addr} {ox : Obj} {od : Option Obj}
open Builtin in
theorem remove_loop_sub (l : Addr) (o : Obj) (items : Array Value) (n : Nat) (x : Value) (e : Value → Bool) (he : ∀ y, y ∈ items → MeetsSeq.EqGives y x (e y)) (j : Nat) (hj : j < items.size) (hit : e items[j] = true) (k : Nat) (hs1 : items.size ≤ sizeLine) (hod : o.data = .seq items n) :
    ∀ i : Nat, j - i = k → i ≤ j → (∀ m (hm : m < items.size), i ≤ m → m < j → e items[m] = false) → Meets (Builtin.«list.remove.loop» ⟨[.ref l, x, rawInt i], []⟩)
      (fun _ R s => s.heap.get? l = some o ∧ R (.ok (.ret .none)) { s with heap := s.heap.update l (Obj.mapSeq fun xs => xs.eraseIdxIfInBounds j) }) := by
  obtain ⟨cl, di, da, sl⟩ := o
  dsimp only at hod
  subst hod
  induction k with
  | zero =>
    intro i hk hij hno prog w A R s h
    obtain ⟨hp, g, d, tk, os⟩ := s; obtain ⟨hl, h⟩ := h
    have hij' : i = j := by omega
    subst hij'
    wp_walk using AutoSeq1.wpAny_loadPart' hl
    have hi : items[((i : Nat) : Int).toNat]? = some items[i] := by simp [hj]
    rw [hi]
    refine wpAny_bind (he _ (Array.getElem_mem hj) prog w _ _ _ _ ?_)
    rw [hit]
    have hz' : (items.eraseIdxIfInBounds i).size ≤ sizeLine + 1 := Nat.le_trans (MeetsSeq.size_erased items _) (Nat.le_succ_of_le hs1)
    wp_walk using (wpAny_updateSeq hl rfl (hz := hs1) (_hz' := hz')), AutoSeq1.wpAny_loadPart' hl
    simpa using h
  | succ k ih =>
    intro i hk hij hno prog w A R s h
    obtain ⟨hp, g, d, tk, os⟩ := s; obtain ⟨hl, h⟩ := h
    have hlt : i < items.size := by omega
    wp_walk using AutoSeq1.wpAny_loadPart' hl
    have hi : items[((i : Nat) : Int).toNat]? = some items[i] := by simp [hlt]
    have hc : ((i : Int) + 1) = ((i + 1 : Nat) : Int) := by push_cast; rfl
    rw [hi]
    refine wpAny_bind (he _ (Array.getElem_mem hlt) prog w _ _ _ _ ?_)
    rw [hno i hlt (Nat.le_refl _) (by omega)]
    wp_walk
    rw [hc]
    exact ⟨plainId_quiet MeetsSeq.plain_remove_loop _, codeAny_builtin MeetsSeq.entry_remove_loop (by
      rw [Around.under_plainId MeetsSeq.plain_remove_loop _]
      exact ih (i + 1) (by omega) (by omega) (fun m hm h1 h2 => hno m hm (by omega) h2) prog w A R _ ⟨hl, h⟩)⟩
open Builtin in
theorem remove_sub (l : Addr) (o : Obj) (items : Array Value) (n : Nat) (x : Value) (e : Value → Bool) (he : ∀ y, y ∈ items → MeetsSeq.EqGives y x (e y)) (j : Nat) (hj : j < items.size)
    (hit : e items[j] = true) (hno : ∀ m (hm : m < items.size), m < j → e items[m] = false) (hs1 : items.size ≤ sizeLine) (hod : o.data = .seq items n) :
    Meets (Builtin.«list.remove» ⟨[.ref l, x], []⟩)
      (fun _ R s => s.heap.get? l = some o ∧ R (.ok (.ret .none)) { s with heap := s.heap.update l (Obj.mapSeq fun xs => xs.eraseIdxIfInBounds j) }) := by
  intro prog w A R s h
  obtain ⟨hp, g, d, tk, os⟩ := s; obtain ⟨hl, h⟩ := h
  wp_walk using AutoSeq1.wpAny_loadPart' hl
  exact ⟨plainId_quiet MeetsSeq.plain_remove_loop _, codeAny_builtin MeetsSeq.entry_remove_loop (by
    rw [Around.under_plainId MeetsSeq.plain_remove_loop _]
    exact remove_loop_sub l o items n x e he j hj hit _ hs1 hod 0 rfl (Nat.zero_le _) (fun m hm _ h2 => hno m hm h2) prog w A R _ ⟨hl, h⟩)⟩
open Builtin in
theorem extend_sub (l : Addr) (o : Obj) (items : Array Value) (n : Nat) (b : Addr) (items2 : Array Value) (n2 : Nat) (hs : items.size + items2.size ≤ sizeLine) (hod : o.data = .seq items n) :
    Meets (Builtin.«list.extend» ⟨[.ref l, .ref b], []⟩) (fun _ R s => s.heap.get? l = some o ∧ s.heap.get? b = some { cls := .type "list", dict := none, data := .seq items2 n2, slots := #[] } ∧ R (.ok (.ret Value.none)) { s with heap := s.heap.update l (Obj.mapSeq fun x => x ++ items2) }) := by
  intro prog w A R s h
  obtain ⟨hp, g, d, tk, os⟩ := s; obtain ⟨hl, hb, h⟩ := h
  obtain ⟨cl, di, da, sl⟩ := o
  dsimp only at hod
  subst hod
  have hz' : (items ++ items2).size ≤ sizeLine + 1 := by rw [Array.size_append]; omega
  have hc1 : items.size ≤ sizeLine := by omega
  have hc0 : ¬(!items.isEmpty && Builtin.List.listTooLong (items.size + items2.size)) = true := by
    have : Builtin.List.listTooLong (items.size + items2.size) = false := by
      unfold Builtin.List.listTooLong
      have : sizeLine = 2 ^ 24 := rfl
      first | (simp; omega) | skip
    rw [this]; simp
  show wpAny _ _ (Builtin.List.listExtendWith (.ref l) (.ref b) .none) _ _ _
  unfold Builtin.List.listExtendWith
  refine wpAny_bind (wpAny_typeOf ⟨_, hb, rfl⟩ ?_)
  have h1 : (Builtin.List.listSameRef (.ref l) (.ref b) || Value.type "list" == Value.type "list" || Value.type "list" == Value.type "tuple") = true := by simp
  simp only [h1, if_true]
  refine wpAny_bind ?_
  unfold Builtin.List.listItems
  refine wpAny_bind (wpAny_seqItems hb rfl (wpAny_pure ?_))
  refine wpAny_bind ?_
  refine wpAny_bind (wpAny_seqItems hl rfl (wpAny_pure ?_))
  rw [if_neg hc0]
  refine wpAny_bind (m := updateSeq l (· ++ items2)) (wpAny_updateSeq hl rfl (hz := hc1) (_hz' := hz') ?_)
  exact wpAny_pure h
end
end Mine
namespace Mine
theorem pop_last (vs : List Value) (v : Value) : (vs ++ [v]).eraseIdx vs.length = vs := by
  rw [List.eraseIdx_append_of_length_le (Nat.le_refl _)]; simp
theorem ints_last : ∀ {us : List Value} {ns : List Int} {i : Int}, IntsAre us (ns ++ [i]) → ∃ vs t, us = vs ++ [.int i t] ∧ IntsAre vs ns
  | _, [], i, .cons _ t .nil => ⟨[], t, rfl, .nil⟩
  | _, n :: ns, i, .cons _ t h => by
    obtain ⟨vs, u, rfl, hv⟩ := ints_last h
    exact ⟨.int n t :: vs, u, rfl, .cons n t hv⟩
theorem mapSeq_is {cl : Value} {di : Option Addr} {xs : Array Value} {k : Nat} {f : Array Value → Array Value} {vs : List Value} (e : f xs = vs.toArray) : ∃ n, Obj.mapSeq f { cls := cl, dict := di, data := .seq xs k, slots := #[] } = { cls := cl, dict := di, data := .seq vs.toArray n, slots := #[] } := by
  rw [← e]; exact ⟨_, rfl⟩
theorem sel_mid {L X : List Cell} {p : Cell} : Sel (p :: (L ++ X)) (L ++ p :: X) := ⟨[], by rw [List.append_nil]; exact List.perm_middle⟩
section
variable {K : Frag} {mg mb : Str → Option Value} {c : Cx} {L : List Cell} {env : Env} {n : Nat} {pos : Pos}
theorem tr_nextInt {it l : Addr} {i : Nat} {P : Obj → Prop} {ns : List Int} {v : Int} {L' : List Cell} {Q : Option Value → List Cell → Prop} (U : Upd1 it (pLIter l i) (pLIter l (i + 1)) L L') (hl : (l, P) ∈ L) (hP : SeqI P ns) (hv : ns[i]? = some v)
    (h : ∀ t, Q (some (.int v t)) L') : Tr c (pyNext (.ref it)) L Q := fun s H g o => by
  obtain ⟨oi, ei, pi⟩ := H.at U.mem
  obtain ⟨ol, el, pl⟩ := H.at hl
  obtain ⟨vs, k, hi, hd⟩ := hP ol pl
  obtain ⟨t, ht⟩ := ints_get hi hv
  exact next_item ei pi el hd (by simpa using ht) fun h' o' e' p' hs => ⟨L', H.upd U hs e' p', g, o, h t⟩
theorem tr_nextIntEnd {it l : Addr} {i : Nat} {P : Obj → Prop} {ns : List Int} {L' : List Cell} {Q : Option Value → List Cell → Prop} (R : Rm n c.A) (U : Rem1 it (pLIter l i) L L') (hl : (l, P) ∈ L) (hP : SeqI P ns) (hv : ns[i]? = none)
    (h : Q none L') : Tr c (pyNext (.ref it)) L Q := fun s H g o => by
  obtain ⟨oi, ei, pi⟩ := H.at U.mem
  obtain ⟨ol, el, pl⟩ := H.at hl
  obtain ⟨vs, k, hi, hd⟩ := hP ol pl
  exact next_end R.hd ei pi el hd (by simpa using ints_none hi hv) fun h' hs => ⟨L', (H.perm U.perm).extBut hs, g, o, h⟩
theorem Own.ints {h₀ h : Heap} {L : List Cell} (H : Own h₀ h L) {a : Addr} {ns : List Int} (m : (a, pInts ns) ∈ L) : ∃ vs k, IntsAre vs ns ∧ h.get? a = some { cls := .type "list", dict := Option.none, data := .seq vs.toArray k, slots := #[] } := by
  obtain ⟨o, e, vs, hi, k, rfl⟩ := H.at m
  exact ⟨vs, k, hi, e⟩
theorem Own.domL {h₀ h : Heap} {L : List Cell} (H : Own h₀ h L) {a C d : Addr} {ns : List Int} (m : (a, pDomL C d ns) ∈ L) : ∃ vs k, IntsAre vs ns ∧ h.get? a = some { cls := .ref C, dict := some d, data := .seq vs.toArray k, slots := #[] } := by
  obtain ⟨o, e, vs, hi, k, rfl⟩ := H.at m
  exact ⟨vs, k, hi, e⟩
theorem sz24 : sizeLine = 2 ^ 24 := rfl
theorem tr_iterInts {l : Addr} {ns : List Int} {Q : Value → List Cell → Prop} (hl : (l, pInts ns) ∈ L) (h : ∀ it, Q (.ref it) ((it, pLIter l 0) :: L)) : Tr c (pyIter (.ref l)) L Q := fun s H g o => by
  obtain ⟨vs, k, hi, e⟩ := H.ints hl
  exact wpAny_pyIter_list (items := vs.toArray) ⟨_, e, rfl, k, rfl⟩ ⟨_, H.push (P := pLIter l 0) rfl rfl, g, o, h _⟩
theorem tr_iterDom {x C d : Addr} {ns : List Int} {Q : Value → List Cell → Prop} (B : Bs K c mg mb) (S : ListSub K C) (hx : (x, pDomL C d ns) ∈ L) (h : ∀ it, Q (.ref it) ((it, pLIter x 0) :: L)) : Tr c (pyIter (.ref x)) L Q := fun s H g o => by
  obtain ⟨vs, k, hi, e⟩ := H.domL hx
  exact pyIter_sub (B.X.keeps H.keep) S e rfl ⟨_, H.push (P := pLIter x 0) rfl rfl, g, o, h _⟩
theorem tr_lenDom {x C d : Addr} {ns : List Int} {Q : Value → List Cell → Prop} (B : Bs K c mg mb) (S : ListSub K C) (hx : (x, pDomL C d ns) ∈ L) (hz : ns.length ≤ sizeLine) (h : ∀ t, Q (.int ns.length t) L) : Tr c (call (.builtin "len") [.ref x] []) L Q := fun s H g o => by
  obtain ⟨vs, k, hi, e⟩ := H.domL hx
  exact len_sub (B.X.keeps H.keep) S e rfl rfl (by rw [ints_len hi]; exact hz) ⟨L, H, g, o, by rw [ints_len hi]; exact h _⟩
theorem tr_lenInts {l : Addr} {ns : List Int} {Q : Value → List Cell → Prop} (hl : (l, pInts ns) ∈ L) (hz : ns.length ≤ sizeLine) (h : ∀ t, Q (.int ns.length t) L) : Tr c (call (.builtin "len") [.ref l] []) L Q := fun s H g o => by
  obtain ⟨vs, k, hi, e⟩ := H.ints hl
  have := sz24
  exact call_len_list (items := vs.toArray) ⟨_, e, rfl, k, rfl⟩ (by rw [List.size_toArray, ints_len hi]; omega) (by rw [List.size_toArray, ints_len hi]; exact ⟨L, H, g, o, h _⟩)
theorem tr_truthyDom {x C d : Addr} {ns : List Int} {Q : Bool → List Cell → Prop} (B : Bs K c mg mb) (S : ListSub K C) (hx : (x, pDomL C d ns) ∈ L) (hz : ns.length ≤ sizeLine) (h : Q (!ns.isEmpty) L) : Tr c (truthy (.ref x)) L Q := fun s H g o => by
  obtain ⟨vs, k, hi, e⟩ := H.domL hx
  refine truthy_sub (B.X.keeps H.keep) S e rfl rfl (by rw [ints_len hi]; exact hz) ⟨L, H, g, o, ?_⟩
  rw [show vs.isEmpty = ns.isEmpty by cases hi <;> rfl]; exact h
theorem tr_truthyInts {l : Addr} {ns : List Int} {Q : Bool → List Cell → Prop} (hl : (l, pInts ns) ∈ L) (hz : ns.length ≤ sizeLine) (h : Q (!ns.isEmpty) L) : Tr c (truthy (.ref l)) L Q := fun s H g o => by
  obtain ⟨vs, k, hi, e⟩ := H.ints hl
  have := sz24
  refine wpAny_truthy_list (items := vs.toArray) ⟨_, e, rfl, k, rfl⟩ (by rw [List.size_toArray, ints_len hi]; omega) ⟨L, H, g, o, ?_⟩
  rw [List.isEmpty_toArray, show vs.isEmpty = ns.isEmpty by cases hi <;> rfl]; exact h
theorem tr_remove {x C d : Addr} {ns : List Int} {i : Int} {t : Tok} {L' : List Cell} {Q : Value → List Cell → Prop} (B : Bs K c mg mb) (S : ListSub K C) (U : Upd1 x (pDomL C d ns) (pDomL C d (ns.erase i)) L L') (hi : i ∈ ns) (hz : ns.length ≤ sizeLine)
    (h : Q .none L') : Tr c (call (.builtin "list.remove") [.ref x, .int i t] []) L Q := fun s H g o => by
  obtain ⟨vs, k, hv, e⟩ := H.domL U.mem
  obtain ⟨j, hj, hit, hno, ha⟩ := ints_erase i hv hi
  have key := remove_sub x { cls := .ref C, dict := some d, data := .seq vs.toArray k, slots := #[] } vs.toArray k (.int i t) (isInt i) (fun y hy => eq_isInt i t hv y (by simpa using hy)) j (by simpa using hj) (by obtain ⟨u, e⟩ := hit; show isInt i vs.toArray[j] = true; rw [List.getElem_toArray, e]; exact beq_self_eq_true i)
    (fun m hm q => by show isInt i vs.toArray[m] = false; rw [List.getElem_toArray]; exact hno m (by simpa using hm) q) (by rw [List.size_toArray, ints_len hv]; exact hz) rfl
  refine call_sub (nm := "remove") (B.X.keeps H.keep) e rfl S.mro (.inl (by decide +kernel)) (by decide +kernel) PySem.F.slot_list_remove.plain PySem.F.entry_list_remove ?_ (PySem.F.args_list_remove_2 _ _)
  refine key c.prog c.w c.A (wants (fun v s' => ∃ L', Own c.h₀ s'.heap L' ∧ c.G s'.gens ∧ s'.os = c.O ∧ Q v L') fun _ _ => False) s ⟨e, ?_⟩
  refine ⟨L', H.upd U (Heap.SameBut.update ..) (Heap.get?_update_self _ e rfl) ?_, g, o, h⟩
  exact ⟨vs.eraseIdx j, ha, mapSeq_is (by simp [Array.eraseIdxIfInBounds, hj])⟩
theorem tr_extend {x C d b : Addr} {ns ms : List Int} {L' : List Cell} {Q : Value → List Cell → Prop} (B : Bs K c mg mb) (S : ListSub K C) (U : Upd1 x (pDomL C d ns) (pDomL C d (ns ++ ms)) L L') (hb : (b, pInts ms) ∈ L) (hz : ns.length + ms.length ≤ sizeLine)
    (h : Q .none L') : Tr c (call (.builtin "list.extend") [.ref x, .ref b] []) L Q := fun s H g o => by
  obtain ⟨vs, k, hv, e⟩ := H.domL U.mem
  obtain ⟨us, k', hu, e'⟩ := H.ints hb
  have key := extend_sub x { cls := .ref C, dict := some d, data := .seq vs.toArray k, slots := #[] } vs.toArray k b us.toArray k' (by rw [List.size_toArray, List.size_toArray, ints_len hv, ints_len hu]; exact hz) rfl
  refine call_sub (nm := "extend") (B.X.keeps H.keep) e rfl S.mro (.inl (by decide +kernel)) (by decide +kernel) PySem.F.slot_list_extend.plain PySem.F.entry_list_extend ?_ (PySem.F.args_list_extend_2 _ _)
  refine key c.prog c.w c.A (wants (fun v s' => ∃ L', Own c.h₀ s'.heap L' ∧ c.G s'.gens ∧ s'.os = c.O ∧ Q v L') fun _ _ => False) s ⟨e, e', ?_⟩
  refine ⟨L', H.upd U (Heap.SameBut.update ..) (Heap.get?_update_self _ e rfl) ?_, g, o, h⟩
  exact ⟨vs ++ us, ints_app hv hu, mapSeq_is (by simp)⟩
theorem tr_appendI {l : Addr} {ns : List Int} {i : Int} {t : Tok} {L' : List Cell} {Q : Value → List Cell → Prop} (U : Upd1 l (pInts ns) (pInts (ns ++ [i])) L L') (hz : ns.length ≤ sizeLine) (h : Q .none L') : Tr c (call (.builtin "list.append") [.ref l, .int i t] []) L Q := fun s H g o => by
  obtain ⟨vs, k, hv, e⟩ := H.ints U.mem
  refine wpAny_list_append_plain (items := vs.toArray) ⟨k, e⟩ (fun h' hp hs => ?_) (by rw [List.size_toArray, ints_len hv]; exact hz)
  obtain ⟨k', e'⟩ := hp
  exact ⟨L', H.upd U hs e' ⟨vs ++ [.int i t], ints_app hv (ints_one i t), k', by simp⟩, g, o, h⟩
theorem tr_pop {l : Addr} {vs : List Value} {v : Value} {L' : List Cell} {Q : Value → List Cell → Prop} (U : Upd1 l (pList (vs ++ [v])) (pList vs) L L') (hz : vs.length + 1 ≤ sizeLine) (h : Q v L') : Tr c (call (.builtin "list.pop") [.ref l] []) L Q := fun s H g o => by
  obtain ⟨ob, e, k, rfl⟩ := H.at U.mem
  refine call_meets PySem.F.slot_list_pop ⟨_, e, rfl⟩ PySem.F.entry_list_pop (PySem.F.args_list_pop_1 _) (MeetsSeq.list_pop_last l (vs ++ [v]).toArray k v (by simp) (by simp; exact hz)) ⟨e, ?_⟩
  exact ⟨L', H.upd U (Heap.SameBut.update ..) (Heap.get?_update_self _ e rfl) (mapSeq_is (by simp [Array.eraseIdxIfInBounds]; exact pop_last vs v)), g, o, h⟩
theorem tr_popI {l : Addr} {ns : List Int} {i : Int} {L' : List Cell} {Q : Value → List Cell → Prop} (U : Upd1 l (pInts (ns ++ [i])) (pInts ns) L L') (hz : ns.length + 1 ≤ sizeLine) (h : ∀ t, Q (.int i t) L') : Tr c (call (.builtin "list.pop") [.ref l] []) L Q := fun s H g o => by
  obtain ⟨us, k, hu, e⟩ := H.ints U.mem
  obtain ⟨vs, t, rfl, hv⟩ := ints_last hu
  refine call_meets PySem.F.slot_list_pop ⟨_, e, rfl⟩ PySem.F.entry_list_pop (PySem.F.args_list_pop_1 _) (MeetsSeq.list_pop_last l (vs ++ [Value.int i t]).toArray k (Value.int i t) (by simp) (by simp; rw [ints_len hv]; exact hz)) ⟨e, ?_⟩
  exact ⟨L', H.upd U (Heap.SameBut.update ..) (Heap.get?_update_self _ e rfl) ⟨vs, hv, mapSeq_is (by simp [Array.eraseIdxIfInBounds]; exact pop_last vs _)⟩, g, o, h t⟩
end
end Mine
namespace Mine
section
variable {prog : Program} {w : World} {A : Around} {E : Value → Shared → Prop} {s : Shared} {K : Frag} {x C : Addr} {ox : Obj} {od : Option Obj}
theorem getSlice_sub {sl : Addr} {items : Array Value} {n : Nat} {vl vu vs : Value} {lo hi st : Option Int} {Q : Value → Shared → Prop} (X : K.In s.heap) (S : ListSub K C) (hq : noSeq K C = true) (hx : s.heap.get? x = some ox) (hc : ox.cls = .ref C) (hd : ox.data = .seq items n)
    (hs : s.heap.IsSliceOf sl vl vu vs) (pl : IsPart vl lo) (pu : IsPart vu hi) (ps : IsPart vs st) (h0 : st ≠ some 0) (hsz : items.size ≤ sizeLine)
    (h : Q (.ref s.heap.objs.size) { s with heap := s.heap.push { cls := .type "list", data := .seq (slicePick items lo hi st) } }) : wpAny (model prog w) A (getItem (.ref x) (.ref sl)) Q E s := by
  obtain ⟨os, hos, hcs, hds⟩ := id hs
  have hTs : s.TypeIs (.ref sl) "slice" := ⟨os, hos, hcs⟩
  have key : wpAny (model prog w) A (sequenceKey (.ref x) (.ref sl) "__getitem__") (fun k s' => k = .ref sl ∧ s' = s) E s := by
    unfold sequenceKey typeOf
    refine wpAny_bind (wpAny_bind (wpAny_loadPart hx (wpAny_pure ?_)))
    rw [hc]
    refine wpAny_bind ((anyM_none X hq).here ?_)
    rw [if_pos (show (!false) = true from rfl)]
    exact wpAny_pure ⟨rfl, rfl⟩
  unfold getItem
  refine wpAny_holding (wpAny_bind (wpAny_mono key (fun k s' hk => ?_) fun _ _ z => z))
  obtain ⟨rfl, rfl⟩ := hk
  refine wpAny_bind (special_sub X hx hc S.getitem slot_list_getitem.bind (call_sub1 (nm := "__getitem__") X hx hc S.mro (.inl (by decide +kernel)) (by decide +kernel) slot_list_getitem.plain entry_list_getitem ?_ (args_list_getitem _ _)))
  show wpAny _ _ (Builtin.List.listSubscript? (.ref sl) >>= _) _ _ s'
  refine wpAny_bind ?_
  unfold Builtin.List.listSubscript?
  refine wpAny_bind (wpAny_specialOf hTs slice_no_index ?_)
  simp only [Option.isNone_none, if_true]
  refine wpAny_pure ?_
  show wpAny _ _ (typeOf (.ref sl) >>= _) _ _ s'
  refine wpAny_bind (wpAny_typeOf hTs ?_)
  rw [if_neg (by decide)]
  rw [listSliceParts_eq]
  have hstep : ¬ ((rawPart st == rawInt 0) = true) := by
    cases st with
    | none => exact Bool.false_ne_true
    | some c =>
      intro hh
      have : c = 0 := by simpa [rawPart, rawInt] using hh
      exact h0 (by rw [this])
  refine wpAny_bind (wpAny_bind (wpAny_field hos hds (x := vs) rfl (wpAny_bind (wpAny_listPart ps ?_))))
  rw [if_neg hstep]
  refine wpAny_bind (wpAny_field hos hds (x := vl) rfl (wpAny_bind (wpAny_listPart pl ?_)))
  refine wpAny_bind (wpAny_field hos hds (x := vu) rfl (wpAny_bind (wpAny_listPart pu (wpAny_pure ?_))))
  refine wpAny_bind (m := Builtin.List.listItems (.ref x)) ?_
  unfold Builtin.List.listItems
  refine wpAny_bind (wpAny_seqItems hx hd (wpAny_pure ?_))
  refine wpAny_bind (wpAny_of_eq (sliceIndices_raw lo hi st items.size h0) ?_)
  exact wpAny_bind (wpAny_newObj_type (wpAny_pure ⟨_, rfl, wpAny_pure h⟩) (Nat.le_trans (slicePick_size_le items lo hi st) hsz))

def selMine (start stop step : Int) (i : Nat) : Bool :=
  if step > 0 then start ≤ i && i < stop && (i - start) % step == 0
  else stop < i && i ≤ start && (start - i) % (-step) == 0
theorem sel_from {α : Type} (a : Nat) : ∀ (vs : List α) (k : Nat), ((vs.zipIdx k).filterMap fun (x, i) => if selMine (a : Int) ((k + vs.length : Nat) : Int) 1 i then Option.none else some x) = vs.take (a - k)
  | [], k => by simp
  | v :: vs, k => by
    have e : ((k + 1 + vs.length : Nat) : Int) = ((k + (v :: vs).length : Nat) : Int) := by simp [Nat.add_assoc, Nat.add_comm 1]
    have ih := sel_from a vs (k + 1)
    rw [e] at ih
    rw [List.zipIdx_cons, List.filterMap_cons]
    by_cases h : a ≤ k
    · have hs : selMine (a : Int) ((k + (v :: vs).length : Nat) : Int) 1 k = true := by simp [selMine]; omega
      simp only [hs, if_true]
      rw [ih, show a - k = 0 by omega, show a - (k + 1) = 0 by omega, List.take_zero, List.take_zero]
    · have hs : selMine (a : Int) ((k + (v :: vs).length : Nat) : Int) 1 k = false := by simp [selMine]; omega
      simp only [hs, Bool.false_eq_true, if_false]
      rw [ih, show a - k = (a - (k + 1)) + 1 by omega, List.take_succ_cons]
theorem delSlice_list {l sl : Addr} {items : Array Value} {n : Nat} {vl vu vs : Value} {lo : Option Int} {a : Nat} {Q : Unit → Shared → Prop} (hl : s.heap.get? l = some { cls := .type "list", dict := none, data := .seq items n, slots := #[] })
    (hs : s.heap.IsSliceOf sl vl vu vs) (pl : IsPart vl lo) (pu : IsPart vu none) (ps : IsPart vs none) (hsz : items.size ≤ sizeLine) (hb : sliceBounds lo none none items.size = ((a : Int), (items.size : Int), 1))
    (h : ∀ h', (∃ n', h'.get? l = some { cls := .type "list", dict := none, data := .seq (items.toList.take a).toArray n', slots := #[] }) → Heap.SameBut l s.heap h' → Q () { s with heap := h' }) : wpAny (model prog w) A (delItem (.ref l) (.ref sl)) Q E s := by
  obtain ⟨os, hos, hcs, hds⟩ := id hs
  have hTs : s.TypeIs (.ref sl) "slice" := ⟨os, hos, hcs⟩
  have hTl : s.TypeIs (.ref l) "list" := ⟨_, hl, rfl⟩
  refine wpAny_delItem_slot hTl (by decide) PySem.F.slot_list_delitem (wpAny_call_entry PySem.F.slot_list_delitem hTl PySem.F.entry_list_delitem ?_ (PySem.F.args_list_delitem_2 _ _))
  show wpAny _ _ (Builtin.List.listSubscript? (.ref sl) >>= _) _ _ s
  refine wpAny_bind ?_
  unfold Builtin.List.listSubscript?
  refine wpAny_bind (wpAny_specialOf hTs slice_no_index ?_)
  simp only [Option.isNone_none, if_true]
  refine wpAny_pure ?_
  show wpAny _ _ (typeOf (.ref sl) >>= _) _ _ s
  refine wpAny_bind (wpAny_typeOf hTs ?_)
  rw [if_neg (by decide)]
  rw [listSliceParts_eq]
  refine wpAny_bind (wpAny_bind (wpAny_field hos hds (x := vs) rfl (wpAny_bind (wpAny_listPart ps ?_))))
  rw [if_neg (show ¬ ((rawPart none == rawInt 0) = true) from Bool.false_ne_true)]
  refine wpAny_bind (wpAny_field hos hds (x := vl) rfl (wpAny_bind (wpAny_listPart pl ?_)))
  refine wpAny_bind (wpAny_field hos hds (x := vu) rfl (wpAny_bind (wpAny_listPart pu (wpAny_pure ?_))))
  refine wpAny_bind (m := Builtin.List.listItems (.ref l)) ?_
  unfold Builtin.List.listItems
  refine wpAny_bind (wpAny_seqItems hl rfl (wpAny_pure ?_))
  refine wpAny_bind (wpAny_of_eq (sliceIndices_raw lo none none items.size (by simp)) ?_)
  rw [hb]
  refine wpAny_bind (wpAny_rule ?_)
  have e := sel_from a items.toList 0
  rw [Nat.zero_add, Nat.sub_zero, Array.length_toList] at e
  have hz' : ((items.toList.zipIdx.filterMap fun (x, k) => if selMine (a : Int) (items.size : Int) 1 k then Option.none else some x).toArray).size ≤ sizeLine + 1 := by
    rw [e, List.size_toArray, List.length_take]
    have := Array.length_toList (xs := items)
    omega
  refine wpAny_bind (m := updateSeq l fun xs => (xs.toList.zipIdx.filterMap fun (x, k) => if selMine (a : Int) (items.size : Int) 1 k then Option.none else some x).toArray) (wpAny_updateSeq hl rfl (hz := hsz) (_hz' := hz') ?_)
  refine wpAny_bind (wpAny_letGo (wpAny_pure ⟨_, rfl, ?_⟩))
  refine h _ ?_ (Heap.SameBut.update ..)
  obtain ⟨n', e'⟩ := mapSeq_is (cl := .type "list") (di := Option.none) (xs := items) (k := n) (f := fun xs => (xs.toList.zipIdx.filterMap fun (x, k) => if selMine (a : Int) (items.size : Int) 1 k then Option.none else some x).toArray) (vs := items.toList.take a) (congrArg List.toArray e)
  exact ⟨n', (Heap.get?_update_self _ hl rfl).trans (congrArg some e')⟩
end
end Mine
namespace Mine
theorem noref_none {P : Prop} (h : P) : (∀ a, Value.none ≠ Value.ref a) ∧ P := ⟨fun a e => (by cases e), h⟩
def FrHas (m : Str → Option Value) (ctx : List (Str × Value)) : Prop := ∀ p ∈ ctx, m p.1 = some p.2
theorem FrHas.nil {m : Str → Option Value} : FrHas m [] := fun _ h => nomatch h
theorem FrHas.cons {m : Str → Option Value} {x : Str} {v : Value} {ctx : List (Str × Value)} (h : m x = some v) (H : FrHas m ctx) : FrHas m ((x, v) :: ctx) := fun p q => by
  rcases List.mem_cons.mp q with rfl | q
  · exact h
  · exact H p q
theorem FrHas.get {m : Str → Option Value} {x : Str} {v : Value} {ctx : List (Str × Value)} (H : FrHas m ctx) (q : (x, v) ∈ ctx) : m x = some v := H _ q
def pSlice (l u st : Value) (o : Obj) : Prop := o = { cls := .type "slice", data := .fields #[l, u, st] }
section
variable {K : Frag} {mg mb : Str → Option Value} {c : Cx} {L : List Cell} {env : Env} {n : Nat} {pos : Pos}
theorem Own.sl {h₀ h : Heap} {L : List Cell} (H : Own h₀ h L) {a : Addr} {l u st : Value} (m : (a, pSlice l u st) ∈ L) : h.IsSliceOf a l u st := by
  obtain ⟨o, e, rfl⟩ := H.at m
  exact ⟨_, e, rfl, rfl⟩
theorem tr_sliceAll {p : Pos} {Q : Value → List Cell → Prop} (h : ∀ a, Q (.ref a) ((a, pSlice .none .none .none) :: L)) : Tr c (eval (.Slice none none none p) env) L Q := fun s H g o =>
  wpAny_Slice (wpAny_pure (wpAny_pure (wpAny_pure ⟨_, H.push (P := pSlice .none .none .none) rfl rfl, g, o, h _⟩)))
theorem tr_sliceFrom {e : Expr} {p : Pos} {Q : Value → List Cell → Prop} (h : Tr c (eval e env) L fun v L1 => ∀ a, Q (.ref a) ((a, pSlice v .none .none) :: L1)) : Tr c (eval (.Slice (some e) none none p) env) L Q := fun s H g o =>
  wpAny_Slice (h.use H g o fun v s1 L1 H1 g1 o1 q => wpAny_pure (wpAny_pure ⟨_, H1.push (P := pSlice v .none .none) rfl rfl, g1, o1, q _⟩))
theorem tr_letGo {base : Expr} {o r : Value} {Q : Unit → List Cell → Prop} (h : Q () L) : Tr c (letTemporaryGo base o r) L Q := by
  have key : Tr c (do let _ ← PySem.holding [r] (runValue (.builtin "proto.let_go" {}))) L Q := by
    refine Tr.bind' (Tr.holding fun s H g o => wpAny_runValue (codeAny_builtin entry_let_go ?_))
    exact wpAny_pure ⟨L, H, g, o, Tr.pure' h⟩
  unfold letTemporaryGo
  split
  · exact Tr.pure' h
  · exact key
  · exact Tr.pure' h
theorem tr_tail {value slice : Expr} {o i : Value} {Q : Value → List Cell → Prop} (hn : Tr c (getitemInPython o) L fun b L' => b = false ∧ L' = L) (h : Tr c (getItem o i) L Q)
    (hs : subscripted slice false o i = operate [o, i] (getItem o i) ∨ subscripted slice false o i = operate [i, o] (getItem o i)) : Tr c (subscriptTail value slice o i) L Q := by
  unfold subscriptTail
  refine Tr.bind' (hn.mono fun b L' e => ?_)
  obtain ⟨rfl, rfl⟩ := e
  have fin : Tr c (getItem o i) L' fun r L2 => Tr c (letTemporaryGo value o r >>= fun _ => pure r) L2 Q := h.mono fun r L2 q => Tr.bind' (tr_letGo (Tr.pure' q))
  refine Tr.bind' fun s H g o' => ?_
  rcases hs with hs | hs <;> (rw [hs]; exact wpAny_operating (fin s H g o'))
theorem tr_getMethodI {l : Addr} {ns : List Int} {name : Str} {id : String} {pl : Sem Bool} {Q : Value × List Value → List Cell → Prop} (hl : (l, pInts ns) ∈ L) (slot : Slot "list" name id) (hty : typeOf (.builtin id) = pure (.type "method_descriptor"))
    (h : Q (.builtin id, [.ref l]) L) : Tr c (getMethod (.ref l) name pl) L Q := by
  intro s H g o
  obtain ⟨vs, k, hi, e⟩ := H.ints hl
  exact getMethod_builtin ⟨_, e, rfl⟩ PySem.F.plainAttrs_list slot hty (fun a q => by cases q; exact ⟨_, e, rfl⟩) ⟨L, H, g, o, h⟩
theorem tr_getMethodD {d : Addr} {kvs : List (Str × Value)} {name : Str} {id : String} {pl : Sem Bool} {Q : Value × List Value → List Cell → Prop} (hl : (d, pDict c kvs) ∈ L) (slot : Slot "dict" name id) (hty : typeOf (.builtin id) = pure (.type "method_descriptor"))
    (h : Q (.builtin id, [.ref d]) L) : Tr c (getMethod (.ref d) name pl) L Q := by
  intro s H g o
  obtain ⟨ob, e, p⟩ := H.at hl
  obtain ⟨es, ep, hob, hrest⟩ := p
  exact getMethod_builtin (H.dict hl).typeIs PySem.F.plainAttrs_dict slot hty (fun a q => by cases q; exact ⟨_, e, hob.2.1⟩) ⟨L, H, g, o, h⟩
theorem tr_List0 {Q : Value → List Cell → Prop} (h : ∀ a, Q (.ref a) ((a, pList []) :: L)) : Tr c (eval (.List [] pos) env) L Q := tr_List (tr_args_nil ⟨Nat.zero_le _, h⟩)
theorem tr_gpList {l : Addr} {vs : List Value} (hl : (l, pList vs) ∈ L) : Tr c (getitemInPython (.ref l)) L fun b L' => b = false ∧ L' = L := fun s H g o => by
  obtain ⟨ob, e, k, rfl⟩ := H.at hl
  unfold getitemInPython
  exact wpAny_bind (wpAny_specialOf (T := "list") ⟨_, e, rfl⟩ slot_list_getitem.lookup (wpAny_pure ⟨L, H, g, o, rfl, rfl⟩))
theorem tr_gpInts {l : Addr} {ns : List Int} (hl : (l, pInts ns) ∈ L) : Tr c (getitemInPython (.ref l)) L fun b L' => b = false ∧ L' = L := fun s H g o => by
  obtain ⟨vs, k, hi, e⟩ := H.ints hl
  unfold getitemInPython
  exact wpAny_bind (wpAny_specialOf (T := "list") ⟨_, e, rfl⟩ slot_list_getitem.lookup (wpAny_pure ⟨L, H, g, o, rfl, rfl⟩))
theorem tr_gpDom {x C d : Addr} {ns : List Int} (B : Bs K c mg mb) (S : ListSub K C) (hl : (x, pDomL C d ns) ∈ L) : Tr c (getitemInPython (.ref x)) L fun b L' => b = false ∧ L' = L := fun s H g o => by
  obtain ⟨vs, k, hi, e⟩ := H.domL hl
  unfold getitemInPython
  exact wpAny_bind (specialOf_sub (B.X.keeps H.keep) e rfl S.getitem (wpAny_pure ⟨L, H, g, o, rfl, rfl⟩))
theorem tr_gpDict {P : Obj → Prop} {d : Addr} {kvs : List (Str × Value)} (hl : (d, P) ∈ L) (hP : ∀ o, P o → pDict c kvs o) : Tr c (getitemInPython (.ref d)) L fun b L' => b = false ∧ L' = L := fun s H g o => by
  unfold getitemInPython
  exact wpAny_bind (wpAny_specialOf (H.dictP hl hP).typeIs PySem.F.slot_dict_getitem.lookup (wpAny_pure ⟨L, H, g, o, rfl, rfl⟩))
theorem tr_gpTup {t : Addr} {vs : List Value} (hl : (t, pTup vs) ∈ L) : Tr c (getitemInPython (.ref t)) L fun b L' => b = false ∧ L' = L := fun s H g o => by
  obtain ⟨ob, e, k, rfl⟩ := H.at hl
  unfold getitemInPython
  exact wpAny_bind (wpAny_specialOf (T := "tuple") ⟨_, e, rfl⟩ slot_tuple_getitem.lookup (wpAny_pure ⟨L, H, g, o, rfl, rfl⟩))
theorem tr_copyDom {x C d sl : Addr} {ns : List Int} {Q : Value → List Cell → Prop} {value : Expr} {p : Pos} (B : Bs K c mg mb) (S : ListSub K C) (hq : noSeq K C = true) (hx : (x, pDomL C d ns) ∈ L) (hs : (sl, pSlice .none .none .none) ∈ L) (hz : ns.length ≤ sizeLine)
    (h : ∀ a, Q (.ref a) ((a, pInts ns) :: L)) : Tr c (subscriptTail value (.Slice none none none p) (.ref x) (.ref sl)) L Q := by
  refine tr_tail (tr_gpDom B S hx) ?_ (.inr rfl)
  intro s H g o
  obtain ⟨vs, k, hi, e⟩ := H.domL hx
  refine getSlice_sub (B.X.keeps H.keep) S hq e rfl rfl (H.sl hs) .none .none .none (by simp) (by rw [List.size_toArray, ints_len hi]; exact hz) ?_
  rw [slicePick_all]
  exact ⟨_, H.push (P := pInts ns) ⟨vs, hi, 0, rfl⟩ rfl, g, o, h _⟩
theorem tr_copyList {l sl : Addr} {vs : List Value} {Q : Value → List Cell → Prop} {value : Expr} {p : Pos} (hx : (l, pList vs) ∈ L) (hs : (sl, pSlice .none .none .none) ∈ L) (hz : vs.length ≤ sizeLine)
    (h : ∀ a, Q (.ref a) ((a, pList vs) :: L)) : Tr c (subscriptTail value (.Slice none none none p) (.ref l) (.ref sl)) L Q := by
  refine tr_tail (tr_gpList hx) ?_ (.inr rfl)
  intro s H g o
  obtain ⟨ob, e, k, rfl⟩ := H.at hx
  refine wpAny_getItem_list_slice (items := vs.toArray) ⟨_, e, rfl, k, rfl⟩ (H.sl hs) .none .none .none (by simp) ?_ (by rw [List.size_toArray]; exact hz)
  rw [slicePick_all]
  exact ⟨_, H.push (P := pList vs) ⟨0, rfl⟩ rfl, g, o, h _⟩
theorem bounds_from {a k : Nat} (hk : 0 < k) : sliceBounds (some (-(k : Int))) none none (a + k) = ((a : Int), ((a + k : Nat) : Int), 1) := by
  simp only [sliceBounds, Option.getD_none]
  rw [if_pos (by omega : (-(k : Int)) < 0)]
  simp only [show (1 : Int) > 0 by decide, if_true]
  congr 1
  omega
theorem slicePick_last {items : Array Value} {a k : Nat} (hk : 0 < k) (hs : items.size = a + k) : slicePick items (some (-(k : Int))) none none = (items.toList.drop a).toArray := by
  unfold slicePick
  rw [hs, bounds_from hk]
  simp only [sliceRange_one, pick_run]
  rw [List.take_of_length_le (by simp; omega)]
theorem tr_lastInts {l sl : Addr} {ns ms : List Int} {t : Tok} {m : Int} {Q : Value → List Cell → Prop} {value e : Expr} {p : Pos} (hx : (l, pInts (ns ++ ms)) ∈ L) (hs : (sl, pSlice (.int m t) .none .none) ∈ L) (hm : m = -(ms.length : Int)) (hk : 0 < ms.length) (hz : (ns ++ ms).length ≤ sizeLine)
    (h : ∀ a, Q (.ref a) ((a, pInts ms) :: L)) : Tr c (subscriptTail value (.Slice (some e) none none p) (.ref l) (.ref sl)) L Q := by
  refine tr_tail (tr_gpInts hx) ?_ (.inr rfl)
  intro s H g o
  subst hm
  obtain ⟨vs, k, hi, e⟩ := H.ints hx
  have hl := ints_len hi
  rw [List.length_append] at hl
  refine wpAny_getItem_list_slice (items := vs.toArray) ⟨_, e, rfl, k, rfl⟩ (H.sl hs) (.int _ _) .none .none (by simp) ?_ (by rw [List.size_toArray, ints_len hi]; exact hz)
  rw [slicePick_last hk (a := ns.length) (by rw [List.size_toArray]; exact hl)]
  refine ⟨_, H.push (P := pInts ms) ⟨vs.drop ns.length, ?_, 0, rfl⟩ rfl, g, o, h _⟩
  have := ints_drop ns.length hi
  rwa [List.drop_left] at this
theorem tr_delLast {l sl : Addr} {ns ms : List Int} {t : Tok} {m : Int} {L' : List Cell} {Q : Unit → List Cell → Prop} (U : Upd1 l (pInts (ns ++ ms)) (pInts ns) L L') (hs : (sl, pSlice (.int m t) .none .none) ∈ L) (hm : m = -(ms.length : Int)) (hk : 0 < ms.length) (hz : (ns ++ ms).length ≤ sizeLine)
    (h : Q () L') : Tr c (delItem (.ref l) (.ref sl)) L Q := fun s H g o => by
  subst hm
  obtain ⟨vs, k, hi, e⟩ := H.ints U.mem
  have hl := ints_len hi
  rw [List.length_append] at hl
  refine delSlice_list (a := ns.length) e (H.sl hs) (.int _ _) .none .none (by rw [List.size_toArray, ints_len hi]; exact hz) (by rw [List.size_toArray, hl]; exact bounds_from hk) fun h' he hs' => ?_
  obtain ⟨n', e'⟩ := he
  refine ⟨L', H.upd U hs' e' ⟨vs.take ns.length, ?_, n', rfl⟩, g, o, h⟩
  have := ints_take ns.length hi
  rwa [List.take_left] at this
theorem tr_delAll {l sl : Addr} {ns : List Int} {L' : List Cell} {Q : Unit → List Cell → Prop} (U : Upd1 l (pInts ns) (pInts []) L L') (hs : (sl, pSlice .none .none .none) ∈ L) (hz : ns.length ≤ sizeLine) (h : Q () L') : Tr c (delItem (.ref l) (.ref sl)) L Q := fun s H g o => by
  obtain ⟨vs, k, hi, e⟩ := H.ints U.mem
  refine delSlice_list (a := 0) e (H.sl hs) .none .none .none (by rw [List.size_toArray, ints_len hi]; exact hz) (by simp [sliceBounds]) fun h' he hs' => ?_
  obtain ⟨n', e'⟩ := he
  exact ⟨L', H.upd U hs' e' ⟨[], .nil, n', rfl⟩, g, o, h⟩
theorem tr_Delete {t : Expr} {Q : Flow → List Cell → Prop} (h : Tr c (delete t env) L fun _ L1 => Q .next L1) : Tr c (exec (.Delete [t] pos) env) L Q := fun s H g o =>
  wpAny_Delete (wpAny_deleteEach_cons (h.use H g o fun _ s1 L1 H1 g1 o1 q => wpAny_deleteEach_nil ⟨L1, H1, g1, o1, q⟩))
theorem tr_delSubscript {o i : Expr} {Q : Unit → List Cell → Prop} (h : Tr c (eval o env) L fun ov L1 => Tr c (eval i env) L1 fun iv L2 => Tr c (delItem ov iv) L2 Q) : Tr c (delete (.Subscript o i pos) env) L Q := fun s H g os =>
  wpAny_delete_Subscript (h.use H g os fun _ _ _ H1 g1 o1 q1 => q1.use H1 g1 o1 fun _ _ _ H2 g2 o2 q2 => q2 _ H2 g2 o2)
theorem tr_AssignAttr {o value : Expr} {attr : Str} {p : Pos} {Q : Flow → List Cell → Prop} (h : Tr c (eval value env) L fun v L1 => Tr c (eval o env) L1 fun ov L2 => Tr c (setAttr ov attr v) L2 fun _ L3 => Q .next L3)
    (hs : swapsWith value (some (.Attribute o attr p)) pos.line env = pure false := by rfl) : Tr c (exec (.Assign [.Attribute o attr p] value pos) env) L Q := fun s H g os =>
  plainObj_wpAny_Assign_Attribute (h.use H g os fun _ _ _ H1 g1 o1 q1 => q1.use H1 g1 o1 fun _ _ _ H2 g2 o2 q2 => q2.use H2 g2 o2 fun _ _ L3 H3 g3 o3 q3 => ⟨L3, H3, g3, o3, q3⟩) hs
theorem tr_AssignItem {o i value : Expr} {p : Pos} {Q : Flow → List Cell → Prop} (h : Tr c (eval value env) L fun v L1 => Tr c (eval o env) L1 fun ov L2 => Tr c (eval i env) L2 fun iv L3 => Tr c (setItem ov iv v) L3 fun _ L4 => Q .next L4)
    (hs : swapsWith value (some (.Subscript o i p)) pos.line env = pure false := by rfl) : Tr c (exec (.Assign [.Subscript o i p] value pos) env) L Q := fun s H g os =>
  wpAny_Assign_Subscript (h.use H g os fun _ _ _ H1 g1 o1 q1 => q1.use H1 g1 o1 fun _ _ _ H2 g2 o2 q2 => q2.use H2 g2 o2 fun _ _ _ H3 g3 o3 q3 => q3.use H3 g3 o3 fun _ _ L4 H4 g4 o4 q4 => ⟨L4, H4, g4, o4, q4⟩) hs
theorem tr_itemDict {P : Obj → Prop} {d : Addr} {kvs : List (Str × Value)} {k : Str} {t : Tok} {v : Value} {value slice : Expr} {Q : Value → List Cell → Prop} (hd : (d, P) ∈ L) (hP : ∀ o, P o → pDict c kvs o) (hv : valueAt kvs k = some v) (h : Q v L)
    (hs : subscripted slice false (.ref d) (.str k t) = operate [.ref d, .str k t] (getItem (.ref d) (.str k t)) := by rfl) : Tr c (subscriptTail value slice (.ref d) (.str k t)) L Q := tr_tail (tr_gpDict hd hP) (tr_dictGet hd hP hv h) (.inl hs)
theorem tr_itemTup {t : Addr} {l : List Value} {k : Int} {u : Tok} {j : Nat} {x : Value} {value slice : Expr} {Q : Value → List Cell → Prop} (ht : (t, pTup l) ∈ L) (hlo : -(2 ^ 63) ≤ k) (hhi : k < 2 ^ 63) (hj : seqIndex? k l.length = some j) (hx : l[j]? = some x) (h : Q x L)
    (hs : subscripted slice false (.ref t) (.int k u) = operate [.ref t, .int k u] (getItem (.ref t) (.int k u)) := by rfl) : Tr c (subscriptTail value slice (.ref t) (.int k u)) L Q :=
  tr_tail (tr_gpTup ht) (fun s H g o => by
    obtain ⟨ob, e, n, rfl⟩ := H.at ht
    exact getItem_tuple (items := l.toArray) ⟨_, e, rfl, n, rfl⟩ hlo hhi (by rw [List.size_toArray]; exact hj) (by simpa using hx) ⟨L, H, g, o, h⟩) (.inl hs)
theorem tr_itemList {l : Addr} {vs : List Value} {k : Nat} {u : Tok} {x : Value} {value slice : Expr} {Q : Value → List Cell → Prop} (hl : (l, pList vs) ∈ L) (hx : vs[k]? = some x) (hz : vs.length ≤ sizeLine) (h : Q x L)
    (hs : subscripted slice false (.ref l) (.int k u) = operate [.ref l, .int k u] (getItem (.ref l) (.int k u)) := by rfl) : Tr c (subscriptTail value slice (.ref l) (.int k u)) L Q :=
  tr_tail (tr_gpList hl) (fun s H g o => by
    obtain ⟨ob, e, n, rfl⟩ := H.at hl
    exact wpAny_getItem_list (items := vs.toArray) ⟨_, e, rfl, n, rfl⟩ (by omega) (by have := (List.getElem?_eq_some_iff.mp hx).1; have := sz24; omega) (by simpa using hx) ⟨L, H, g, o, h⟩) (.inl hs)
end
end Mine
namespace Mine
example : (PySem.Challenge.rw_aw5022_01.Holds) → (hd.heap_39 = hd.heap_39) → True := by k_fill; exact fun _ _ => trivial
theorem dsub (P : Params) : ListSub (hd.heap_39 P) 303 := by
  refine ⟨?_, ?_, ?_, ?_, ?_⟩
  all_goals k_is
def domA (hid sts : Addr) : Str → Option Value := fun y => if y = Str.ofString "_states" then some (.ref sts) else if y = Str.ofString "_hidden" then some (.ref hid) else none
end Mine
namespace Mine
theorem Own.swap {h₀ h h' : Heap} {C C' Y : List Cell} (H : Own h₀ h (C ++ Y)) (ha : C'.map Prod.fst = C.map Prod.fst) (hk : ∀ b o, b ∉ C.map Prod.fst → h.get? b = some o → h'.get? b = some o)
    (hc : ∀ c ∈ C', ∃ o, h'.get? c.1 = some o ∧ c.2 o) : Own h₀ h' (C' ++ Y) := by
  have nd := H.nd
  rw [List.map_append] at nd
  have memC : ∀ c ∈ C', ∃ d ∈ C, d.1 = c.1 := fun c m => by
    have : c.1 ∈ C.map Prod.fst := by rw [← ha]; exact List.mem_map.mpr ⟨c, m, rfl⟩
    obtain ⟨d, hd, e⟩ := List.mem_map.mp this
    exact ⟨d, hd, e⟩
  refine ⟨fun b o e => hk b o (fun hm => ?_) (H.keep b o e), fun c m => ?_, fun c m => ?_, fun c m => ?_, ?_, H.lim⟩
  · obtain ⟨d, hd, rfl⟩ := List.mem_map.mp hm
    rw [H.new d (List.mem_append_left _ hd)] at e
    cases e
  · rcases List.mem_append.mp m with m | m
    · exact hc c m
    · obtain ⟨o, e, p⟩ := H.has c (List.mem_append_right _ m)
      refine ⟨o, hk _ _ (fun hm => ?_) e, p⟩
      exact (List.nodup_append.mp nd).2.2 _ hm _ (List.mem_map.mpr ⟨c, m, rfl⟩) rfl
  · rcases List.mem_append.mp m with m | m
    · obtain ⟨d, hd, e⟩ := memC c m
      rw [← e]
      exact H.new d (List.mem_append_left _ hd)
    · exact H.new c (List.mem_append_right _ m)
  · rcases List.mem_append.mp m with m | m
    · obtain ⟨d, hd, e⟩ := memC c m
      rw [← e]
      exact H.hi d (List.mem_append_left _ hd)
    · exact H.hi c (List.mem_append_right _ m)
  · rw [List.map_append, ha]; exact nd
theorem Own.swapNew {h₀ h h' : Heap} {C C' Y : List Cell} (H : Own h₀ h (C ++ Y)) (ha : C'.map Prod.fst = C.map Prod.fst) (hk : ∀ b o, b ∉ C.map Prod.fst → h.get? b = some o → h'.get? b = some o)
    (hc : ∀ c ∈ C', ∃ o, h'.get? c.1 = some o ∧ c.2 o) {P : Obj → Prop} {T : Addr} (hT : h.objs.size ≤ T) (hp : ∃ o, h'.get? T = some o ∧ P o) : Own h₀ h' ((T, P) :: (C' ++ Y)) := by
  have H' := H.swap ha hk hc
  have hn : ∀ c ∈ C' ++ Y, c.1 < h.objs.size := fun c m => by
    rcases List.mem_append.mp m with m | m
    · have : c.1 ∈ C.map Prod.fst := by rw [← ha]; exact List.mem_map.mpr ⟨c, m, rfl⟩
      obtain ⟨d, hd, e⟩ := List.mem_map.mp this
      rw [← e]
      exact H.lt (List.mem_append_left _ hd)
    · exact H.lt (List.mem_append_right _ m)
  have h2 := H.two
  refine ⟨H'.keep, fun c m => ?_, fun c m => ?_, fun c m => ?_, ?_, H.lim⟩
  · rcases List.mem_cons.mp m with rfl | m
    · exact hp
    · exact H'.has c m
  · rcases List.mem_cons.mp m with rfl | m
    · cases q : h₀.get? T with
      | none => rfl
      | some o => exact absurd (Heap.lt_size (H.keep _ _ q)) (Nat.not_lt.mpr hT)
    · exact H'.new c m
  · rcases List.mem_cons.mp m with rfl | m
    · exact Nat.lt_of_lt_of_le h2 hT
    · exact H'.hi c m
  · rw [List.map_cons, List.nodup_cons]
    refine ⟨fun hm => ?_, H'.nd⟩
    obtain ⟨c, m, e⟩ := List.mem_map.mp hm
    exact absurd (hn c m) (by rw [e]; exact Nat.not_lt.mpr hT)

def pZip (TI TO : Addr) (f0 : Value) (o : Obj) : Prop := o = { cls := .type "zip", dict := Option.none, data := .fields #[f0, .bool false, .bool false, .ref TI, .ref TO], slots := #[] }
def pPair (a b : Value) (o : Obj) : Prop := o = { cls := .type "tuple", data := .seq #[a, b] }
def pSome2 (o : Obj) : Prop := ∃ a b, pPair a b o
def pLIterW (l : Addr) (k : Nat) (o : Obj) : Prop := o.cls = .type "list_iterator" ∧ o.data = .fields #[.ref l, .int k 0]
def zcs (z TI TO i1 i2 l1 l2 : Addr) (k : Nat) (f0 : Value) : List Cell := [(z, pZip TI TO f0), (TI, pPair (.ref i1) (.ref i2)), (TO, pSome2), (i1, pLIterW l1 k), (i2, pLIterW l2 k)]
theorem pPair_tup {a b : Value} : ∀ o, pPair a b o → pTup [a, b] o := fun o e => ⟨0, e⟩
section
variable {K : Frag} {mg mb : Str → Option Value} {c : Cx} {L Y : List Cell} {env : Env} {n : Nat} {pos : Pos}
theorem tr_callType {T : String} {args : List Expr} {Q : Value → List Cell → Prop} (h : Tr c (spliced (backTo pos (starEach args env))) L fun vs L1 => Tr c (call (.type T) vs []) L1 Q)
    (hp : (backTo pos (starEach args env)).any (·.1) = false := by rfl) : Tr c (callWith pos (.type T) [] (backTo pos (starEach args env)) []) L Q :=
  fun _ H hg ho => PyProof.Rows.callWith_type hp ((tr_evalArgs (Q := fun a L1 => a.kw = [] ∧ Tr c (call (.type T) ([] ++ a.pos) []) L1 Q) (h.mono fun _ _ q => ⟨rfl, q⟩) hp).use H hg ho fun _ _ _ H1 g1 o1 q => by rw [q.1]; exact q.2 _ H1 g1 o1)
theorem tr_typeInt {i : Int} {t : Tok} {Q : Value → List Cell → Prop} (h : Q (.type "int") L) : Tr c (call (.type "type") [.int i t] []) L Q := fun s H g o =>
  call_type_of (Tx := "int") (typeIs_int s i t) (by decide +kernel) ⟨L, H, g, o, h⟩
theorem tr_isTypes {a b : Value} {Q : Value → List Cell → Prop} (hp : plainIs a b = true) (h : Q (.bool (a == b)) L) : Tr c (compareOp .Is a b) L Q := fun s H g o => wpAny_is_plain hp ⟨L, H, g, o, h⟩
theorem tr_callInst {k : Nat} {x C d f : Addr} {m : Str → Option Value} {args : List Expr} {Q : Value → List Cell → Prop} (B : Bs K c mg mb) (hx : (x, pInst C d) ∈ L) (hd : (d, pAttr k m) ∈ L)
    (hs : findIn K (.ref C) "__call__" = some (some (.ref f))) (hf : isFn K (.ref f) = true) (hfn : fnIn K f = true)
    (h : Tr c (spliced (backTo pos (starEach args env))) L fun vs L1 => ((x, pInst C d) ∈ L1 ∧ (d, pAttr k m) ∈ L1) ∧ TrF c (.ref f) (.ref x :: vs) L1 Q)
    (hp : (backTo pos (starEach args env)).any (·.1) = false := by rfl) : Tr c (callWith pos (.ref x) [] (backTo pos (starEach args env)) []) L Q := by
  intro s H g o
  obtain ⟨ox, od, I, hl⟩ := H.inst hx pInst_is hd
  have hox : ox.data = .plain := by
    obtain ⟨o', e', p'⟩ := H.at hx
    have := I.at_
    rw [e'] at this
    cases this
    rw [p']
  unfold callWith
  refine wpAny_bind (wpAny_holding ((tr_evalArgs (Q := fun a L1 => a.kw = [] ∧ ((x, pInst C d) ∈ L1 ∧ (d, pAttr k m) ∈ L1) ∧ TrF c (.ref f) (.ref x :: a.pos) L1 Q) (h.mono fun _ _ q => ⟨rfl, q⟩) hp).use H g o fun a s1 L1 H1 g1 o1 q => wpAny_bind (wpAny_standAt ?_)))
  obtain ⟨hkw, ⟨hx1, hd1⟩, q⟩ := q
  obtain ⟨ox1, od1, I1, hl1⟩ := H1.inst hx1 pInst_is hd1
  have hox1 : ox1.data = .plain := by
    obtain ⟨o', e', p'⟩ := H1.at hx1
    have := I1.at_
    rw [e'] at this
    cases this
    rw [p']
  simp only [hp, List.any_nil, Bool.or_false]
  refine wpAny_bind ((kco_keeper (M := model c.prog c.w) I1 hox1).here ?_)
  have X1 := B.X.keeps H1.keep
  refine wpAny_bind (wpAny_mono (wpAny_operateT (wpAny_call (kco_code (a := ⟨a.pos, a.kw⟩) X1 I1 hox1 hs hf hfn ?_))) (fun r s2 hr => wpAny_bind (wpAny_holding (wpAny_point (wpAny_pure hr)))) fun _ _ z => z)
  have z := q _ H1 g1 o1
  rw [hkw]
  exact codeAny_mono z fun r s' z => by
    cases r with
    | error e => exact z
    | ok fl => cases fl <;> exact z
theorem tr_Tup2 {T : Addr} {t1 t2 : Expr} {x y : Value} {k : Nat} {Q : Unit → List Cell → Prop} (R : Rm n c.A) (hT : (T, pTup [x, y]) ∈ L) (h : Tr c (assign t1 env x) L fun _ L1 => Tr c (assign t2 env y) L1 Q)
    (he : assignEach [t1, t2] env = [(false, assign t1 env), (false, assign t2 env)] := by rfl) : Tr c (assign (.Tuple [t1, t2] k pos) env (.ref T)) L Q := fun s H g o => by
  obtain ⟨ob, e, j, rfl⟩ := H.at hT
  refine wpAny_assign_Tuple (items := #[x, y]) R.hd ⟨_, e, rfl, j, rfl⟩ (by rw [he]; rfl) (by rw [he]; rfl) fun h' hx => ?_
  rw [he]
  have H' : Own c.h₀ h' L := ⟨fun b ob e => hx b ob (fun q => by subst q; rw [H.none] at e; cases e) (H.keep b ob e), fun c' m => let ⟨ob, e, p⟩ := H.has c' m; ⟨ob, hx _ _ (Nat.ne_of_lt (Heap.lt_size e)) e, p⟩, H.new, H.hi, H.nd, H.lim⟩
  show wpAny _ _ (assignInOrder [assign t1 env, assign t2 env] [x, y]) _ _ _
  unfold assignInOrder
  refine wpAny_bind (wpAny_holding (h.use (s := { s with heap := h' }) H' g o fun _ s1 L1 H1 g1 o1 q => ?_))
  unfold assignInOrder
  refine wpAny_bind (wpAny_holding (q.use H1 g1 o1 fun _ s2 L2 H2 g2 o2 q2 => ?_))
  exact wpAny_pure ⟨L2, H2, g2, o2, q2⟩
theorem zcs_map {z TI TO i1 i2 l1 l2 : Addr} {k : Nat} {f0 : Value} : (zcs z TI TO i1 i2 l1 l2 k f0).map Prod.fst = [z, TI, TO, i1, i2] := rfl
theorem Own.apart {h₀ h : Heap} {z TI TO i1 i2 l1 l2 : Addr} {k : Nat} {f0 : Value} {P1 P2 : Obj → Prop} (H : Own h₀ h (zcs z TI TO i1 i2 l1 l2 k f0 ++ Y)) (h1 : (l1, P1) ∈ Y) (h2 : (l2, P2) ∈ Y) : ZipApart z TI TO i1 i2 l1 l2 := by
  have nd := H.nd
  rw [List.map_append, zcs_map] at nd
  have m1 : l1 ∈ Y.map Prod.fst := List.mem_map.mpr ⟨_, h1, rfl⟩
  have m2 : l2 ∈ Y.map Prod.fst := List.mem_map.mpr ⟨_, h2, rfl⟩
  simp only [List.cons_append, List.nil_append, List.nodup_cons, List.mem_cons, not_or] at nd
  obtain ⟨⟨a1, a2, a3, a4, a5⟩, ⟨b1, b2, b3, b4⟩, ⟨c1, c2, c3⟩, ⟨d1, d2⟩, e1, _⟩ := nd
  refine ⟨Ne.symm a1, Ne.symm a2, Ne.symm a3, Ne.symm a4, b1, b2, b3, c1, c2, d1, ?_, ?_, ?_, ?_, ?_, ?_, ?_, ?_⟩ <;> (rintro rfl; contradiction)
theorem Own.zip {h₀ h : Heap} {z TI TO i1 i2 l1 l2 : Addr} {k : Nat} {f0 : Value} (H : Own h₀ h (zcs z TI TO i1 i2 l1 l2 k f0 ++ Y)) :
    IsZip h z TI TO f0 ∧ IsPair h TI (.ref i1) (.ref i2) ∧ (∃ a b, IsPair h TO a b) ∧ h.IsListIter i1 l1 k ∧ h.IsListIter i2 l2 k := by
  obtain ⟨o1, e1, rfl⟩ := H.has (z, pZip TI TO f0) (by simp [zcs])
  obtain ⟨o2, e2, rfl⟩ := H.has (TI, pPair (.ref i1) (.ref i2)) (by simp [zcs])
  obtain ⟨o3, e3, a, b, rfl⟩ := H.has (TO, pSome2) (by simp [zcs])
  obtain ⟨o4, e4, p4⟩ := H.has (i1, pLIterW l1 k) (by simp [zcs])
  obtain ⟨o5, e5, p5⟩ := H.has (i2, pLIterW l2 k) (by simp [zcs])
  exact ⟨e1, e2, ⟨a, b, e3⟩, ⟨o4, e4, p4⟩, ⟨o5, e5, p5⟩⟩
theorem zcs_has {h : Heap} {z TI TO i1 i2 l1 l2 : Addr} {k : Nat} {f0 : Value} (e1 : IsZip h z TI TO f0) (e2 : IsPair h TI (.ref i1) (.ref i2)) (e3 : ∃ a b, IsPair h TO a b) (e4 : h.IsListIter i1 l1 k) (e5 : h.IsListIter i2 l2 k) :
    ∀ c ∈ zcs z TI TO i1 i2 l1 l2 k f0, ∃ o, h.get? c.1 = some o ∧ c.2 o := by
  intro c m
  simp only [zcs, List.mem_cons, List.not_mem_nil, or_false] at m
  rcases m with rfl | rfl | rfl | rfl | rfl
  · exact ⟨_, e1, rfl⟩
  · exact ⟨_, e2, rfl⟩
  · obtain ⟨a, b, e⟩ := e3; exact ⟨_, e, a, b, rfl⟩
  · obtain ⟨o, e, p⟩ := e4; exact ⟨o, e, p⟩
  · obtain ⟨o, e, p⟩ := e5; exact ⟨o, e, p⟩
theorem tr_zipNew {l1 l2 : Addr} {xs : List Value} {ns : List Int} {Q : Value → List Cell → Prop} (h1 : (l1, pList xs) ∈ L) (h2 : (l2, pInts ns) ∈ L)
    (h : ∀ z TI TO i1 i2, Q (.ref z) (zcs z TI TO i1 i2 l1 l2 0 .none ++ L)) : Tr c (call (.type "zip") [.ref l1, .ref l2] []) L Q := fun s H g o => by
  obtain ⟨vs, k, hi, e⟩ := H.ints h2
  refine call_zip_2 (xs := xs.toArray) (ys := vs.toArray) (H.list h1) ⟨_, e, rfl, k, rfl⟩ fun h' a1 a2 a3 a4 a5 a6 a7 => ?_
  refine ⟨_, ?_, g, o, h (s.heap.objs.size + 4) (s.heap.objs.size + 2) (s.heap.objs.size + 3) s.heap.objs.size (s.heap.objs.size + 1)⟩
  have hh := zcs_has a1 a2 ⟨_, _, a3⟩ a4 a5
  have h2 := H.two
  have hlt : ∀ c ∈ L, c.1 < s.heap.objs.size := fun c m => H.lt m
  have hno : ∀ j, c.h₀.get? (s.heap.objs.size + j) = Option.none := fun j => by
    cases q : c.h₀.get? (s.heap.objs.size + j) with
    | none => rfl
    | some ob => exact absurd (Heap.lt_size (H.keep _ _ q)) (Nat.not_lt.mpr (Nat.le_add_right _ _))
  refine ⟨fun b ob e => a7 b ob (H.keep b ob e), fun c' m => ?_, fun c' m => ?_, fun c' m => ?_, ?_, H.lim⟩
  · rcases List.mem_append.mp m with m | m
    · exact hh c' m
    · obtain ⟨ob, e, p⟩ := H.has c' m; exact ⟨ob, a7 _ _ e, p⟩
  · rcases List.mem_append.mp m with m | m
    · simp only [zcs, List.mem_cons, List.not_mem_nil, or_false] at m
      rcases m with rfl | rfl | rfl | rfl | rfl
      · exact hno 4
      · exact hno 2
      · exact hno 3
      · exact hno 0
      · exact hno 1
    · exact H.new c' m
  · rcases List.mem_append.mp m with m | m
    · simp only [zcs, List.mem_cons, List.not_mem_nil, or_false] at m
      rcases m with rfl | rfl | rfl | rfl | rfl <;> first | exact h2 | exact Nat.lt_of_lt_of_le h2 (Nat.le_add_right _ _)
    · exact H.hi c' m
  · rw [List.map_append, zcs_map]
    refine List.nodup_append.mpr ⟨?_, H.nd, ?_⟩
    · simp
    · intro x hx y hy q
      obtain ⟨c', m, rfl⟩ := List.mem_map.mp hy
      have := hlt c' m
      simp only [List.mem_cons, List.not_mem_nil, or_false] at hx
      rcases hx with rfl | rfl | rfl | rfl | rfl <;> (rw [← q] at this; first | exact absurd this (Nat.lt_irrefl _) | exact absurd this (Nat.not_lt.mpr (Nat.le_add_right _ _)))
theorem tr_iterZip {z TI TO i1 i2 l1 l2 : Addr} {Q : Value → List Cell → Prop} (h : Q (.ref z) (zcs z TI TO i1 i2 l1 l2 0 .none ++ L)) : Tr c (pyIter (.ref z)) (zcs z TI TO i1 i2 l1 l2 0 .none ++ L) Q := fun s H g o =>
  wpAny_pyIter_zip H.zip.1 ⟨_, H, g, o, h⟩
theorem tr_nextZip {z TI TO i1 i2 l1 l2 : Addr} {k : Nat} {xs : List Value} {ns : List Int} {x : Value} {y : Int} {Q : Option Value → List Cell → Prop} (h1 : (l1, pList xs) ∈ Y) (h2 : (l2, pInts ns) ∈ Y) (hx : xs[k]? = some x) (hy : ns[k]? = some y)
    (h : ∀ T t, Q (some (.ref T)) ((T, pTup [x, .int y t]) :: (zcs z TI TO i1 i2 l1 l2 (k + 1) (rawInt T) ++ Y))) : Tr c (pyNext (.ref z)) (zcs z TI TO i1 i2 l1 l2 k .none ++ Y) Q := fun s H g o => by
  obtain ⟨e1, e2, ⟨a, b, e3⟩, e4, e5⟩ := H.zip
  have D := H.apart h1 h2
  have HY : Own c.h₀ s.heap Y := H.sub (List.sublist_append_right _ _)
  obtain ⟨vs, j, hi, e⟩ := HY.ints h2
  obtain ⟨t, ht⟩ := ints_get hi hy
  refine wpAny_pyNext_zip_item D e1 e2 e3 e4 e5 (HY.list h1) (ys := vs.toArray) ⟨_, e, rfl, j, rfl⟩ (x := x) (by simpa using hx) (by simpa using ht) fun h' a1 a2 a3 a4 a5 a6 hk => ?_
  refine ⟨_, H.swapNew (C' := zcs z TI TO i1 i2 l1 l2 (k + 1) (rawInt s.heap.objs.size)) (by rw [zcs_map, zcs_map]) (fun b ob hb e => ?_) ?_ (Nat.le_refl _) ⟨_, a5, pPair_tup _ rfl⟩, g, o, h _ t⟩
  · rw [zcs_map] at hb
    simp only [List.mem_cons, List.not_mem_nil, or_false, not_or] at hb
    exact hk b ob hb.1 hb.2.2.1 hb.2.2.2.1 hb.2.2.2.2 e
  · exact zcs_has a1 (hk _ _ D.TIz D.TITO D.TIi1 D.TIi2 e2) ⟨_, _, a2⟩ a3 a4
theorem tr_nextZipEnd {z TI TO i1 i2 l1 l2 : Addr} {k : Nat} {xs : List Value} {ns : List Int} {Q : Option Value → List Cell → Prop} (R : Rm n c.A) (h1 : (l1, pList xs) ∈ Y) (h2 : (l2, pInts ns) ∈ Y) (hx : xs[k]? = Option.none ∨ ns[k]? = Option.none)
    (h : Q Option.none Y) : Tr c (pyNext (.ref z)) (zcs z TI TO i1 i2 l1 l2 k .none ++ Y) Q := fun s H g o => by
  obtain ⟨e1, e2, ⟨a, b, e3⟩, e4, e5⟩ := H.zip
  have D := H.apart h1 h2
  have HY : Own c.h₀ s.heap Y := H.sub (List.sublist_append_right _ _)
  obtain ⟨vs, j, hi, e⟩ := HY.ints h2
  refine wpAny_pyNext_zip_end R.hd D e1 e2 e3 e4 e5 (HY.list h1) (ys := vs.toArray) ⟨_, e, rfl, j, rfl⟩ (by
    rcases hx with q | q
    · exact .inl (by simpa using q)
    · exact .inr (by simpa using ints_none hi q)) fun h' hk => ?_
  have nd := H.nd
  rw [List.map_append, zcs_map] at nd
  have hY : ∀ c' ∈ Y, c'.1 ≠ z ∧ c'.1 ≠ TO ∧ c'.1 ≠ i1 ∧ c'.1 ≠ i2 := fun c' m => by
    have m' : c'.1 ∈ Y.map Prod.fst := List.mem_map.mpr ⟨_, m, rfl⟩
    have := (List.nodup_append.mp nd).2.2
    refine ⟨fun q => this z (by simp) _ m' q.symm, fun q => this TO (by simp) _ m' q.symm, fun q => this i1 (by simp) _ m' q.symm, fun q => this i2 (by simp) _ m' q.symm⟩
  have hnew : ∀ a ∈ [z, TI, TO, i1, i2], c.h₀.get? a = Option.none := fun a m => by
    rw [← zcs_map (k := k) (f0 := .none) (l1 := l1) (l2 := l2)] at m
    obtain ⟨c', m', rfl⟩ := List.mem_map.mp m
    exact H.new _ (List.mem_append_left _ m')
  refine ⟨Y, ⟨fun b ob e => ?_, fun c' m => ?_, HY.new, HY.hi, HY.nd, HY.lim⟩, g, o, h⟩
  · have hn : ∀ a ∈ [z, TI, TO, i1, i2], b ≠ a := fun a m q => by rw [q, hnew a m] at e; cases e
    exact hk b ob (hn _ (by simp)) (hn _ (by simp)) (hn _ (by simp)) (hn _ (by simp)) (H.keep b ob e)
  · obtain ⟨ob, e, p⟩ := HY.has c' m
    obtain ⟨q1, q2, q3, q4⟩ := hY c' m
    exact ⟨ob, hk _ _ q1 q2 q3 q4 e, p⟩
theorem tr_letGoZip {z TI TO i1 i2 l1 l2 T : Addr} {k : Nat} {P : Obj → Prop} {elts : List Expr} {j : Nat} {Q : Unit → List Cell → Prop} (h : Q () ((T, P) :: (zcs z TI TO i1 i2 l1 l2 k .none ++ Y))) :
    Tr c (letOwnedTupleGo (.Tuple elts j pos) (.ref z) (.ref T)) ((T, P) :: (zcs z TI TO i1 i2 l1 l2 k (rawInt T) ++ Y)) Q := fun s H g o => by
  have H1 : Own c.h₀ s.heap (zcs z TI TO i1 i2 l1 l2 k (rawInt T) ++ Y) := H.sub (List.sublist_cons_self _ _)
  refine wpAny_letOwnedTupleGo_zip H1.zip.1 fun h' hz hs => ⟨_, ?_, g, o, h⟩
  exact H.upd (a := z) (P := pZip TI TO (rawInt T)) (P' := pZip TI TO .none) (.tail .head) hs hz rfl
theorem tr_letGoTup {it l T : Addr} {k : Nat} {elts : List Expr} {j : Nat} {Q : Unit → List Cell → Prop} (hi : (it, pLIter l k) ∈ L) (h : Q () L) : Tr c (letOwnedTupleGo (.Tuple elts j pos) (.ref it) (.ref T)) L Q := fun s H g o => by
  obtain ⟨ob, e, p⟩ := H.at hi
  unfold pLIter at p
  subst p
  exact wpAny_letOwnedTupleGo_listiter (l := l) (i := k) ⟨_, e, rfl, rfl⟩ ⟨L, H, g, o, h⟩
end
end Mine
namespace Mine
structure Dm where
  nm : Str
  f : Int
  d : Addr
  dd : Addr
  hd : Addr
  st : Addr
  vs : List Int
  hs : List Int
  ss : List Int
  vc : Addr := 0
  tp : Addr := 0
def dcs (D : Dm) : List Cell := [(D.d, pDomL 303 D.dd D.vs), (D.dd, pAttr 2 (domA D.hd D.st)), (D.hd, pInts D.hs), (D.st, pInts D.ss)]
def dcl (Ds : List Dm) : List Cell := Ds.flatMap dcs
def dmap (Ds : List Dm) : List (Str × Value) := Ds.map fun D => (D.nm, .ref D.d)
theorem dcl_cons (D : Dm) (Ds : List Dm) : dcl (D :: Ds) = dcs D ++ dcl Ds := rfl
theorem dcl_append (A B : List Dm) : dcl (A ++ B) = dcl A ++ dcl B := by unfold dcl; rw [List.flatMap_append]
theorem dcl_nil : dcl [] = [] := rfl
theorem dcl_focus (A : List Dm) (D : Dm) (B : List Dm) (X : List Cell) : List.Perm (dcl (A ++ D :: B) ++ X) (dcs D ++ (dcl (A ++ B) ++ X)) := by
  rw [dcl_append, dcl_cons, dcl_append]
  rw [← List.append_assoc (dcs D)]
  refine List.Perm.append_right _ ?_
  rw [← List.append_assoc, ← List.append_assoc]
  exact List.Perm.append_right _ List.perm_append_comm
theorem dcl_perm {A B : List Dm} (h : List.Perm A B) : List.Perm (dcl A) (dcl B) := h.flatMap_right _
def av (kvs : List (Str × Value)) (x : Str) : Option Int := match valueAt kvs x with
  | some (.int i _) => some i
  | _ => Option.none
def IntKv (kvs : List (Str × Value)) : Prop := ∀ x v, valueAt kvs x = some v → ∃ i t, v = .int i t
theorem IntKv.some {kvs : List (Str × Value)} (h : IntKv kvs) {x : Str} (e : (valueAt kvs x).isSome = true) : ∃ i t, valueAt kvs x = some (.int i t) ∧ av kvs x = some i := by
  obtain ⟨v, hv⟩ := Option.isSome_iff_exists.mp e
  obtain ⟨i, t, rfl⟩ := h x v hv
  exact ⟨i, t, hv, by unfold av; rw [hv]⟩
theorem av_none {kvs : List (Str × Value)} {x : Str} (e : (valueAt kvs x).isSome = false) : av kvs x = Option.none := by
  unfold av
  cases h : valueAt kvs x with
  | none => rfl
  | some v => rw [h] at e; cases e
def psum (kvs : List (Str × Value)) : List Dm → Int
  | [] => 0
  | D :: r => psum kvs r + (match av kvs D.nm with | some a => a * D.f | Option.none => 0)
theorem psum_app (kvs : List (Str × Value)) : ∀ (A B : List Dm), psum kvs (A ++ B) = psum kvs A + psum kvs B
  | [], B => by simp [psum]
  | D :: A, B => by rw [List.cons_append, psum, psum, psum_app kvs A B]; omega
theorem psum_one (kvs : List (Str × Value)) (D : Dm) : psum kvs [D] = (match av kvs D.nm with | some a => a * D.f | Option.none => 0) := by simp [psum]
theorem strs_get : ∀ {vs : List Value} {ns : List Str}, StrsAre vs ns → ∀ {i : Nat} {n : Str}, ns[i]? = some n → ∃ t, vs[i]? = some (.str n t)
  | _, _, .nil, _, _, e => by simp at e
  | _, _, .cons n t h, 0, m, e => by simp at e; subst e; exact ⟨t, rfl⟩
  | _, _, .cons n t h, i + 1, m, e => by simp only [List.getElem?_cons_succ] at e ⊢; exact strs_get h e
theorem strs_len : ∀ {vs : List Value} {ns : List Str}, StrsAre vs ns → vs.length = ns.length
  | _, _, .nil => rfl
  | _, _, .cons n t h => by rw [List.length_cons, List.length_cons, strs_len h]
def conA (nm : String) (M : Int) (tM : Tok) (mul : Value) : Str → Option Value := fun y => if y = Str.ofString "_multipliers" then some mul else if y = Str.ofString nm then some (.int M tM) else Option.none
def asgd (kvs : List (Str × Value)) (x : Str) : Bool := (valueAt kvs x).isSome
def prune (s M : Int) (D : Dm) : Dm := { D with vs := D.vs.filter (fun v => decide (s + v * D.f ≤ M)), hs := D.hs ++ D.vs.filter (fun v => !decide (s + v * D.f ≤ M)) }
def pr (kvs : List (Str × Value)) (s M : Int) (D : Dm) : Dm := if asgd kvs D.nm then D else prune s M D
theorem dmap_find {Ds : List Dm} (nd : (Ds.map (·.nm)).Nodup) {D : Dm} (m : D ∈ Ds) : valueAt (dmap Ds) D.nm = some (.ref D.d) := by
  induction Ds with
  | nil => cases m
  | cons E r ih =>
    rw [List.map_cons, List.nodup_cons] at nd
    unfold dmap valueAt at *
    rcases List.mem_cons.mp m with rfl | m
    · simp
    · have hne : E.nm ≠ D.nm := fun q => nd.1 (List.mem_map.mpr ⟨D, m, q.symm⟩)
      have := ih nd.2 m
      rw [List.map_cons]
      rw [List.find?_cons_of_neg (by simpa using hne)]; exact this
theorem TrC.sel {c : Cx} {code : Code} {L L' : List Cell} {Q : Flow → List Cell → Prop} (s : Sel L' L) (h : TrC c code L' Q) : TrC c code L Q := fun st H g o => h st (H.sel s) g o
theorem focus_base {A B : List Dm} {D : Dm} {X : List Cell} : Sel ((D.d, pDomL 303 D.dd D.vs) :: (D.dd, pAttr 2 (domA D.hd D.st)) :: (D.hd, pInts D.hs) :: (D.st, pInts D.ss) :: (dcl (A ++ B) ++ X)) (dcl (A ++ D :: B) ++ X) := .perm (dcl_focus A D B X)
theorem focus_step {a b d e f : Cell} {L' L : List Cell} (s : Sel (a :: b :: d :: e :: L') L) : Sel (a :: b :: d :: e :: f :: L') (f :: L) := by
  obtain ⟨Z, p⟩ := s
  refine ⟨Z, (p.cons f).trans ?_⟩
  exact (List.perm_middle (l₁ := [a, b, d, e]) (l₂ := L' ++ Z) (a := f)).symm
theorem focus_Z {a b d e : Cell} {Y L' L : List Cell} (s : Sel (a :: b :: d :: e :: L') L) : Sel (a :: b :: d :: e :: (Y ++ L')) (Y ++ L) := by
  obtain ⟨Z, p⟩ := s
  refine ⟨Z, (p.append_left Y).trans ?_⟩
  show List.Perm (Y ++ ([a, b, d, e] ++ (L' ++ Z))) ([a, b, d, e] ++ ((Y ++ L') ++ Z))
  rw [← List.append_assoc, List.append_assoc Y L' Z, ← List.append_assoc [a, b, d, e]]
  exact List.Perm.append_right _ List.perm_append_comm
theorem unfocus {A B : List Dm} {D : Dm} {X : List Cell} : Sel (dcl (A ++ D :: B) ++ X) ((D.d, pDomL 303 D.dd D.vs) :: (D.dd, pAttr 2 (domA D.hd D.st)) :: (D.hd, pInts D.hs) :: (D.st, pInts D.ss) :: (dcl (A ++ B) ++ X)) := .perm (dcl_focus A D B X).symm
theorem unfocus_step {a b d e f : Cell} {L' L : List Cell} (s : Sel L (a :: b :: d :: e :: L')) : Sel (f :: L) (a :: b :: d :: e :: f :: L') := by
  obtain ⟨Z, p⟩ := s
  refine ⟨Z, (List.perm_middle (l₁ := [a, b, d, e]) (l₂ := L') (a := f)).trans (p.cons f)⟩
theorem unfocus_Z {a b d e : Cell} {Y L' L : List Cell} (s : Sel L (a :: b :: d :: e :: L')) : Sel (Y ++ L) (a :: b :: d :: e :: (Y ++ L')) := by
  obtain ⟨Z, p⟩ := s
  refine ⟨Z, ?_⟩
  rw [List.append_assoc]
  refine List.Perm.trans ?_ (p.append_left Y)
  show List.Perm ([a, b, d, e] ++ (Y ++ L')) (Y ++ ([a, b, d, e] ++ L'))
  rw [← List.append_assoc, ← List.append_assoc]
  exact List.Perm.append_right _ List.perm_append_comm
inductive FwOk : Value → Bool → List Cell → Prop
  | none {Z} : FwOk .none false Z
  | lst {pd : Addr} {ps : List Value} {Z : List Cell} (h : (pd, pList ps) ∈ Z) (hz : ps.length ≤ sizeLine) : FwOk (.ref pd) (!ps.isEmpty) Z
theorem tr_truthyFw {c : Cx} {L Z : List Cell} {fw : Value} {b : Bool} {Q : Bool → List Cell → Prop} (h : FwOk fw b Z) (hz : ∀ x ∈ Z, x ∈ L) (q : Q b L) : Tr c (truthy fw) L Q := by
  cases h with
  | none => exact tr_truthyNone q
  | lst hm hl => exact tr_truthyList (hz _ hm) hl q
inductive MaxRes (kvs : List (Str × Value)) (M : Int) (fwb : Bool) (Ds : List Dm) : Bool → List Dm → Prop
  | over (h : psum kvs Ds > M) : MaxRes kvs M fwb Ds false Ds
  | plain (h : psum kvs Ds ≤ M) (hf : fwb = false) : MaxRes kvs M fwb Ds true Ds
  | dead (A : List Dm) (D : Dm) (B : List Dm) (h : psum kvs Ds ≤ M) (hf : fwb = true) (e : Ds = A ++ D :: B) (ha : asgd kvs D.nm = false) (hv : (prune (psum kvs Ds) M D).vs = []) : MaxRes kvs M fwb Ds false (A.map (pr kvs (psum kvs Ds) M) ++ prune (psum kvs Ds) M D :: B)
  | fine (h : psum kvs Ds ≤ M) (hf : fwb = true) (hv : ∀ D ∈ Ds, asgd kvs D.nm = false → (prune (psum kvs Ds) M D).vs ≠ []) : MaxRes kvs M fwb Ds true (Ds.map (pr kvs (psum kvs Ds) M))
def missg (kvs : List (Str × Value)) (Ds : List Dm) : Bool := Ds.any fun D => !asgd kvs D.nm
inductive ExRes (kvs : List (Str × Value)) (M : Int) (fwb : Bool) (Ds : List Dm) : Bool → List Dm → Prop
  | over (h : psum kvs Ds > M) : ExRes kvs M fwb Ds false Ds
  | plain (h : psum kvs Ds ≤ M) (hf : (fwb && missg kvs Ds) = false) : ExRes kvs M fwb Ds (if missg kvs Ds then true else psum kvs Ds == M) Ds
  | dead (A : List Dm) (D : Dm) (B : List Dm) (h : psum kvs Ds ≤ M) (hf : fwb = true) (e : Ds = A ++ D :: B) (ha : asgd kvs D.nm = false) (hv : (prune (psum kvs Ds) M D).vs = []) : ExRes kvs M fwb Ds false (A.map (pr kvs (psum kvs Ds) M) ++ prune (psum kvs Ds) M D :: B)
  | fine (h : psum kvs Ds ≤ M) (hf : fwb = true) (hm : missg kvs Ds = true) (hv : ∀ D ∈ Ds, asgd kvs D.nm = false → (prune (psum kvs Ds) M D).vs ≠ []) : ExRes kvs M fwb Ds true (Ds.map (pr kvs (psum kvs Ds) M))
theorem missg_app (kvs : List (Str × Value)) (A : List Dm) (D : Dm) : missg kvs (A ++ [D]) = (missg kvs A || !asgd kvs D.nm) := by simp [missg]
end Mine
namespace Mine
def pKIter (d : Addr) (i n ep : Nat) (o : Obj) : Prop := o.cls = .type "dict_keyiterator" ∧ o.data = .fields #[.ref d, .int i 0, .int n 0, .int ep 0]
theorem isStr_shape {prog : Program} {w : World} {k : Str} {v : Value} (h : (PySem.strKind prog w).is k v = true) : ∃ t, v = .str k t := Value.isStrOf_shape h
section
variable {K : Frag} {mg mb : Str → Option Value} {c : Cx} {L : List Cell} {env : Env} {n : Nat} {pos : Pos}
theorem tr_iterDict {d : Addr} {ep : Nat} {kvs : List (Str × Value)} {Q : Value → List Cell → Prop} (hd : (d, pDictE c ep kvs) ∈ L) (h : ∀ it, Q (.ref it) ((it, pKIter d 0 kvs.length ep) :: L)) : Tr c (pyIter (.ref d)) L Q := fun s H g o =>
  wpAny_pyIter_dict (knd := PySem.strKind c.prog c.w) (H.noSys hd) (H.dictE hd) ⟨_, H.push (P := pKIter d 0 kvs.length ep) ⟨rfl, rfl⟩ rfl, g, o, h _⟩
theorem tr_nextKey {it d : Addr} {i ep m : Nat} {kvs : List (Str × Value)} {k : Str} {v : Value} {L' : List Cell} {Q : Option Value → List Cell → Prop} (U : Upd1 it (pKIter d i m ep) (pKIter d (i + 1) m ep) L L') (hd : (d, pDictE c ep kvs) ∈ L) (hm : m = kvs.length) (hx : kvs[i]? = some (k, v))
    (h : ∀ t, Q (some (.str k t)) L') : Tr c (pyNext (.ref it)) L Q := fun s H g o => by
  subst hm
  obtain ⟨oi, ei, p1, p2⟩ := H.at U.mem
  refine wpAny_pyNext_dict_item (knd := PySem.strKind c.prog c.w) ⟨oi, ei, p1, p2⟩ (H.dictE hd) hx fun key h' hk hi hs => ?_
  obtain ⟨t, rfl⟩ := isStr_shape hk
  obtain ⟨o', e', r1, r2⟩ := hi
  exact ⟨L', H.upd U hs e' ⟨r1, r2⟩, g, o, h t⟩
theorem tr_nextKeyEnd {it d : Addr} {i ep m : Nat} {kvs : List (Str × Value)} {L' : List Cell} {Q : Option Value → List Cell → Prop} (R : Rm n c.A) (U : Rem1 it (pKIter d i m ep) L L') (hd : (d, pDictE c ep kvs) ∈ L) (hm : m = kvs.length) (hx : kvs[i]? = Option.none)
    (h : Q Option.none L') : Tr c (pyNext (.ref it)) L Q := fun s H g o => by
  subst hm
  obtain ⟨oi, ei, p1, p2⟩ := H.at U.mem
  exact wpAny_pyNext_dict_end (knd := PySem.strKind c.prog c.w) R.hd ⟨oi, ei, p1, p2⟩ (H.dictE hd) hx fun h' hs => ⟨L', (H.perm U.perm).extBut hs, g, o, h⟩

theorem tr_tests_nil {Q : Bool → List Cell → Prop} (h : Q true L) : Tr c (forIn ([] : List Expr) true fun x r => if r = true then do let ok ← isTrue x env (eval x env); pure (ForInStep.yield ok) else pure (ForInStep.yield r)) L Q := fun s H g o =>
  wpAny_tests_nil ⟨L, H, g, o, h⟩
theorem tr_tests_one {e : Expr} {Q : Bool → List Cell → Prop} (h : Tr c (isTrue e env (eval e env)) L Q) : Tr c (forIn [e] true fun x r => if r = true then do let ok ← isTrue x env (eval x env); pure (ForInStep.yield ok) else pure (ForInStep.yield r)) L Q := fun s H g o =>
  wpAny_tests_one (h s H g o)
theorem tr_compLoop {elt target iter : Expr} {ifs : List Expr} {scope : Scope} {it acc : Value} {Q : Flow → List Cell → Prop} (I : Nat → List Cell → Prop)
    (turn : ∀ k L, I k L → Tr c (pyNext it) L fun r L1 => match r with
      | none => Q .next L1
      | some v => Tr c (assign target env v) L1 fun _ L2 => Tr c (forIn ifs true fun x r => if r = true then do let ok ← isTrue x env (eval x env); pure (ForInStep.yield ok) else pure (ForInStep.yield r)) L2 fun ok L3 =>
          (ok = true → Tr c (eval elt env) L3 fun x L4 => Tr c (call (.builtin "list.append") [acc, x] []) L4 fun _ L5 => ∃ m L6, m < k ∧ Sel L6 L5 ∧ I m L6) ∧ (ok = false → ∃ m L6, m < k ∧ Sel L6 L3 ∧ I m L6))
    (k : Nat) (h : I k L) (ht : ∀ v, letOwnedTupleGo target it v = pure () := by intro _; rfl) : TrC c (.compLoop (.ListComp elt [⟨target, iter, ifs, 0⟩] scope pos) 0 it acc env) L Q := fun s H g o => by
  refine codeAny_compLoop_tests (fun k s => ∃ L, Own c.h₀ s.heap L ∧ c.G s.gens ∧ s.os = c.O ∧ I k L) (fun k s ⟨L, H, g, o, hI⟩ => ?_) k ⟨L, H, g, o, h⟩ ht
  refine (turn k L hI).use H g o fun r s1 L1 H1 g1 o1 q => ?_
  cases r with
  | none => exact ⟨L1, H1, g1, o1, q⟩
  | some v =>
    refine q.use H1 g1 o1 fun _ s2 L2 H2 g2 o2 q2 => q2.use H2 g2 o2 fun ok s3 L3 H3 g3 o3 q3 => ?_
    cases ok with
    | true =>
      rw [if_pos rfl]
      refine (q3.1 rfl).use H3 g3 o3 fun x s4 L4 H4 g4 o4 q4 => q4.use H4 g4 o4 fun _ s5 L5 H5 g5 o5 q5 => ?_
      obtain ⟨m, L6, hm, hs, hI'⟩ := q5
      exact ⟨m, hm, L6, H5.sel hs, g5, o5, hI'⟩
    | false =>
      rw [if_neg (by decide)]
      obtain ⟨m, L6, hm, hs, hI'⟩ := q3.2 rfl
      exact ⟨m, hm, L6, H3.sel hs, g3, o3, hI'⟩
theorem tr_compBlock {elt target iter : Expr} {ifs : List Expr} {rest : List Comprehension} {scope : Scope} {cl : List (Str × Addr)} {Qe : Value → Shared → Prop}
    (hclos : closureFor scope env = pure cl) (hcell : ∀ y ∈ scope.names, y.2 ≠ .cell) (hkind : scope.kind = .function) (hnames : ∀ y ∈ scope.names, y.2 = .local → scope.names.lookup y.1 = some .local) (hs : ∀ x, foldedSetIterable iter env x = pure x)
    {it : Addr} {s : Shared} (H : Own c.h₀ s.heap L) (g : c.G s.gens) (o : s.os = c.O) {RR : Value → Addr → Result → Shared → Prop}
    (hit : ∀ {P : Value → List Cell → Prop} (C D : Addr), P (.ref it) ((C, pNs fun _ => none) :: (D, pList []) :: L) → Tr c (pyIter (.ref it)) ((C, pNs fun _ => none) :: (D, pList []) :: L) P)
    (h : ∀ C D, TrC c (.compLoop (.ListComp elt (⟨target, iter, ifs, 0⟩ :: rest) scope pos) 0 (.ref it) (.ref D) (compEnvC scope cl C env)) ((C, pNs fun _ => none) :: (D, pList []) :: L) fun fl L3 => ∀ s', Own c.h₀ s'.heap L3 → c.G s'.gens → s'.os = c.O → RR (.ref D) C (.ok fl) s') :
    wpAny (model c.prog c.w) c.A (newList []) (fun acc s₃ => wpAny (model c.prog c.w) c.A (newFunctionEnv scope env.globals cl [] env.qual none .none (some env)) (fun cenv s₄ =>
      codeAny (model c.prog c.w) c.A (.compStart (.ListComp elt (⟨target, iter, ifs, 0⟩ :: rest) scope pos) 0 (.ref it) acc { cenv with scope := relabel scope env }) (RR acc cenv.locals) s₄) Qe s₃) Qe s := by
  refine wpAny_newObj_type (wpAny_newFunctionEnv hcell (by intro y hy; simp at hy) (fun h₁ hns₁ hsb₁ => ?_) hkind)
  have H1 := H.push (o := { cls := .type "list", dict := Option.none, data := .seq ([] : List Value).toArray }) (P := pList []) ⟨0, rfl⟩ rfl
  have H2 := H1.push (o := { cls := .type (if (some env).isSome = true then "dict" else "frame"), data := .dict #[] }) (P := pNs fun _ => Option.none) ⟨#[], 0, rfl, fun e he => (by simp at he), fun _ => rfl⟩ rfl
  obtain ⟨oC, eC, pC⟩ := of_ns hns₁
  have H3 : Own c.h₀ h₁ ((_, pNs fun _ => Option.none) :: (s.heap.objs.size, pList []) :: L) := H2.upd .head hsb₁ eC (by exact pC)
  refine codeAny_compStart_list ?_ ?_
  · refine codeAny_mono (h _ _ _ H3 g o) fun r s' z => ?_
    cases r with
    | ok f => obtain ⟨L', a, b, d, q⟩ := z; exact q s' a b d
    | error e => exact z.elim
  · refine (hit _ _ (P := fun v L' => v = .ref it ∧ L' = _) ⟨rfl, rfl⟩).use (s := { s with heap := h₁, toks := s.toks + ([] : List (Str × Value)).length }) H3 g o fun v s' L' H' g' o' q => ?_
    obtain ⟨rfl, rfl⟩ := q
    refine codeAny_mono (h _ _ _ H' g' o') fun r s' z => ?_
    cases r with
    | ok f => obtain ⟨L', a, b, d, q⟩ := z; exact q s' a b d
    | error e => exact z.elim
inductive SelfIt (it : Addr) (L : List Cell) : Prop
  | lst {l : Addr} {i : Nat} (h : (it, pLIter l i) ∈ L)
  | key {d : Addr} {i n ep : Nat} (h : (it, pKIter d i n ep) ∈ L)
theorem SelfIt.tr {it : Addr} {L' : List Cell} {Q : Value → List Cell → Prop} (x : SelfIt it L) (s : ∀ p ∈ L, p ∈ L') (h : Q (.ref it) L') : Tr c (pyIter (.ref it)) L' Q := fun st H g o => by
  cases x with
  | lst m =>
    obtain ⟨ob, e, p⟩ := H.at (s _ m)
    unfold pLIter at p
    subst p
    exact wpAny_pyIter_listiter ⟨_, e, rfl, rfl⟩ ⟨L', H, g, o, h⟩
  | key m =>
    obtain ⟨ob, e, p1, p2⟩ := H.at (s _ m)
    exact wpAny_pyIter_keyiter ⟨_, e, p1, p2⟩ ⟨L', H, g, o, h⟩
theorem tr_ListComp {elt target iter : Expr} {ifs : List Expr} {rest : List Comprehension} {scope : Scope} {cl : List (Str × Addr)} {Q : Value → List Cell → Prop}
    (hclos : closureFor scope env = pure cl) (hcell : ∀ y ∈ scope.names, y.2 ≠ .cell) (hkind : scope.kind = .function) (hnames : ∀ y ∈ scope.names, y.2 = .local → scope.names.lookup y.1 = some .local) (hs : ∀ x, foldedSetIterable iter env x = pure x)
    (h : Tr c (eval iter env) L fun x L1 => Tr c (pyIter x) L1 fun iv L2 => ∃ it, iv = .ref it ∧ SelfIt it L2 ∧ ∀ C D,
      TrC c (.compLoop (.ListComp elt (⟨target, iter, ifs, 0⟩ :: rest) scope pos) 0 (.ref it) (.ref D) (compEnvC scope cl C env)) ((C, pNs fun _ => Option.none) :: (D, pList []) :: L2) fun _ L3 => ∃ m L4, Sel ((C, pNs m) :: L4) L3 ∧ Q (.ref D) L4) :
    Tr c (eval (.ListComp elt (⟨target, iter, ifs, 0⟩ :: rest) scope pos) env) L Q := fun s H g o => by
  rw [eval_ListComp]
  refine wpAny_comprehension_free (use := Option.none) rfl hs hclos hkind hnames (h.use H g o fun x s1 L1 H1 g1 o1 q1 => q1.use H1 g1 o1 fun iv s2 L2 H2 g2 o2 q2 => ?_)
  obtain ⟨it, rfl, hself, q⟩ := q2
  refine tr_compBlock (RR := fun acc C => compPost (model c.prog c.w) c.A (fun _ _ => False) Option.none (fun v s' => ∃ L', Own c.h₀ s'.heap L' ∧ c.G s'.gens ∧ s'.os = c.O ∧ Q v L') acc C) hclos hcell hkind hnames hs H2 g2 o2
    (fun C D p => hself.tr (fun _ m => .tail _ (.tail _ m)) p) fun C D st a b d => codeAny_mono (q C D st a b d) fun r s' z => ?_
  cases r with
  | error e => exact z
  | ok f =>
    obtain ⟨L3, a3, b3, d3, m, L4, sl, qq⟩ := z
    refine ⟨L3, a3, b3, d3, fun s'' a4 b4 d4 => ?_⟩
    show compPost _ _ _ _ _ _ _ (.ok f) s''
    have K4 := a4.sel sl
    exact ⟨m, K4.ns (.head _), fun h' hs' => ⟨L4, K4.extBut hs'.extBut, b4, d4, qq⟩⟩
theorem tr_AssignComp {x : Str} {px : Pos} {elt target iter : Expr} {ifs : List Expr} {rest : List Comprehension} {scope : Scope} {cl : List (Str × Addr)} {spos : Pos} {Q : Flow → List Cell → Prop}
    (hsw : swapsWith (.ListComp elt (⟨target, iter, ifs, 0⟩ :: rest) scope pos) (some (.Name x px)) spos.line env = pure true)
    (hclos : closureFor scope env = pure cl) (hcell : ∀ y ∈ scope.names, y.2 ≠ .cell) (hkind : scope.kind = .function) (hnames : ∀ y ∈ scope.names, y.2 = .local → scope.names.lookup y.1 = some .local) (hs : ∀ x, foldedSetIterable iter env x = pure x)
    (h : Tr c (eval iter env) L fun x' L1 => Tr c (pyIter x') L1 fun iv L2 => ∃ it, iv = .ref it ∧ SelfIt it L2 ∧ ∀ C D,
      TrC c (.compLoop (.ListComp elt (⟨target, iter, ifs, 0⟩ :: rest) scope pos) 0 (.ref it) (.ref D) (compEnvC scope cl C env)) ((C, pNs fun _ => Option.none) :: (D, pList []) :: L2) fun _ L3 => Tr c (storeName env x (.ref D)) L3 fun _ L5 => ∃ m L6, Sel ((C, pNs m) :: L6) L5 ∧ Q .next L6) :
    Tr c (exec (.Assign [.Name x px] (.ListComp elt (⟨target, iter, ifs, 0⟩ :: rest) scope pos) spos) env) L Q := fun s H g o => by
  rw [exec_Assign_Name_used _ _ _ _ hsw]
  refine wpAny_bind (wpAny_standAt (wpAny_bind ?_))
  show wpAny _ c.A (do let _ ← comprehension (.ListComp elt (⟨target, iter, ifs, 0⟩ :: rest) scope pos) scope env _ (newList []) false (eval iter env) (some (assign (.Name x px) env))) _ _ s
  refine wpAny_bind (wpAny_mono (wpAny_comprehension_free (use := some (assign (.Name x px) env)) (Q := fun _ s' => ∃ L', Own c.h₀ s'.heap L' ∧ c.G s'.gens ∧ s'.os = c.O ∧ Q .next L') rfl hs hclos hkind hnames
    (h.use H g o fun x s1 L1 H1 g1 o1 q1 => q1.use H1 g1 o1 fun iv s2 L2 H2 g2 o2 q2 => ?_)) (fun _ s' hq => wpAny_pure (wpAny_pure hq)) fun _ _ e => e)
  obtain ⟨it, rfl, hself, q⟩ := q2
  refine tr_compBlock (RR := fun acc C => compPost (model c.prog c.w) c.A (fun _ _ => False) (some (assign (.Name _ px) env)) (fun v s' => ∃ L', Own c.h₀ s'.heap L' ∧ c.G s'.gens ∧ s'.os = c.O ∧ Q .next L') acc C) hclos hcell hkind hnames hs H2 g2 o2
    (fun C D p => hself.tr (fun _ m => .tail _ (.tail _ m)) p) fun C D st a b d => codeAny_mono (q C D st a b d) fun r s' z => ?_
  cases r with
  | error e => exact z
  | ok f =>
    obtain ⟨L3, a3, b3, d3, q3⟩ := z
    refine ⟨L3, a3, b3, d3, fun s'' a4 b4 d4 => ?_⟩
    refine wpAny_assign_Name (q3.use a4 b4 d4 fun _ s5 L5 H5 g5 o5 q5 => ?_)
    obtain ⟨m, L6, sl, qq⟩ := q5
    have K4 := H5.sel sl
    exact ⟨m, K4.ns (.head _), fun h' hs' => ⟨L6, K4.extBut hs'.extBut, g5, o5, qq⟩⟩
theorem tr_callC {name qual : Str} {params : Arguments} {body : List Stmt} {scope : Scope} {dV kV doc pm cdv ct oc : Value} {an od : Option Addr} {osl : Array (Option Value)} {f : Addr} {args : List Value} {binds : List (Str × Value)}
    {mL cm : Str → Option Value} {cs : Nat → List (Str × Addr)}
    {Q : Value → List Cell → Prop} (B : Bs K c mg mb) (R : Rm n c.A) (ho : K.lookup f = some ⟨oc, od, .func (fnOf name qual params body scope dV kV doc pm an cdv ct), osl⟩) (hcd : codeIn K cdv qual = true)
    (hbind : bindArgs (fnOf name qual params body scope dV kV doc pm an cdv ct) ⟨args, []⟩ = pure binds)
    (hcs : ∀ m, cellsFrom (m + 1) scope.names [] = cs m)
    (hnd : ∀ m, ∀ p ∈ cs m, (cs m).lookup p.1 = some p.2) (hloc : ∀ m, ∀ x ∈ binds, scope.names.lookup x.1 = some .local ∨ (scope.names.lookup x.1 = some .cell ∧ ((cs m).lookup x.1).isSome = true))
    (hL : bindL (fun y => scope.names.lookup y) binds (fun _ => Option.none) = mL) (hC : bindC (fun y => scope.names.lookup y) binds (fun _ => Option.none) = cm)
    (h : ∀ Lf, Tr (c.deeper (envX qual scope Lf f cdv (cs Lf))) (execs body (envX qual scope Lf f cdv (cs Lf))) ((Lf, pNs mL) :: ((cs Lf).map (fun p => (p.2, pCel (cm p.1))) ++ L)) fun fl L' => ∃ L'', Sel L'' L' ∧ Q (retOf fl) L'')
    (hco : scope.isCoroutine = false := by rfl) (hgen : scope.isGenerator = false := by rfl) (hk : scope.kind = .function := by rfl) : TrF c (.ref f) args L Q := by
  intro s H hg ho'
  refine codeAny_call_cells (fd := fnOf name qual params body scope dV kV doc pm an cdv ct) (body := body) (binds := binds) R.room (H.keep _ _ (B.X _ _ ho)) rfl H.limit
    (codeRec_of (B.X.keeps H.keep) hcd) rfl hbind rfl (by
      intro x hx
      rw [show cellsFrom (s.heap.objs.size + 1) (fnOf name qual params body scope dV kV doc pm an cdv ct).scope.names [] = cs s.heap.objs.size from hcs _]
      exact hloc _ x hx) (fun s₁ hin => ?_) hco hgen hk
  have hE : callEnvC (fnOf name qual params body scope dV kV doc pm an cdv ct) s.heap.objs.size f = envX qual scope s.heap.objs.size f cdv (cs s.heap.objs.size) := by
    rw [← hcs]; rfl
  rw [hE] at hin ⊢
  obtain ⟨⟨⟨h₁, tk, rfl⟩, hns, hkeep, hfresh⟩, hcell, hapart, habove⟩ := hin
  have hns' : h₁.Ns s.heap.objs.size mL := by rw [← hL]; exact hns
  have hcell' : ∀ p ∈ cs s.heap.objs.size, ∃ o, h₁.get? p.2 = some o ∧ pCel (cm p.1) o := fun p hp => by
    rw [← hC]; exact hcell p.1 p.2 (hnd _ p hp)
  have big : ∀ a, s.heap.objs.size ≤ a → c.h₀.get? a = Option.none := fun a ha => by
    cases q : c.h₀.get? a with
    | none => rfl
    | some o => exact absurd (Heap.lt_size (H.keep _ _ q)) (Nat.not_lt.mpr ha)
  have hab : ∀ p ∈ cs s.heap.objs.size, s.heap.objs.size < p.2 := fun p hp => habove p.1 p.2 hp
  have h2 := H.two
  have H' : Own c.h₀ h₁ ((s.heap.objs.size, pNs mL) :: ((cs s.heap.objs.size).map (fun p => (p.2, pCel (cm p.1))) ++ L)) := by
    refine ⟨fun b o e => hkeep b o (H.keep b o e), fun c' m => ?_, fun c' m => ?_, fun c' m => ?_, ?_, H.lim⟩
    · rcases List.mem_cons.mp m with rfl | m
      · exact of_ns hns'
      · rcases List.mem_append.mp m with m | m
        · obtain ⟨p, hp, rfl⟩ := List.mem_map.mp m; exact hcell' p hp
        · obtain ⟨o, e, q⟩ := H.has c' m; exact ⟨o, hkeep _ _ e, q⟩
    · rcases List.mem_cons.mp m with rfl | m
      · exact big _ (Nat.le_refl _)
      · rcases List.mem_append.mp m with m | m
        · obtain ⟨p, hp, rfl⟩ := List.mem_map.mp m; exact big _ (Nat.le_of_lt (hab p hp))
        · exact H.new c' m
    · rcases List.mem_cons.mp m with rfl | m
      · exact h2
      · rcases List.mem_append.mp m with m | m
        · obtain ⟨p, hp, rfl⟩ := List.mem_map.mp m; exact Nat.lt_trans h2 (hab p hp)
        · exact H.hi c' m
    · rw [List.map_cons, List.map_append, List.map_map, List.nodup_cons]
      refine ⟨fun hm => ?_, List.nodup_append.mpr ⟨?_, H.nd, fun x hx y hy q => ?_⟩⟩
      · rcases List.mem_append.mp hm with hm | hm
        · obtain ⟨p, hp, e⟩ := List.mem_map.mp hm
          have := hab p hp
          rw [show p.2 = s.heap.objs.size from e] at this
          exact Nat.lt_irrefl _ this
        · obtain ⟨c', hm, e⟩ := List.mem_map.mp hm
          have := H.lt hm
          rw [e] at this
          exact Nat.lt_irrefl _ this
      · show List.Pairwise _ _
        rw [List.pairwise_map]
        exact hapart
      · obtain ⟨p, hp, rfl⟩ := List.mem_map.mp hx
        obtain ⟨c', hm, rfl⟩ := List.mem_map.mp hy
        have a := H.lt hm
        have b := hab p hp
        rw [← show p.2 = c'.1 from q] at a
        exact Nat.lt_irrefl _ (Nat.lt_trans a b)
  refine (h s.heap.objs.size).use (s := { s with heap := h₁, toks := tk }) H' hg ho' fun fl s' L' H2 g' o' q => ?_
  obtain ⟨L'', sl, q⟩ := q
  exact ⟨L'', H2.sel sl, g', o', by cases fl <;> exact q⟩
end
end Mine
namespace Mine
def kasRun {α : Type} (lt : Nat → Nat → Bool) : KasT α → α
  | .ret a => a
  | .ask i j k => kasRun lt (k (lt i j))
def AskP {α : Type} (n : Nat) (P : α → Prop) : KasT α → Prop
  | .ret a => P a
  | .ask i j k => i < n ∧ j < n ∧ ∀ b, AskP n P (k b)
theorem AskP.bind {α β : Type} {n : Nat} {P : α → Prop} {P' : β → Prop} {f : α → KasT β} : ∀ {t : KasT α}, AskP n P t → (∀ a, P a → AskP n P' (f a)) → AskP n P' (t.bind f)
  | .ret a, h, k => k a h
  | .ask i j g, h, k => ⟨h.1, h.2.1, fun b => AskP.bind (h.2.2 b) k⟩
theorem AskP.run {α : Type} {n : Nat} {P : α → Prop} (lt : Nat → Nat → Bool) : ∀ {t : KasT α}, AskP n P t → P (kasRun lt t)
  | .ret a, h => h
  | .ask i j k, h => AskP.run (P := P) lt (t := k (lt i j)) (h.2.2 (lt i j))
theorem kasRun_bind {α β : Type} (lt : Nat → Nat → Bool) {f : α → KasT β} : ∀ (t : KasT α), kasRun lt (t.bind f) = kasRun lt (f (kasRun lt t))
  | .ret a => rfl
  | .ask i j k => kasRun_bind lt (k (lt i j))
theorem kasWp_pure {α : Type} {n : Nat} {P : α → Prop} {lt : Nat → Nat → Bool} {cmp : Nat → Nat → (Bool → Shared → Prop) → Shared → Prop} {Q : α → Shared → Prop} {s : Shared}
    (hc : ∀ i j C, i < n → j < n → C (lt i j) s → cmp i j C s) : ∀ {t : KasT α}, AskP n P t → Q (kasRun lt t) s → t.kasWp cmp Q s
  | .ret a, _, q => q
  | .ask i j k, h, q => hc i j _ h.1 h.2.1 (kasWp_pure hc (h.2.2 _) q)
def Ap (n : Nat) (p : Array Nat) : Prop := List.Perm p.toList (List.range n)
theorem Ap.lt {n : Nat} {p : Array Nat} (h : Ap n p) (hn : 0 < n) (i : Nat) : p.getD i 0 < n := by
  unfold Array.getD
  split
  · rename_i hi
    have : p.toList[i]'(by simpa using hi) ∈ p.toList := List.getElem_mem _
    have := (h.mem_iff).mp this
    simpa using this
  · exact hn
theorem Ap.rev {n : Nat} {p : Array Nat} (h : Ap n p) (i j : Nat) : Ap n (kas_rev p i j) := ((mirror_perm p i j _).toList.trans h)
theorem Ap.bub {n : Nat} {p : Array Nat} (h : Ap n p) (i j : Nat) : Ap n (bubble p i j) := ((bubble_perm p i j).toList.trans h)
theorem ask_asc {n : Nat} {p : Array Nat} (h : Ap n p) (hn : 0 < n) : ∀ (f m : Nat), AskP n (fun _ => True) (kas_asc p f m)
  | 0, _ => trivial
  | f + 1, m => ⟨h.lt hn _, h.lt hn _, fun b => by
    cases b with
    | true => exact trivial
    | false => exact ask_asc h hn f (m + 1)⟩
theorem ask_desc {n : Nat} (hn : 0 < n) : ∀ (f : Nat) (p : Array Nat) (m q : Nat), Ap n p → AskP n (fun r => Ap n r.1) (kas_desc f p m q)
  | 0, p, m, q, h => h
  | f + 1, p, m, q, h => ⟨h.lt hn _, h.lt hn _, fun b => by
    cases b with
    | true =>
      dsimp only
      rw [if_pos rfl]
      split
      · exact ask_desc hn f _ _ _ (h.rev _ _)
      · exact ask_desc hn f _ _ _ h
    | false =>
      dsimp only
      rw [if_neg Bool.false_ne_true]
      refine ⟨h.lt hn _, h.lt hn _, fun d => ?_⟩
      cases d with
      | true => exact h
      | false => exact ask_desc hn f _ _ _ h⟩
theorem ask_tail3 {n : Nat} (hn : 0 < n) {p : Array Nat} (h : Ap n p) (a b : Nat) : AskP n (fun r => Ap n r.2) (kas_tail3 a b p) :=
  AskP.bind (ask_asc (h.rev _ _) hn _ _) fun _ _ => h.rev _ _
theorem ask_descPart {n : Nat} (hn : 0 < n) {p : Array Nat} (h : Ap n p) (a b : Nat) : AskP n (fun r => Ap n r.2) (kas_descPart a b p) :=
  AskP.bind (ask_desc hn _ _ _ _ h) fun r hr => by
    split
    · exact ask_tail3 hn (hr.rev _ _) _ _
    · exact ask_tail3 hn hr _ _
theorem ask_count {n : Nat} (hn : 0 < n) {p : Array Nat} (h : Ap n p) (m : Nat) : AskP n (fun r => Ap n r.2) (kas_count m p) :=
  AskP.bind (ask_asc h hn _ _) fun a _ => by
    split
    · exact h
    · split
      · refine ⟨h.lt hn _, h.lt hn _, fun b => ?_⟩
        cases b with
        | true => exact h
        | false => exact ask_descPart hn (h.rev _ _) _ _
      · exact ask_descPart hn h _ _
theorem ask_place {n : Nat} (hn : 0 < n) {p : Array Nat} (h : Ap n p) (k : Nat) : ∀ (f l r : Nat), AskP n (fun _ => True) (kas_place p k f l r)
  | 0, _, _ => trivial
  | f + 1, l, r => by
    unfold kas_place
    split
    · exact trivial
    · refine ⟨h.lt hn _, h.lt hn _, fun b => ?_⟩
      cases b with
      | true => exact ask_place hn h k f _ _
      | false => exact ask_place hn h k f _ _
theorem ask_bin {n : Nat} (hn : 0 < n) : ∀ (f : Nat) (p : Array Nat) (k : Nat), Ap n p → AskP n (Ap n) (kas_bin f p k)
  | 0, p, k, h => h
  | f + 1, p, k, h => AskP.bind (ask_place hn h k _ _ _) fun l _ => ask_bin hn f _ _ (h.bub _ _)
theorem ask_sort {n : Nat} (hn : 0 < n) : AskP n (Ap n) (kas_sort n) :=
  AskP.bind (ask_count hn (show Ap n _ from List.Perm.refl _) n) fun r hr => by
    split
    · exact ask_bin hn _ _ _ hr
    · exact hr
def srt (lt : Nat → Nat → Bool) (vs : List Value) : List Value := if vs.length < 2 then vs else (kasRun lt (kas_sort vs.length)).toList.map fun i => vs.getD i Value.none
theorem srt_perm (lt : Nat → Nat → Bool) (vs : List Value) : List.Perm (srt lt vs) vs := by
  unfold srt
  split
  · exact .refl _
  · rename_i h
    have := (ask_sort (n := vs.length) (by omega)).run lt
    refine (List.Perm.map _ this).trans (.of_eq ?_)
    refine List.ext_getElem (by simp) fun i h1 h2 => ?_
    simp at h1
    simp [h1]
section
variable {K : Frag} {mg mb : Str → Option Value} {c : Cx} {L : List Cell} {env : Env} {n : Nat} {pos : Pos}
structure Cmp (c : Cx) (A : Around) (L : List Cell) (vs : List Value) (κ : SortKind) (lt : Nat → Nat → Bool) : Prop where
  kind : ∀ s : Shared, Own c.h₀ s.heap L → ∀ (Q : SortKind → Shared → Prop) E, Q κ s → wpAny (model c.prog c.w) A (keyKind' vs.toArray) Q E s
  ask : ∀ s : Shared, Own c.h₀ s.heap L → ∀ i j, i < vs.length → j < vs.length → ∀ (Q : Bool → Shared → Prop), Q (lt i j) s → wpAny (model c.prog c.w) A (keyLt' κ (vs.getD i Value.none) (vs.getD j Value.none)) Q (fun _ _ => False) s
theorem sort_body {a : Addr} {vs : List Value} {lt : Nat → Nat → Bool} {κ : SortKind} {A : Around} {L1 : List Cell} {s : Shared} {P : PySem.Fin → Shared → Prop} {E : Value → Shared → Prop} {k : Nat} (ho : s.heap.get? a = some (seqObj "list" vs.toArray k))
    (H1 : ∀ h', Heap.SameBut a s.heap h' → (∃ e, h'.get? a = some (seqObj "list" #[] e)) → Own c.h₀ h' L1) (hL1 : ∀ h', Own c.h₀ h' L1 → ∃ e, h'.get? a = some (seqObj "list" #[] e))
    (hC : 2 ≤ vs.length → Cmp c A L1 vs κ lt) (h64 : vs.length < 64)
    (h : ∀ h' e, Own c.h₀ h' L1 → (∀ h'', Heap.SameBut a h' h'' → h''.get? a = some (seqObj "list" (srt lt vs).toArray e) → P (.done (.ret .none)) { s with heap := h'' })) :
    wpAny (model c.prog c.w) A (Builtin.«list.sort» ⟨[.ref a], []⟩) P E s := by
  have s1 := Heap.SameBut.update s.heap a (Obj.mapSeq fun _ => (#[] : Array Value))
  obtain ⟨e1, ho1⟩ : ∃ e1, (s.heap.update a (Obj.mapSeq fun _ => (#[] : Array Value))).get? a = some (seqObj "list" #[] e1) := ⟨_, get?_update_seq ho fun _ => #[]⟩
  have K1 := H1 _ s1 ⟨e1, ho1⟩
  rw [list_sort_plain]
  refine wpAny_bind (listItems_at ho rfl ?_)
  refine wpAny_bind (listUpdate_at ho rfl ?_ (by rw [List.size_toArray, sizeLine_eq]; omega) (Nat.zero_le _))
  refine wpAny_bind (seqEpoch_at ho1 rfl ?_)
  refine wpAny_bind (wpAny_newTuple ?_ (by show vs.length ≤ _; rw [sizeLine_eq]; omega))
  refine wpAny_bind (wpAny_newList ?_ (Nat.zero_le _))
  refine wpAny_holding ?_
  show wpAny (model c.prog c.w) A _ P E { s with heap := ((s.heap.update a (Obj.mapSeq fun _ => (#[] : Array Value))).push (seqObj "tuple" vs.toArray 0)).push (seqObj "list" #[] 0) }
  have ho3 : (((s.heap.update a (Obj.mapSeq fun _ => (#[] : Array Value))).push (seqObj "tuple" vs.toArray 0)).push (seqObj "list" #[] 0)).get? a = some (seqObj "list" #[] e1) := Heap.get?_push_of_some _ (Heap.get?_push_of_some _ ho1)
  have K3 : Own c.h₀ (((s.heap.update a (Obj.mapSeq fun _ => (#[] : Array Value))).push (seqObj "tuple" vs.toArray 0)).push (seqObj "list" #[] 0)) L1 := K1.ext fun b o e => Heap.get?_push_of_some _ (Heap.get?_push_of_some _ e)
  generalize hH : ((s.heap.update a (Obj.mapSeq fun _ => (#[] : Array Value))).push (seqObj "tuple" vs.toArray 0)).push (seqObj "list" #[] 0) = h3 at ho3 K3 ⊢
  dsimp only
  have fin : ∀ (out : Array Value), out = (srt lt vs).toArray → out.size ≤ 64 → wpAny (model c.prog c.w) A (do
      let touched := (← seqEpoch a) != e1
      Builtin.List.listUpdate (.ref a) fun _ => out
      if let some e := (none : Option Value) then rule "list.sort.comparison-raised"; throw e
      if touched then rule "list.sort.modified"; raiseError "ValueError" "list modified during sort"
      ret .none) P E { s with heap := h3 } := by
    intro out hout hz
    obtain ⟨c2, hc2⟩ : ∃ c2, (h3.update a (Obj.mapSeq fun _ => out)).get? a = some (seqObj "list" out c2) := ⟨_, get?_update_seq ho3 fun _ => out⟩
    refine wpAny_bind (seqEpoch_at ho3 rfl ?_)
    refine wpAny_bind (listUpdate_at ho3 rfl ?_ (Nat.zero_le _) (by rw [sizeLine_eq]; omega))
    simp only [bne_self_eq_false, Bool.false_eq_true, if_false]
    refine wpAny_pure ?_
    exact h h3 c2 K3 _ (Heap.SameBut.update ..) (by rw [← hout]; exact hc2)
  by_cases h2 : vs.length < 2
  · have hn2 : vs.toArray.size < 2 := by rw [List.size_toArray]; exact h2
    rw [if_pos hn2, if_pos hn2]
    refine wpAny_bind (wpAny_pure ?_)
    refine wpAny_bind (wpAny_pure ?_)
    refine fin _ ?_ ?_
    · show ((vs.toArray.zip vs.toArray).map (·.2)) = _
      unfold srt
      rw [if_pos h2]
      apply Array.toList_inj.mp
      simp
      exact List.map_snd_zip (Nat.le_refl _)
    · show ((vs.toArray.zip vs.toArray).map (·.2)).size ≤ 64
      simp
      omega
  · have hn2 : ¬ vs.toArray.size < 2 := by rw [List.size_toArray]; exact h2
    rw [if_neg hn2, if_neg hn2]
    have C := hC (by omega)
    refine wpAny_bind (C.kind { s with heap := h3 } K3 _ _ ?_)
    have hw : (kas_sort vs.length).kasWp (kas_ask c.prog c.w A κ vs) (fun p s' => s' = { s with heap := h3 } ∧ p = kasRun lt (kas_sort vs.length) ∧ p.size = vs.length) { s with heap := h3 } := by
      have hask := ask_sort (n := vs.length) (by omega)
      refine kasWp_pure (lt := lt) (fun i j C' hi hj hq => C.ask { s with heap := h3 } K3 i j hi hj C' hq) hask ⟨rfl, rfl, ?_⟩
      have := (hask.run lt).length_eq
      simpa using this
    refine wpAny_bind (wpAny_mono (kat_run (E := E) (Q := fun st' s' => s' = { s with heap := h3 } ∧ arrOf st' = (kasRun lt (kas_sort vs.length)).map (kas_item (vs.toArray.zip vs.toArray)) ∧ failedOf st' = none)
      rfl (by omega) h64 (fun p' st' s' a1 a2 a3 a4 => ⟨a4.1, by rw [a2, a4.2.1], a3⟩) hw) ?_ fun _ _ e => e)
    rintro ⟨⟨⟩, st'⟩ s' ⟨rfl, har, hf⟩
    dsimp only
    rw [hf]
    have hout := kat_snds rfl har
    refine fin _ ?_ ?_
    · rw [hout]; unfold srt; rw [if_neg h2]
    · rw [hout, List.size_toArray, List.length_map]
      have := ((ask_sort (n := vs.length) (by omega)).run lt).length_eq
      simp at this
      simp
      omega
end
end Mine
namespace Mine
def kindV : Value → Nat
  | .int _ _ => 0
  | .str _ _ => 1
  | _ => 2
def vEq : Value → Value → Bool
  | .int a _, .int b _ => a == b
  | .str a _, .str b _ => a == b
  | _, _ => false
def vLt : Value → Value → Bool
  | .int a _, .int b _ => decide (a < b)
  | .str a _, .str b _ => decide (a.cps.toList < b.cps.toList)
  | _, _ => false
def lexB : List (Value × Value) → Bool → Bool
  | [], f => f
  | (p, q) :: r, f => if vEq p q then lexB r f else vLt p q
def rowLt (a b : List Value) : Bool := lexB (a.zip b) (decide (a.length < b.length))
def lts (rows : List (List Value)) (i j : Nat) : Bool := rowLt (rows.getD i []) (rows.getD j [])
inductive TupsIn (L : List Cell) : List Value → List (List Value) → Prop
  | nil : TupsIn L [] []
  | cons {T : Addr} {r : List Value} {vs : List Value} {rows : List (List Value)} (h : (T, pTup r) ∈ L) (t : TupsIn L vs rows) : TupsIn L (.ref T :: vs) (r :: rows)
theorem TupsIn.len {L : List Cell} : ∀ {vs rows}, TupsIn L vs rows → vs.length = rows.length
  | _, _, .nil => rfl
  | _, _, .cons _ t => by rw [List.length_cons, List.length_cons, t.len]
theorem TupsIn.get {L : List Cell} : ∀ {vs rows}, TupsIn L vs rows → ∀ {i}, i < vs.length → ∃ T, vs.getD i Value.none = .ref T ∧ (T, pTup (rows.getD i [])) ∈ L
  | _, _, .cons (T := T) h t, 0, _ => ⟨T, rfl, h⟩
  | _, _, .cons h t, i + 1, hi => t.get (i := i) (by simpa using hi)
section
variable {K : Frag} {mg mb : Str → Option Value} {c : Cx} {L : List Cell} {env : Env} {n : Nat} {pos : Pos}
theorem eqB {A : Around} {s : Shared} {p q : Value} {Q : Bool → Shared → Prop} (hk : kindV p = kindV q) (h2 : kindV p < 2) (h : Q (vEq p q) s) : wpAny (model c.prog c.w) A (eqBool p q) Q (fun _ _ => False) s := by
  cases p <;> cases q <;> simp [kindV] at hk h2 <;> first | exact wpAny_eqBool_int h | exact wpAny_eqBool_str h
theorem ltB {A : Around} {s : Shared} {p q : Value} {Q : Bool → Shared → Prop} (hk : kindV p = kindV q) (h2 : kindV p < 2) (h : Q (vLt p q) s) : wpAny (model c.prog c.w) A (oneLt' false p q) Q (fun _ _ => False) s := by
  cases p <;> cases q <;> simp [kindV] at hk h2
  · exact kat_one _ _ (PySem.P.lt_int h)
  · exact kat_one _ _ (PyProof.Rows.lt_str h)
theorem lexGo {A : Around} {s : Shared} {f : Bool} {Q : Bool → Shared → Prop} : ∀ (l : List (Value × Value)) (i : Nat), (∀ x ∈ l, kindV x.1 = kindV x.2 ∧ kindV x.1 < 2) → (i = 0 → ∀ x ∈ l.head?, kindV x.1 = 0) → Q (lexB l f) s → KatLex c.prog c.w A true f Q l i s
  | [], _, _, _, h => h
  | (p, q) :: r, i, hk, h0, h => by
    refine kat_cons (eqB (hk _ (.head _)).1 (hk _ (.head _)).2 ?_)
    unfold lexB at h
    cases e : vEq p q with
    | true =>
      rw [e, if_pos rfl] at h
      exact kat_yes (lexGo r (i + 1) (fun x m => hk x (.tail _ m)) (fun z => absurd z (Nat.succ_ne_zero _)) h)
    | false =>
      rw [e, if_neg (by decide)] at h
      refine kat_no ?_
      by_cases hi : i = 0
      · subst hi
        have a := h0 rfl (p, q) (by simp)
        have b := (hk _ (.head _)).1
        cases p <;> cases q <;> simp [kindV] at a b
        exact oneLt_int h
      · rw [show (true && i == 0) = false by simp [hi]]
        exact ltB (hk _ (.head _)).1 (hk _ (.head _)).2 h
theorem tupsKat {h : Heap} {c' : Cx} (H : Own c'.h₀ h L) : ∀ {vs rows}, TupsIn L vs rows → ∀ {ks : List Nat}, (∀ r ∈ rows, r.map kindV = 0 :: ks) → ∃ fs, KatTups h vs fs ∧ fs.length = vs.length ∧ ∀ v ∈ fs, ∃ i t, v = .int i t
  | _, _, .nil, _, _ => ⟨[], trivial, rfl, fun v h => nomatch h⟩
  | _, _, .cons (T := T) (r := r) m t, ks, hk => by
    obtain ⟨fs, a, b, d⟩ := tupsKat H t fun r' m' => hk r' (.tail _ m')
    obtain ⟨o, e, k, rfl⟩ := H.at m
    have := hk r (.head _)
    cases r with
    | nil => simp at this
    | cons x r =>
      simp at this
      cases x <;> simp [kindV] at this
      rename_i i u
      exact ⟨.int i u :: fs, KatTups.cons e rfl rfl (by simp) a, by simp [b], fun v hv => by
        rcases List.mem_cons.mp hv with rfl | hv
        · exact ⟨_, _, rfl⟩
        · exact d v hv⟩
theorem cmpTups {A : Around} {vs : List Value} {rows : List (List Value)} {ks : List Nat} (hT : TupsIn L vs rows) (hk : ∀ r ∈ rows, r.map kindV = 0 :: ks) (hks : ∀ k ∈ ks, k < 2) (h2 : 2 ≤ vs.length) : Cmp c A L vs (tuples' true) (lts rows) := by
  refine ⟨fun s H Q E h => ?_, fun s H i j hi hj Q h => ?_⟩
  · obtain ⟨fs, a, b, d⟩ := tupsKat H hT hk
    refine kat_kind (T := .type "int") a (by omega) (fun v hv => ?_) (by decide) h
    obtain ⟨i, t, rfl⟩ := d v hv
    exact Looks.of_pure rfl
  · obtain ⟨T1, e1, m1⟩ := hT.get hi
    obtain ⟨T2, e2, m2⟩ := hT.get hj
    rw [e1, e2]
    obtain ⟨o1, g1, k1, rfl⟩ := H.at m1
    obtain ⟨o2, g2, k2, rfl⟩ := H.at m2
    refine kat_lt g1 rfl g2 rfl ?_
    have r1 : rows.getD i [] ∈ rows := by rw [hT.len] at hi; simp [hi]
    have r2 : rows.getD j [] ∈ rows := by rw [hT.len] at hj; simp [hj]
    have q1 := hk _ r1
    have q2 := hk _ r2
    unfold lts rowLt at h
    rw [show (rows.getD i []).toArray.toList = rows.getD i [] from rfl, show (rows.getD j []).toArray.toList = rows.getD j [] from rfl, List.size_toArray, List.size_toArray]
    generalize rows.getD i [] = a1 at *
    generalize rows.getD j [] = a2 at *
    have hzip : ∀ (a b : List Value) (ks : List Nat), a.map kindV = ks → b.map kindV = ks → ∀ x ∈ a.zip b, kindV x.1 = kindV x.2 ∧ kindV x.1 ∈ ks := by
      intro a
      induction a with
      | nil => intro b ks _ _ x m; simp at m
      | cons p a ih =>
        intro b ks ha hb x m
        cases b with
        | nil => simp at m
        | cons q b =>
          cases ks with
          | nil => simp at ha
          | cons k ks =>
            simp at ha hb
            rw [List.zip_cons_cons] at m
            rcases List.mem_cons.mp m with rfl | m
            · exact ⟨ha.1.trans hb.1.symm, by rw [ha.1]; exact .head _⟩
            · have := ih b ks ha.2 hb.2 x m
              exact ⟨this.1, .tail _ this.2⟩
    refine lexGo _ 0 (fun x m => ?_) (fun _ x m => ?_) ?_
    · have := hzip a1 a2 _ q1 q2 x (by simpa using m)
      refine ⟨this.1, ?_⟩
      rcases List.mem_cons.mp this.2 with z | z
      · rw [z]; decide
      · exact hks _ z
    · cases a1 with
      | nil => simp at q1
      | cons p a1 =>
        cases a2 with
        | nil => simp at q2
        | cons q a2 =>
          simp at m q1
          subst m
          exact q1.1
    · exact h
theorem tr_sort {a : Addr} {vs : List Value} {rows : List (List Value)} {ks : List Nat} {L1 L2 : List Cell} {Q : Value → List Cell → Prop} (U : Upd1 a (pList vs) (pList []) L L1) (U2 : Upd1 a (pList []) (pList (srt (lts rows) vs)) L1 L2)
    (hT : TupsIn L1 vs rows) (hk : ∀ r ∈ rows, r.map kindV = 0 :: ks) (hks : ∀ k ∈ ks, k < 2) (h64 : vs.length < 64) (h : Q .none L2) : Tr c (call (.builtin "list.sort") [.ref a] []) L Q := fun s H g o => by
  obtain ⟨ob, e, k, rfl⟩ := H.at U.mem
  refine wpAny_call_entry PyProof.Rows.slot_list_sort ⟨_, e, rfl⟩ PyProof.Rows.entry_list_sort ?_ (PyProof.Rows.args_list_sort _)
  refine sort_body (c := c) (L1 := L1) (vs := vs) (lt := lts rows) (κ := tuples' true) e (fun h' hs he => ?_) (fun h' H1 => ?_) (fun h2 => cmpTups hT hk hks h2) h64 fun h' e' H1 h'' hs hq => ?_
  · obtain ⟨e1, he⟩ := he
    exact H.upd U hs he ⟨e1, rfl⟩
  · obtain ⟨o1, g1, k1, rfl⟩ := H1.at U2.mem
    exact ⟨k1, g1⟩
  · exact ⟨_, rfl, L2, H1.upd U2 hs hq ⟨e', rfl⟩, g, o, h⟩
end
end Mine
namespace Mine
inductive All2 {α β : Type} (R : α → β → Prop) : List α → List β → Prop
  | nil : All2 R [] []
  | cons {a b A B} (h : R a b) (t : All2 R A B) : All2 R (a :: A) (b :: B)
theorem All2.len {α β : Type} {R : α → β → Prop} : ∀ {A : List α} {B : List β}, All2 R A B → A.length = B.length
  | _, _, .nil => rfl
  | _, _, .cons _ t => by rw [List.length_cons, List.length_cons, t.len]
theorem All2.map {α β : Type} {γ : Type} {R : α → β → Prop} {f : α → γ} {g : β → γ} (h : ∀ a b, R a b → g b = f a) : ∀ {A : List α} {B : List β}, All2 R A B → B.map g = A.map f
  | _, _, .nil => rfl
  | _, _, .cons r t => by rw [List.map_cons, List.map_cons, h _ _ r, All2.map h t]
theorem All2.imp {α β : Type} {R S : α → β → Prop} (h : ∀ a b, R a b → S a b) : ∀ {A : List α} {B : List β}, All2 R A B → All2 S A B
  | _, _, .nil => .nil
  | _, _, .cons r t => .cons (h _ _ r) (t.imp h)
theorem All2.refl {α : Type} {R : α → α → Prop} (h : ∀ a, R a a) : ∀ (A : List α), All2 R A A
  | [] => .nil
  | a :: A => .cons (h a) (All2.refl h A)
theorem All2.mapR {α β : Type} {R : α → β → Prop} (f : α → β) : ∀ (A : List α), (∀ a ∈ A, R a (f a)) → All2 R A (A.map f)
  | [], _ => .nil
  | a :: A, h => .cons (h a (.head _)) (All2.mapR f A fun b m => h b (.tail _ m))
theorem All2.app {α β : Type} {R : α → β → Prop} : ∀ {A : List α} {B : List β} {A' : List α} {B' : List β}, All2 R A B → All2 R A' B' → All2 R (A ++ A') (B ++ B')
  | _, _, _, _, .nil, h => h
  | _, _, _, _, .cons r t, h => .cons r (t.app h)
theorem All2.trans {α β γ : Type} {R : α → β → Prop} {S : β → γ → Prop} {T : α → γ → Prop} (h : ∀ a b d, R a b → S b d → T a d) : ∀ {A : List α} {B : List β} {C : List γ}, All2 R A B → All2 S B C → All2 T A C
  | _, _, _, .nil, .nil => .nil
  | _, _, _, .cons r t, .cons s u => .cons (h _ _ _ r s) (t.trans h u)
theorem All2.right {α β : Type} {R : α → β → Prop} : ∀ {A : List α} {B : List β}, All2 R A B → ∀ b ∈ B, ∃ a ∈ A, R a b
  | _, _, .cons r t, b, m => by
    rcases List.mem_cons.mp m with rfl | m
    · exact ⟨_, .head _, r⟩
    · obtain ⟨a, h, q⟩ := t.right b m; exact ⟨a, .tail _ h, q⟩
theorem All2.left {α β : Type} {R : α → β → Prop} : ∀ {A : List α} {B : List β}, All2 R A B → ∀ a ∈ A, ∃ b ∈ B, R a b
  | _, _, .cons r t, b, m => by
    rcases List.mem_cons.mp m with rfl | m
    · exact ⟨_, .head _, r⟩
    · obtain ⟨a, h, q⟩ := t.left b m; exact ⟨a, .tail _ h, q⟩
theorem All2.mid {α β : Type} {R : α → β → Prop} : ∀ {A : List α} {D : α} {B : List α} {Y : List β}, All2 R (A ++ D :: B) Y → ∃ A' D' B', Y = A' ++ D' :: B' ∧ All2 R A A' ∧ R D D' ∧ All2 R B B'
  | [], D, B, _, .cons r t => ⟨[], _, _, rfl, .nil, r, t⟩
  | a :: A, D, B, _, .cons r t => by
    obtain ⟨A', D', B', rfl, h1, h2, h3⟩ := t.mid
    exact ⟨_ :: A', D', B', rfl, .cons r h1, h2, h3⟩

def Ext (kvs : List (Str × Value)) (Ds : List Dm) (g : Str → Int) : Prop := ∀ D ∈ Ds, match av kvs D.nm with | some a => g D.nm = a | Option.none => g D.nm ∈ D.vs
def gs (g : Str → Int) : List Dm → Int
  | [] => 0
  | D :: r => gs g r + g D.nm * D.f
def SatK (kind : Nat) (M : Int) (Ds : List Dm) (g : Str → Int) : Prop := if kind = 0 then gs g Ds ≤ M else if kind = 1 then gs g Ds ≥ M else gs g Ds = M
theorem gs_app (g : Str → Int) : ∀ (A B : List Dm), gs g (A ++ B) = gs g A + gs g B
  | [], B => by simp [gs]
  | D :: A, B => by rw [List.cons_append, gs, gs, gs_app g A B]; omega
theorem asgd_av {kvs : List (Str × Value)} {x : Str} (hk : IntKv kvs) (h : asgd kvs x = true) : ∃ a, av kvs x = some a := by
  obtain ⟨i, t, _, e⟩ := hk.some h; exact ⟨i, e⟩
theorem av_of_not {kvs : List (Str × Value)} {x : Str} (h : asgd kvs x = false) : av kvs x = Option.none := av_none h
def Dst (D D' : Dm) : Prop := D' = { D with vs := D'.vs, hs := D'.hs } ∧ ∃ lay, D'.hs = D.hs ++ lay ∧ List.Perm D.vs (D'.vs ++ lay)
structure CRes (Sat : (Str → Int) → Prop) (kvs : List (Str × Value)) (fwb : Bool) (Ds : List Dm) (b : Bool) (Ds' : List Dm) : Prop where
  shape : All2 (fun D D' => Dst D D' ∧ (asgd kvs D.nm = true ∨ fwb = false → D' = D)) Ds Ds'
  no : b = false → ∀ g, Ext kvs Ds g → ¬ Sat g
  yes : b = true → ∀ g, Ext kvs Ds g → Sat g → Ext kvs Ds' g
  all : b = true → missg kvs Ds = false → ∀ g, Ext kvs Ds g → Sat g
  live : b = true → (∀ D ∈ Ds, D.vs ≠ []) → ∀ D' ∈ Ds', D'.vs ≠ []
theorem Dst.refl (D : Dm) : Dst D D := ⟨rfl, [], by simp, by simp⟩
theorem Dst.prune (s M : Int) (D : Dm) : Dst D (prune s M D) := by
  refine ⟨rfl, _, rfl, ?_⟩
  show List.Perm D.vs (D.vs.filter _ ++ D.vs.filter _)
  exact (List.filter_append_perm _ _).symm
def PosD (kvs : List (Str × Value)) (Ds : List Dm) : Prop := ∀ D ∈ Ds, 0 ≤ D.f ∧ ∀ a ∈ D.vs, 0 ≤ a
theorem sum_ge {kvs : List (Str × Value)} {g : Str → Int} : ∀ {Ds : List Dm}, PosD kvs Ds → Ext kvs Ds g → psum kvs Ds ≤ gs g Ds
  | [], _, _ => Int.le_refl _
  | D :: r, p, e => by
    have ih := sum_ge (Ds := r) (fun E m => p E (.tail _ m)) (fun E m => e E (.tail _ m))
    have q := e D (.head _)
    unfold psum gs
    cases h : av kvs D.nm with
    | some a => rw [h] at q; dsimp only at q ⊢; rw [q]; omega
    | none =>
      rw [h] at q; dsimp only at q ⊢
      have := Int.mul_nonneg ((p D (.head _)).2 _ q) (p D (.head _)).1
      omega
theorem sum_eq {kvs : List (Str × Value)} {g : Str → Int} (hk : IntKv kvs) : ∀ {Ds : List Dm}, missg kvs Ds = false → Ext kvs Ds g → psum kvs Ds = gs g Ds
  | [], _, _ => rfl
  | D :: r, m, e => by
    have m' : asgd kvs D.nm = true ∧ missg kvs r = false := by simpa [missg] using m
    have ih := sum_eq hk (Ds := r) m'.2 (fun E m => e E (.tail _ m))
    obtain ⟨a, ha⟩ := asgd_av hk m'.1
    have q := e D (.head _)
    rw [ha] at q
    dsimp only at q
    unfold psum gs
    rw [ha, ih]
    dsimp only
    rw [q]
theorem sum_ge1 {kvs : List (Str × Value)} {g : Str → Int} {A : List Dm} {D : Dm} {B : List Dm} (p : PosD kvs (A ++ D :: B)) (e : Ext kvs (A ++ D :: B) g) (h : asgd kvs D.nm = false) : psum kvs (A ++ D :: B) + g D.nm * D.f ≤ gs g (A ++ D :: B) := by
  have a := sum_ge (Ds := A) (fun E m => p E (by simp [m])) (fun E m => e E (by simp [m]))
  have b := sum_ge (Ds := B) (fun E m => p E (by simp [m])) (fun E m => e E (by simp [m]))
  rw [psum_app, gs_app, psum, gs, av_of_not h]
  dsimp only
  omega
theorem psum_perm1 {kvs : List (Str × Value)} {A : List Dm} {D : Dm} {B : List Dm} : True := trivial

theorem ext_fine {kvs : List (Str × Value)} {Ds : List Dm} {g : Str → Int} {M : Int} (hk : IntKv kvs) (p : PosD kvs Ds) (e : Ext kvs Ds g) (hS : gs g Ds ≤ M) : Ext kvs (Ds.map (pr kvs (psum kvs Ds) M)) g := by
  intro D' m
  obtain ⟨D, hD, rfl⟩ := List.mem_map.mp m
  by_cases h : asgd kvs D.nm = true
  · rw [show pr kvs (psum kvs Ds) M D = D from if_pos h]
    exact e D hD
  · have h' : asgd kvs D.nm = false := by simpa using h
    have q := e D hD
    rw [show pr kvs (psum kvs Ds) M D = prune (psum kvs Ds) M D from if_neg h]
    show match av kvs D.nm with | some a => g D.nm = a | Option.none => g D.nm ∈ (prune (psum kvs Ds) M D).vs
    rw [av_of_not h'] at q ⊢
    dsimp only at q ⊢
    refine List.mem_filter.mpr ⟨q, ?_⟩
    obtain ⟨A, B, rfl⟩ := List.append_of_mem hD
    have := sum_ge1 p e h'
    simp
    omega
theorem shape_map {kvs : List (Str × Value)} {fwb : Bool} (Ds : List Dm) (S M : Int) (hf : fwb = true) : All2 (fun D D' => Dst D D' ∧ (asgd kvs D.nm = true ∨ fwb = false → D' = D)) Ds (Ds.map (pr kvs S M)) :=
  All2.mapR _ _ fun D _ => by
    unfold pr
    split
    · exact ⟨Dst.refl D, fun _ => rfl⟩
    · rename_i h
      exact ⟨Dst.prune _ _ _, fun q => by rcases q with q | q; exact absurd q h; rw [hf] at q; cases q⟩
theorem shape_same {kvs : List (Str × Value)} {fwb : Bool} (Ds : List Dm) : All2 (fun D D' => Dst D D' ∧ (asgd kvs D.nm = true ∨ fwb = false → D' = D)) Ds Ds := All2.refl (fun D => ⟨Dst.refl D, fun _ => rfl⟩) Ds
theorem shape_dead {kvs : List (Str × Value)} {fwb : Bool} {A : List Dm} {D : Dm} {B : List Dm} (S M : Int) (hf : fwb = true) (ha : asgd kvs D.nm = false) :
    All2 (fun D D' => Dst D D' ∧ (asgd kvs D.nm = true ∨ fwb = false → D' = D)) (A ++ D :: B) (A.map (pr kvs S M) ++ prune S M D :: B) :=
  (shape_map A S M hf).app (.cons ⟨Dst.prune _ _ _, fun q => by rcases q with q | q; rw [ha] at q; cases q; rw [hf] at q; cases q⟩ (shape_same B))
theorem live_map {kvs : List (Str × Value)} {Ds : List Dm} {S M : Int} (hv : ∀ D ∈ Ds, asgd kvs D.nm = false → (prune S M D).vs ≠ []) (h : ∀ D ∈ Ds, D.vs ≠ []) : ∀ D' ∈ Ds.map (pr kvs S M), D'.vs ≠ [] := by
  intro D' m
  obtain ⟨D, hD, rfl⟩ := List.mem_map.mp m
  unfold pr
  split
  · exact h D hD
  · rename_i q; exact hv D hD (by simpa using q)
theorem dead_no {kvs : List (Str × Value)} {A : List Dm} {D : Dm} {B : List Dm} {M : Int} {g : Str → Int} (p : PosD kvs (A ++ D :: B)) (ha : asgd kvs D.nm = false) (hv : (prune (psum kvs (A ++ D :: B)) M D).vs = []) (e : Ext kvs (A ++ D :: B) g) : ¬ gs g (A ++ D :: B) ≤ M := by
  intro hS
  have q := e D (by simp)
  rw [av_of_not ha] at q
  dsimp only at q
  have := sum_ge1 p e ha
  have z : g D.nm ∈ (prune (psum kvs (A ++ D :: B)) M D).vs := List.mem_filter.mpr ⟨q, by simp; omega⟩
  rw [hv] at z
  cases z
theorem MaxRes.res {kvs : List (Str × Value)} {M : Int} {fwb b : Bool} {Ds Ds' : List Dm} (hk : IntKv kvs) (p : PosD kvs Ds) (h : MaxRes kvs M fwb Ds b Ds') : CRes (SatK 0 M Ds) kvs fwb Ds b Ds' := by
  cases h with
  | over h => exact ⟨shape_same _, fun _ g e s => by have := sum_ge p e; have s' : gs g Ds ≤ M := s; omega, fun q => (nomatch q), fun q => (nomatch q), fun q => (nomatch q)⟩
  | plain h hf => exact ⟨shape_same _, fun q => (nomatch q), fun _ g e s => e, fun _ m g e => by have := sum_eq hk m e; show gs g Ds ≤ M; omega, fun _ h => h⟩
  | dead A D B h hf e ha hv =>
    subst e
    exact ⟨shape_dead _ _ hf ha, fun _ g e s => dead_no p ha hv e s, fun q => (nomatch q), fun q => (nomatch q), fun q => (nomatch q)⟩
  | fine h hf hv => exact ⟨shape_map _ _ _ hf, fun q => (nomatch q), fun _ g e s => ext_fine hk p e s, fun _ m g e => by have := sum_eq hk m e; show gs g Ds ≤ M; omega, fun _ h => live_map hv h⟩
theorem ExRes.res {kvs : List (Str × Value)} {M : Int} {fwb b : Bool} {Ds Ds' : List Dm} (hk : IntKv kvs) (p : PosD kvs Ds) (h : ExRes kvs M fwb Ds b Ds') : CRes (SatK 2 M Ds) kvs fwb Ds b Ds' := by
  have le : ∀ {g}, SatK 2 M Ds g → gs g Ds ≤ M := fun {g} s => by have s' : gs g Ds = M := s; omega
  cases h with
  | over h => exact ⟨shape_same _, fun _ g e s => by have := sum_ge p e; have := le s; omega, fun q => (nomatch q), fun q => (nomatch q), fun q => (nomatch q)⟩
  | plain h hf =>
    refine ⟨shape_same _, fun q g e s => ?_, fun _ g e s => e, fun q m g e => ?_, fun _ h => h⟩
    · cases hm : missg kvs Ds with
      | true => rw [hm] at q; cases q
      | false =>
        rw [hm, if_neg (by decide)] at q
        have := sum_eq hk hm e
        have s' : gs g Ds = M := s
        have q' : ¬ psum kvs Ds = M := by simpa using q
        omega
    · rw [m, if_neg (by decide)] at q
      have := sum_eq hk m e
      have q' : psum kvs Ds = M := by simpa using q
      show gs g Ds = M
      omega
  | dead A D B h hf e ha hv =>
    subst e
    exact ⟨shape_dead _ _ hf ha, fun _ g e s => dead_no p ha hv e (le s), fun q => (nomatch q), fun q => (nomatch q), fun q => (nomatch q)⟩
  | fine h hf hm hv => exact ⟨shape_map _ _ _ hf, fun q => (nomatch q), fun _ g e s => ext_fine hk p e (le s), fun _ m => absurd (hm.symm.trans m) (by decide), fun _ h => live_map hv h⟩
theorem min_res {kvs : List (Str × Value)} {M : Int} {fwb : Bool} {Ds : List Dm} (hk : IntKv kvs) : CRes (SatK 1 M Ds) kvs fwb Ds (if missg kvs Ds then true else decide (psum kvs Ds ≥ M)) Ds := by
  refine ⟨shape_same _, fun q g e s => ?_, fun _ g e s => e, fun q m g e => ?_, fun _ h => h⟩
  · cases hm : missg kvs Ds with
    | true => rw [hm] at q; cases q
    | false =>
      rw [hm, if_neg (by decide)] at q
      have := sum_eq hk hm e
      have s' : gs g Ds ≥ M := s
      have q' : ¬ psum kvs Ds ≥ M := by simpa using q
      omega
  · rw [m, if_neg (by decide)] at q
    have := sum_eq hk m e
    have q' : psum kvs Ds ≥ M := by simpa using q
    show gs g Ds ≥ M
    omega
theorem join2 {c : Cx} {L : List Cell} {b : Bool} {P1 P2 : Sem Flow} {Qn : List Cell → Prop} {Q : Flow → List Cell → Prop} (J : List Cell → Prop) (hJ : ∀ L', J L' → Qn L') (h1 : b = true → Tr c P1 L (Nx J Q)) (h2 : b = false → Tr c P2 L (Nx J Q)) :
    (b = true → Tr c P1 L (Nx Qn Q)) ∧ (b = false → Tr c P2 L (Nx Qn Q)) :=
  ⟨fun h => (h1 h).mono fun f L' q => by cases f <;> first | exact hJ _ q | exact q, fun h => (h2 h).mono fun f L' q => by cases f <;> first | exact hJ _ q | exact q⟩
def tcs (ts : List (Addr × List Value)) : List Cell := ts.map fun p => (p.1, pTup p.2)
def refs (ts : List (Addr × List Value)) : List Value := ts.map fun p => .ref p.1
theorem mem_tcs {ts : List (Addr × List Value)} {p : Addr × List Value} (h : p ∈ ts) : (p.1, pTup p.2) ∈ tcs ts := List.mem_map.mpr ⟨p, h, rfl⟩
theorem tupsIn_of {L : List Cell} : ∀ {ts : List (Addr × List Value)}, (∀ p ∈ ts, (p.1, pTup p.2) ∈ L) → TupsIn L (refs ts) (ts.map (·.2))
  | [], _ => .nil
  | p :: ts, h => .cons (h p (.head _)) (tupsIn_of fun q m => h q (.tail _ m))
theorem perm_map_inv {α β : Type} (f : α → β) : ∀ {l : List α} {m : List β}, List.Perm m (l.map f) → ∃ l', List.Perm l' l ∧ m = l'.map f := by
  intro l m h
  generalize hx : l.map f = x at h
  induction h generalizing l with
  | nil => exact ⟨[], by cases l <;> simp_all, rfl⟩
  | @cons a m1 m2 _ ih =>
    cases l with
    | nil => simp at hx
    | cons b l =>
      simp at hx
      obtain ⟨l', p, e⟩ := ih hx.2
      exact ⟨b :: l', p.cons b, by rw [List.map_cons, e, hx.1]⟩
  | @swap a b m =>
    match l, hx with
    | x :: y :: l, hx =>
      simp at hx
      exact ⟨y :: x :: l, .swap _ _ _, by simp [hx.1, hx.2.1, hx.2.2]⟩
  | @trans m1 m2 m3 _ _ ih1 ih2 =>
    obtain ⟨l2, p2, e2⟩ := ih2 hx
    obtain ⟨l1, p1, e1⟩ := ih1 e2.symm
    exact ⟨l1, p1.trans p2, e1⟩
theorem srt_refs (lt : Nat → Nat → Bool) (ts : List (Addr × List Value)) : ∃ ts', List.Perm ts' ts ∧ srt lt (refs ts) = refs ts' := perm_map_inv _ (srt_perm lt (refs ts))
end Mine
namespace Mine
theorem any_of_not {kvs : List (Str × Value)} {x : Str} (h : asgd kvs x = false) : kvs.any (fun kv => decide (kv.1 = x)) = false := by
  unfold asgd valueAt at h
  cases q : kvs.any (fun kv => decide (kv.1 = x)) with
  | false => rfl
  | true =>
    obtain ⟨p, hp, e⟩ := List.any_eq_true.mp q
    have : (kvs.find? fun kv => decide (kv.1 = x)).isSome = true := List.find?_isSome.mpr ⟨p, hp, e⟩
    rw [Option.isSome_map, this] at h
    cases h
theorem stored_new {kvs : List (Str × Value)} {x : Str} {v : Value} (h : asgd kvs x = false) : stored kvs x v = kvs ++ [(x, v)] := by
  unfold stored
  rw [any_of_not h]
  simp
theorem keys_ne {kvs : List (Str × Value)} {x : Str} (h : asgd kvs x = false) : ∀ p ∈ kvs, p.1 ≠ x := fun p hp e => by
  have := any_of_not h
  rw [List.any_eq_false] at this
  exact this p hp (by simpa using e)
theorem stored_stored {kvs : List (Str × Value)} {x : Str} {v w : Value} (h : asgd kvs x = false) : stored (stored kvs x v) x w = stored kvs x w := by
  rw [stored_new h, stored_new h]
  unfold stored
  rw [if_pos (by simp)]
  rw [List.map_append]
  congr 1
  · refine (List.map_congr_left fun p hp => if_neg (keys_ne h p hp)).trans ?_
    simp
  · simp
theorem without_stored {kvs : List (Str × Value)} {x : Str} {v : Value} (h : asgd kvs x = false) : without (stored kvs x v) x = kvs := by
  rw [stored_new h]
  unfold without
  rw [List.filter_append]
  have e : kvs.filter (fun kv => decide (kv.1 ≠ x)) = kvs := List.filter_eq_self.mpr fun p hp => by simpa using keys_ne h p hp
  rw [e]
  simp
theorem valueAt_stored {kvs : List (Str × Value)} {x y : Str} {v : Value} (h : asgd kvs x = false) : valueAt (stored kvs x v) y = if y = x then some v else valueAt kvs y := by
  rw [stored_new h]
  unfold valueAt
  rw [List.find?_append]
  by_cases e : y = x
  · subst e
    rw [if_pos rfl]
    have : kvs.find? (fun kv => decide (kv.1 = y)) = Option.none := List.find?_eq_none.mpr fun p hp => by simpa using keys_ne h p hp
    rw [this]
    simp
  · rw [if_neg e]
    cases q : kvs.find? (fun kv => decide (kv.1 = y)) with
    | some p => simp
    | none =>
      have : ¬ x = y := fun z => e z.symm
      simp [this]
theorem asgd_stored {kvs : List (Str × Value)} {x y : Str} {v : Value} (h : asgd kvs x = false) : asgd (stored kvs x v) y = (decide (y = x) || asgd kvs y) := by
  unfold asgd
  rw [valueAt_stored h]
  by_cases e : y = x <;> simp [e]
theorem av_stored {kvs : List (Str × Value)} {x y : Str} {i : Int} {t : Tok} (h : asgd kvs x = false) : av (stored kvs x (.int i t)) y = if y = x then some i else av kvs y := by
  unfold av
  rw [valueAt_stored h]
  by_cases e : y = x <;> simp [e]
theorem intKv_stored {kvs : List (Str × Value)} {x : Str} {i : Int} {t : Tok} (h : asgd kvs x = false) (hk : IntKv kvs) : IntKv (stored kvs x (.int i t)) := fun y v hv => by
  rw [valueAt_stored h] at hv
  by_cases e : y = x
  · rw [if_pos e] at hv; cases hv; exact ⟨_, _, rfl⟩
  · rw [if_neg e] at hv; exact hk y v hv
theorem stored_len {kvs : List (Str × Value)} {x : Str} {v : Value} (h : asgd kvs x = false) : (stored kvs x v).length = kvs.length + 1 := by rw [stored_new h]; simp

def uns (kvs : List (Str × Value)) (Ds : List Dm) : List Dm := Ds.filter fun D => !asgd kvs D.nm
theorem nm_inj {Ds : List Dm} (nd : (Ds.map (·.nm)).Nodup) {D E : Dm} (hD : D ∈ Ds) (hE : E ∈ Ds) (e : D.nm = E.nm) : D = E := by
  induction Ds with
  | nil => cases hD
  | cons F r ih =>
    rw [List.map_cons, List.nodup_cons] at nd
    rcases List.mem_cons.mp hD with kD | kD <;> rcases List.mem_cons.mp hE with kE | kE
    · rw [kD, kE]
    · exact (nd.1 (List.mem_map.mpr ⟨E, kE, by rw [← e, kD]⟩)).elim
    · exact (nd.1 (List.mem_map.mpr ⟨D, kD, by rw [e, kE]⟩)).elim
    · exact ih nd.2 kD kE
theorem uns_stored {kvs : List (Str × Value)} {v : Value} {Ds : List Dm} (nd : (Ds.map (·.nm)).Nodup) {D0 : Dm} (h0 : D0 ∈ Ds) (h : asgd kvs D0.nm = false) : (uns (stored kvs D0.nm v) Ds).length + 1 = (uns kvs Ds).length := by
  obtain ⟨A, B, rfl⟩ := List.append_of_mem h0
  have hA : ∀ E ∈ A ++ B, ¬ E.nm = D0.nm := fun E m e => by
    rw [List.map_append, List.map_cons] at nd
    have nd' := (List.nodup_append.mp nd)
    rcases List.mem_append.mp m with m | m
    · exact nd'.2.2 E.nm (List.mem_map.mpr ⟨E, m, rfl⟩) D0.nm (.head _) e
    · exact (List.nodup_cons.mp nd'.2.1).1 (List.mem_map.mpr ⟨E, m, e⟩)
  have e1 : ∀ (l : List Dm), (∀ E ∈ l, ¬ E.nm = D0.nm) → l.filter (fun D => !asgd (stored kvs D0.nm v) D.nm) = l.filter (fun D => !asgd kvs D.nm) := fun l hl =>
    List.filter_congr fun E m => by rw [asgd_stored h]; simp [hl E m]
  unfold uns
  rw [List.filter_append, List.filter_append, List.filter_cons, List.filter_cons, e1 A fun E m => hA E (by simp [m]), e1 B fun E m => hA E (by simp [m])]
  rw [asgd_stored h, h]
  simp
  omega
theorem Ext_stored {kvs : List (Str × Value)} {Ds : List Dm} (nd : (Ds.map (·.nm)).Nodup) {D0 : Dm} (h0 : D0 ∈ Ds) (h : asgd kvs D0.nm = false) {v : Int} {t : Tok} (hv : v ∈ D0.vs) {g : Str → Int} :
    Ext (stored kvs D0.nm (.int v t)) Ds g ↔ Ext kvs Ds g ∧ g D0.nm = v := by
  constructor
  · intro e
    have e0 := e D0 h0
    rw [av_stored h, if_pos rfl] at e0
    refine ⟨fun D hD => ?_, e0⟩
    have := e D hD
    rw [av_stored h] at this
    by_cases q : D.nm = D0.nm
    · have := nm_inj nd hD h0 q
      subst this
      rw [av_of_not h]
      dsimp only at e0 ⊢
      rw [e0]; exact hv
    · rw [if_neg q] at this; exact this
  · rintro ⟨e, e0⟩ D hD
    rw [av_stored h]
    by_cases q : D.nm = D0.nm
    · rw [if_pos q, q]; exact e0
    · rw [if_neg q]; exact e D hD

def PermD (kvs : List (Str × Value)) (D D' : Dm) : Prop := D' = { D with vs := D'.vs } ∧ List.Perm D.vs D'.vs ∧ (asgd kvs D.nm = true → D' = D)
theorem PermD.refl {kvs : List (Str × Value)} (D : Dm) : PermD kvs D D := ⟨rfl, .refl _, fun _ => rfl⟩
theorem PermD.trans {kvs : List (Str × Value)} {D E F : Dm} (h : PermD kvs D E) (k : PermD kvs E F) : PermD kvs D F := by
  obtain ⟨a, b, d⟩ := h
  obtain ⟨a', b', d'⟩ := k
  have en : E.nm = D.nm := by rw [a]
  refine ⟨?_, b.trans b', fun q => ?_⟩
  · rw [a', a]
  · have := d q; subst this; exact d' q
theorem PermD.nm {kvs : List (Str × Value)} {D E : Dm} (h : PermD kvs D E) : E.nm = D.nm := by rw [h.1]
theorem PermD.mono {kvs kvs' : List (Str × Value)} (hm : ∀ x, asgd kvs' x = true → asgd kvs x = true) {D E : Dm} (h : PermD kvs D E) : PermD kvs' D E := ⟨h.1, h.2.1, fun q => h.2.2 (hm _ q)⟩
abbrev PermDs (kvs : List (Str × Value)) (Ds Ds' : List Dm) : Prop := All2 (PermD kvs) Ds Ds'
section
variable {kvs : List (Str × Value)} {Ds Ds' : List Dm}
theorem PermDs.nms (h : PermDs kvs Ds Ds') : Ds'.map (·.nm) = Ds.map (·.nm) := All2.map (fun a b r => by rw [r.1]) h
theorem PermDs.fs (h : PermDs kvs Ds Ds') : Ds'.map (·.f) = Ds.map (·.f) := All2.map (fun a b r => by rw [r.1]) h
theorem PermDs.dm (h : PermDs kvs Ds Ds') : dmap Ds' = dmap Ds := All2.map (fun a b r => by rw [r.1]) h
theorem PermDs.ext (h : PermDs kvs Ds Ds') {kvs' : List (Str × Value)} {g : Str → Int} : Ext kvs' Ds' g ↔ Ext kvs' Ds g := by
  constructor
  · intro e D hD
    obtain ⟨D', hD', r⟩ := h.left D hD
    have := e D' hD'
    rw [r.nm] at this
    cases q : av kvs' D.nm with
    | some a => rw [q] at this; exact this
    | none => rw [q] at this; exact r.2.1.mem_iff.mpr this
  · intro e D' hD'
    obtain ⟨D, hD, r⟩ := h.right D' hD'
    have := e D hD
    rw [r.nm]
    cases q : av kvs' D.nm with
    | some a => rw [q] at this; exact this
    | none => rw [q] at this; exact r.2.1.mem_iff.mp this
end
theorem gs_congr {g : Str → Int} : ∀ {Ds Ds' : List Dm}, All2 (fun D D' => D'.nm = D.nm ∧ D'.f = D.f) Ds Ds' → gs g Ds' = gs g Ds
  | _, _, .nil => rfl
  | _, _, .cons r t => by rw [gs, gs, gs_congr t, r.1, r.2]
theorem SatK_congr {kind : Nat} {M : Int} {g : Str → Int} {Ds Ds' : List Dm} (h : All2 (fun D D' => D'.nm = D.nm ∧ D'.f = D.f) Ds Ds') : SatK kind M Ds' g ↔ SatK kind M Ds g := by
  unfold SatK; rw [gs_congr h]
theorem dcl_split (kvs : List (Str × Value)) (Ds : List Dm) : List.Perm (dcl Ds) (dcl (Ds.filter fun D => asgd kvs D.nm) ++ dcl (uns kvs Ds)) := by
  rw [← dcl_append]
  exact dcl_perm (List.filter_append_perm _ _).symm
theorem merge {kvs : List (Str × Value)} {R : Dm → Dm → Prop} : ∀ (Ds : List Dm) {O : List Dm}, All2 R (uns kvs Ds) O → ∃ Do, All2 (fun D D' => (asgd kvs D.nm = true → D' = D) ∧ (asgd kvs D.nm = false → R D D')) Ds Do ∧ List.Perm (dcl Do) (dcl (Ds.filter fun D => asgd kvs D.nm) ++ dcl O)
  | [], O, h => by
    cases h
    exact ⟨[], .nil, .refl _⟩
  | D :: Ds, O, h => by
    cases q : asgd kvs D.nm with
    | true =>
      have e : uns kvs (D :: Ds) = uns kvs Ds := by simp [uns, q]
      rw [e] at h
      obtain ⟨Do, a, b⟩ := merge Ds h
      refine ⟨D :: Do, .cons ⟨fun _ => rfl, fun z => absurd (q.symm.trans z) (by decide)⟩ a, ?_⟩
      rw [dcl_cons, List.filter_cons, if_pos q, dcl_cons, List.append_assoc]
      exact b.append_left _
    | false =>
      have e : uns kvs (D :: Ds) = D :: uns kvs Ds := by simp [uns, q]
      rw [e] at h
      cases h with
      | @cons _ D' _ O' r t =>
        obtain ⟨Do, a, b⟩ := merge Ds t
        refine ⟨D' :: Do, .cons ⟨fun z => absurd (q.symm.trans z) (by decide), fun _ => r⟩ a, ?_⟩
        rw [dcl_cons, List.filter_cons, if_neg (by rw [q]; decide), dcl_cons]
        refine (b.append_left _).trans ?_
        rw [← List.append_assoc, ← List.append_assoc]
        exact List.Perm.append_right _ List.perm_append_comm
def RelP (kvs : List (Str × Value)) (D D' : Dm) : Prop := (asgd kvs D.nm = true → D' = D) ∧ (asgd kvs D.nm = false → D' = { D with vs := D'.vs, hs := D'.hs, ss := D.ss ++ [(D.vs.length : Int)] } ∧ ∃ lay, D'.hs = D.hs ++ lay ∧ List.Perm D.vs (D'.vs ++ lay))
def RelU (D D' : Dm) : Prop := D' = { D with vs := D'.vs, hs := D'.hs, ss := D.ss ++ [(D.vs.length : Int)] } ∧ ∃ lay, D'.hs = D.hs ++ lay ∧ List.Perm D.vs (D'.vs ++ lay)
theorem RelP.nm {kvs : List (Str × Value)} {D D' : Dm} (h : RelP kvs D D') : D'.nm = D.nm := by
  cases q : asgd kvs D.nm with
  | true => rw [h.1 q]
  | false => rw [(h.2 q).1]
theorem relP_split {kvs : List (Str × Value)} : ∀ {Ds Dr : List Dm}, All2 (RelP kvs) Ds Dr → (Dr.filter fun D => asgd kvs D.nm) = (Ds.filter fun D => asgd kvs D.nm) ∧ All2 RelU (uns kvs Ds) (uns kvs Dr)
  | _, _, .nil => ⟨rfl, .nil⟩
  | D :: _, D' :: _, .cons r t => by
    obtain ⟨a, b⟩ := relP_split t
    have e := r.nm
    unfold uns at *
    rw [List.filter_cons, List.filter_cons, List.filter_cons, List.filter_cons, e]
    cases q : asgd kvs D.nm with
    | true => simp [a, b, r.1 q]
    | false => simp [a]; exact .cons (r.2 q) b
end Mine
namespace Mine
abbrev Rising (l : List Nat) : Prop := l.Pairwise (· < ·)
def Bel (xs : Array Nat) (j r : Nat) : Prop := r ≤ xs.size ∧ (∀ k, k < r → xs.getD k 0 < j) ∧ ∀ k, r ≤ k → k < xs.size → j ≤ xs.getD k 0
theorem rising_lt {xs : Array Nat} (h : Rising xs.toList) {a b : Nat} (hab : a < b) (hb : b < xs.size) : xs.getD a 0 < xs.getD b 0 := by
  have ha : a < xs.size := by omega
  have := (List.pairwise_iff_getElem.mp h) a b (by simpa using ha) (by simpa using hb) hab
  simpa [Array.getD, ha, hb] using this
theorem below_go {xs : Array Nat} (h : Rising xs.toList) {j : Nat} : ∀ (fuel lo hi : Nat), hi - lo ≤ fuel → lo ≤ hi → hi ≤ xs.size → (∀ k, k < lo → xs.getD k 0 < j) → (∀ k, hi ≤ k → k < xs.size → j ≤ xs.getD k 0) → Bel xs j (SetTable.below.go xs j fuel lo hi)
  | 0, lo, hi, hf, hl, hs, h1, h2 => by
    have : lo = hi := by omega
    subst this
    exact ⟨hs, h1, h2⟩
  | fuel + 1, lo, hi, hf, hl, hs, h1, h2 => by
    unfold SetTable.below.go
    by_cases hlt : lo < hi
    · rw [if_pos hlt]
      dsimp only
      have m1 : lo ≤ (lo + hi) / 2 := by omega
      have m2 : (lo + hi) / 2 < hi := by omega
      rw [show xs.getD ((lo + hi) / 2) j = xs.getD ((lo + hi) / 2) 0 by have : (lo + hi) / 2 < xs.size := by omega
                                                                        simp [Array.getD, this]]
      by_cases hc : xs.getD ((lo + hi) / 2) 0 < j
      · rw [if_pos hc]
        refine below_go h fuel _ _ (by omega) (by omega) hs (fun k hk => ?_) h2
        by_cases e : k = (lo + hi) / 2
        · rw [e]; exact hc
        · exact Nat.lt_trans (rising_lt h (by omega) (by omega)) hc
      · rw [if_neg hc]
        refine below_go h fuel _ _ (by omega) (by omega) (by omega) h1 (fun k hk hk2 => ?_)
        by_cases e : k = (lo + hi) / 2
        · rw [e]; omega
        · have := rising_lt h (a := (lo + hi) / 2) (b := k) (by omega) hk2
          omega
    · rw [if_neg hlt]
      have : lo = hi := by omega
      subst this
      exact ⟨hs, h1, h2⟩
theorem below_bel {xs : Array Nat} (h : Rising xs.toList) (j : Nat) : Bel xs j (SetTable.below xs j) :=
  below_go h _ _ _ (by omega) (Nat.zero_le _) (Nat.le_refl _) (fun k hk => absurd hk (Nat.not_lt_zero _)) fun k hk hk2 => absurd hk2 (by omega)
theorem slot_of {t : SetTable} (hd : t.dummies = #[]) (hr : Rising t.place.toList) (j : Nat) : (j ∈ t.place.toList ∧ ∃ i, t.slot j = .live i ∧ t.place[i]? = some j) ∨ (j ∉ t.place.toList ∧ t.slot j = .empty) := by
  obtain ⟨b1, b2, b3⟩ := below_bel hr j
  unfold SetTable.slot
  dsimp only
  by_cases hm : j ∈ t.place.toList
  · refine .inl ⟨hm, SetTable.below t.place j, ?_⟩
    obtain ⟨k, hk, e⟩ := List.mem_iff_getElem.mp hm
    have hk' : k < t.place.size := by simpa using hk
    have ek : t.place.getD k 0 = j := by simp [Array.getD, hk']; simpa using e
    have h1 : SetTable.below t.place j ≤ k := by
      apply Nat.le_of_not_lt
      intro hlt
      have := b2 k hlt
      omega
    have h2 : SetTable.below t.place j = k := by
      apply Nat.le_antisymm h1
      apply Nat.le_of_not_lt
      intro hlt
      have a := rising_lt hr hlt hk'
      have b := b3 (SetTable.below t.place j) (Nat.le_refl _) (by omega)
      omega
    have h3 : t.place[SetTable.below t.place j]? = some j := by
      rw [h2, Array.getElem?_eq_getElem hk']
      simpa using e
    rw [h3]
    simp
  · refine .inr ⟨hm, ?_⟩
    have h3 : (t.place[SetTable.below t.place j]? == some j) = false := by
      rw [beq_eq_false_iff_ne]
      intro e
      obtain ⟨hlt, e⟩ := Array.getElem?_eq_some_iff.mp e
      exact hm (by rw [← e]; simp)
    rw [h3, hd]
    rfl

def nxt (mask : Nat) (p : SetTable.Probe) : SetTable.Probe :=
  if p.more > 0 then { p with j := p.j + 1, more := p.more - 1 } else
  let q := SetTable.leap mask p.i p.perturb
  { p with j := q.1, more := SetTable.runEnd mask q.1 - q.1, i := q.1, perturb := q.2 }
theorem advance_eq (t : SetTable) (p : SetTable.Probe) : t.advance p = nxt t.mask p := by
  unfold SetTable.advance nxt
  split <;> rfl
def itn (mask : Nat) : Nat → SetTable.Probe → SetTable.Probe
  | 0, p => p
  | n + 1, p => itn mask n (nxt mask p)
theorem itn_succ (mask n : Nat) (p : SetTable.Probe) : itn mask (n + 1) p = nxt mask (itn mask n p) := by
  induction n generalizing p with
  | zero => rfl
  | succ n ih => exact ih (nxt mask p)
theorem itn_add (mask : Nat) : ∀ (a b : Nat) (p : SetTable.Probe), itn mask (a + b) p = itn mask b (itn mask a p)
  | 0, b, p => by rw [Nat.zero_add]; rfl
  | a + 1, b, p => by rw [show a + 1 + b = (a + b) + 1 by omega]; exact itn_add mask a b (nxt mask p)
def bst (mask : Nat) (i q : Nat) : SetTable.Probe := { j := i, more := SetTable.runEnd mask i - i, i := i, perturb := q, dummy := none }
def st0 (mask : Nat) (h : Int) : SetTable.Probe := bst mask (SetTable.bits h % (mask + 1)) (SetTable.bits h)
theorem start_eq (t : SetTable) (h : Int) : t.probeStart h = st0 t.mask h := rfl
theorem more_le (mask i : Nat) : SetTable.runEnd mask i - i ≤ 9 := by unfold SetTable.runEnd; split <;> omega
theorem runEnd_le {mask i : Nat} (h : i ≤ mask) : SetTable.runEnd mask i ≤ mask := by unfold SetTable.runEnd; split <;> omega
theorem run_le (mask i : Nat) : i ≤ SetTable.runEnd mask i := by unfold SetTable.runEnd; split <;> omega
theorem in_block (mask i q : Nat) : ∀ k, k ≤ SetTable.runEnd mask i - i → itn mask k (bst mask i q) = { j := i + k, more := SetTable.runEnd mask i - i - k, i := i, perturb := q, dummy := none }
  | 0, _ => rfl
  | k + 1, h => by
    rw [itn_succ, in_block mask i q k (by omega)]
    unfold nxt
    rw [if_pos (by show SetTable.runEnd mask i - i - k > 0; omega)]
    show SetTable.Probe.mk (i + k + 1) (SetTable.runEnd mask i - i - k - 1) i q none = _
    rw [show i + k + 1 = i + (k + 1) by omega, show SetTable.runEnd mask i - i - k - 1 = SetTable.runEnd mask i - i - (k + 1) by omega]
theorem block (mask i q : Nat) : itn mask (SetTable.runEnd mask i - i + 1) (bst mask i q) = bst mask (SetTable.leap mask i q).1 (SetTable.leap mask i q).2 := by
  rw [itn_succ, in_block mask i q _ (Nat.le_refl _)]
  unfold nxt
  rw [if_neg (by show ¬ SetTable.runEnd mask i - i - (SetTable.runEnd mask i - i) > 0; omega)]
  rfl
def blk (mask : Nat) : Nat → Nat × Nat → Nat × Nat
  | 0, p => p
  | b + 1, p => blk mask b (SetTable.leap mask p.1 p.2)
theorem blk_add (mask : Nat) : ∀ (a b : Nat) (p : Nat × Nat), blk mask (a + b) p = blk mask b (blk mask a p)
  | 0, b, p => by rw [Nat.zero_add]; rfl
  | a + 1, b, p => by rw [show a + 1 + b = (a + b) + 1 by omega]; exact blk_add mask a b _
theorem blocks (mask : Nat) : ∀ (b i q : Nat), ∃ n, n ≤ 10 * b ∧ itn mask n (bst mask i q) = bst mask (blk mask b (i, q)).1 (blk mask b (i, q)).2
  | 0, i, q => ⟨0, Nat.le_refl _, rfl⟩
  | b + 1, i, q => by
    obtain ⟨n, hn, e⟩ := blocks mask b (SetTable.leap mask i q).1 (SetTable.leap mask i q).2
    refine ⟨SetTable.runEnd mask i - i + 1 + n, by have := more_le mask i; omega, ?_⟩
    rw [itn_add, block, e]
    rfl
theorem leap_lt (mask i q : Nat) : (SetTable.leap mask i q).1 ≤ mask := by
  have := Nat.mod_lt (i * 5 + 1 + q / 32) (show 0 < mask + 1 by omega)
  show (i * 5 + 1 + q / 32) % (mask + 1) ≤ mask
  omega
theorem blk_perturb (mask : Nat) : ∀ (b : Nat) (p : Nat × Nat), p.2 < 32 ^ b → (blk mask b p).2 = 0
  | 0, p, h => by simp at h; exact h
  | b + 1, p, h => blk_perturb mask b _ (by
    show p.2 / 32 < 32 ^ b
    rw [Nat.pow_succ] at h
    omega)
theorem blk_le (mask : Nat) : ∀ (b : Nat) (p : Nat × Nat), p.1 ≤ mask → (blk mask b p).1 ≤ mask
  | 0, _, h => h
  | b + 1, p, _ => blk_le mask b _ (leap_lt mask p.1 p.2)
def cyc (mask : Nat) : Nat → Nat → List Nat
  | 0, _ => []
  | n + 1, i => i :: cyc mask n ((i * 5 + 1) % (mask + 1))
theorem cyc_blk (mask : Nat) : ∀ (n i e : Nat), e ∈ cyc mask n i → ∃ b, b < n ∧ (blk mask b (i, 0)).1 = e
  | 0, _, _, h => nomatch h
  | n + 1, i, e, h => by
    rcases List.mem_cons.mp h with rfl | h
    · exact ⟨0, Nat.succ_pos _, rfl⟩
    · obtain ⟨b, hb, q⟩ := cyc_blk mask n _ e h
      refine ⟨b + 1, by omega, ?_⟩
      show (blk mask b ((i * 5 + 1 + 0 / 32) % (mask + 1), 0 / 32)).1 = e
      simpa using q
theorem cyc_full {mask : Nat} (hm : mask = 7 ∨ mask = 31) {i e : Nat} (hi : i ≤ mask) (he : e ≤ mask) : e ∈ cyc mask (mask + 1) i := by
  have key : ∀ m, m = 7 ∨ m = 31 → ((List.range (m + 1)).all fun i => (List.range (m + 1)).all fun e => (cyc m (m + 1) i).contains e) = true := by
    intro m hm
    rcases hm with rfl | rfl <;> decide +kernel
  have := List.all_eq_true.mp (List.all_eq_true.mp (key mask hm) i (List.mem_range.mpr (by omega))) e (List.mem_range.mpr (by omega))
  simpa using this
theorem bits_lt (h : Int) : SetTable.bits h < 2 ^ 64 := by
  unfold SetTable.bits
  have h1 := Int.emod_lt_of_pos h (show (0 : Int) < 2 ^ 64 by decide)
  have h2 := Int.emod_nonneg h (show (2 ^ 64 : Int) ≠ 0 by decide)
  omega
theorem cover_blk {mask : Nat} (hm : mask = 7 ∨ mask = 31) (h : Int) {e : Nat} (he : e ≤ mask) : ∃ b, b < 14 + mask ∧ (blk mask b (SetTable.bits h % (mask + 1), SetTable.bits h)).1 = e := by
  have h0 : (SetTable.bits h % (mask + 1)) ≤ mask := by have := Nat.mod_lt (SetTable.bits h) (show 0 < mask + 1 by omega); omega
  have hp := blk_perturb mask 13 (SetTable.bits h % (mask + 1), SetTable.bits h) (Nat.lt_trans (bits_lt h) (by decide))
  have hl := blk_le mask 13 (SetTable.bits h % (mask + 1), SetTable.bits h) h0
  obtain ⟨b, hb, q⟩ := cyc_blk mask _ _ e (cyc_full hm hl he)
  refine ⟨13 + b, by omega, ?_⟩
  rw [blk_add]
  rw [show blk mask 13 (SetTable.bits h % (mask + 1), SetTable.bits h) = ((blk mask 13 (SetTable.bits h % (mask + 1), SetTable.bits h)).1, 0) from Prod.ext rfl hp]
  exact q
theorem cover {mask : Nat} (hm : mask = 7 ∨ mask = 31) (h : Int) {e : Nat} (he : e ≤ mask) : ∃ n, n < 10 * SetTable.turns mask ∧ (itn mask n (st0 mask h)).j = e := by
  obtain ⟨b, hb, q⟩ := cover_blk hm h he
  obtain ⟨n, hn, e'⟩ := blocks mask b (SetTable.bits h % (mask + 1)) (SetTable.bits h)
  refine ⟨n, by unfold SetTable.turns; omega, ?_⟩
  unfold st0
  rw [e']
  exact q
theorem itn_dummy (mask : Nat) : ∀ (n : Nat) (p : SetTable.Probe), p.dummy = none → (itn mask n p).dummy = none
  | 0, _, h => h
  | n + 1, p, h => itn_dummy mask n _ (by unfold nxt; split <;> exact h)
theorem go_spec {t : SetTable} (hd : t.dummies = #[]) (hr : Rising t.place.toList) (hashAt : Nat → Int) (h : Int) : ∀ (fuel : Nat) (p : SetTable.Probe), p.dummy = none →
    (∃ n, n < fuel ∧ (itn t.mask n p).j ∉ t.place.toList ∧ (∀ m, m < n → (itn t.mask m p).j ∈ t.place.toList) ∧ SetTable.probe.go t hashAt h fuel p = some (.empty (itn t.mask n p).j none) ∧
        ∀ m, m < n → ∀ i, t.place[i]? = some (itn t.mask m p).j → hashAt i ≠ h) ∨
    (∃ n j i nx, n < fuel ∧ t.slot j = .live i ∧ t.place[i]? = some j ∧ hashAt i = h ∧ SetTable.probe.go t hashAt h fuel p = some (.candidate j i nx)) ∨
    (∀ n, n < fuel → (itn t.mask n p).j ∈ t.place.toList ∧ ∀ i, t.place[i]? = some (itn t.mask n p).j → hashAt i ≠ h)
  | 0, _, _ => .inr (.inr fun n hn => absurd hn (Nat.not_lt_zero _))
  | fuel + 1, p, hp => by
    have inj : ∀ i i' j, t.place[i]? = some j → t.place[i']? = some j → i = i' := fun i i' j a b => by
      obtain ⟨x, ex⟩ := Array.getElem?_eq_some_iff.mp a
      obtain ⟨y, ey⟩ := Array.getElem?_eq_some_iff.mp b
      have ex' : t.place.getD i 0 = j := by simp [Array.getD, x, ex]
      have ey' : t.place.getD i' 0 = j := by simp [Array.getD, y, ey]
      rcases Nat.lt_trichotomy i i' with z | z | z
      · have := rising_lt hr z y; omega
      · exact z
      · have := rising_lt hr z x; omega
    unfold SetTable.probe.go
    rcases slot_of hd hr p.j with ⟨hm, i, hs, hpl⟩ | ⟨hm, hs⟩
    · rw [hs]
      dsimp only
      by_cases hq : hashAt i = h
      · rw [if_pos (beq_iff_eq.mpr hq)]
        exact .inr (.inl ⟨0, p.j, i, _, Nat.succ_pos _, hs, hpl, hq, rfl⟩)
      · rw [if_neg (by simpa using hq)]
        have hne : ∀ i', t.place[i']? = some p.j → hashAt i' ≠ h := fun i' e => by rw [inj i' i p.j e hpl]; exact hq
        rw [advance_eq]
        have hp' : (nxt t.mask p).dummy = none := itn_dummy t.mask 1 p hp
        rcases go_spec hd hr hashAt h fuel (nxt t.mask p) hp' with ⟨n, a1, a2, a3, a4, a5⟩ | ⟨n, j, i', nx, a1, a2, a3, a4, a5⟩ | a
        · refine .inl ⟨n + 1, by omega, a2, fun m hmn => ?_, a4, fun m hmn => ?_⟩
          · cases m with
            | zero => exact hm
            | succ m => exact a3 m (by omega)
          · cases m with
            | zero => exact hne
            | succ m => exact a5 m (by omega)
        · exact .inr (.inl ⟨n + 1, j, i', nx, by omega, a2, a3, a4, a5⟩)
        · refine .inr (.inr fun n hn => ?_)
          cases n with
          | zero => exact ⟨hm, hne⟩
          | succ n => exact a n (by omega)
    · rw [hs]
      refine .inl ⟨0, Nat.succ_pos _, hm, fun m hmn => absurd hmn (Nat.not_lt_zero _), ?_, fun m hmn => absurd hmn (Nat.not_lt_zero _)⟩
      show some (SetTable.Met.empty p.j p.dummy) = _
      rw [hp]; rfl
end Mine
namespace Mine
theorem len_le_of_subset {α : Type} : ∀ {l1 l2 : List α}, l1.Nodup → (∀ x ∈ l1, x ∈ l2) → l1.length ≤ l2.length
  | [], _, _, _ => Nat.zero_le _
  | x :: r, l2, nd, h => by
    obtain ⟨A, B, rfl⟩ := List.append_of_mem (h x (.head _))
    rw [List.nodup_cons] at nd
    have := len_le_of_subset (l1 := r) (l2 := A ++ B) nd.2 fun y hy => by
      have := h y (.tail _ hy)
      rcases List.mem_append.mp this with m | m
      · exact List.mem_append_left _ m
      · rcases List.mem_cons.mp m with rfl | m
        · exact absurd hy nd.1
        · exact List.mem_append_right _ m
    simp only [List.length_append, List.length_cons] at *
    omega
def Reach (mask : Nat) (P : List Nat) (h : Int) (q : Nat) : Prop := ∃ n, (itn mask n (st0 mask h)).j = q ∧ ∀ m, m < n → (itn mask m (st0 mask h)).j ∈ P
theorem Reach.mono {mask : Nat} {P P' : List Nat} {h : Int} {q : Nat} (r : Reach mask P h q) (hs : ∀ x ∈ P, x ∈ P') : Reach mask P' h q := let ⟨n, a, b⟩ := r; ⟨n, a, fun m hm => hs _ (b m hm)⟩
theorem itn_inv {mask : Nat} : ∀ (n : Nat) (p : SetTable.Probe), p.i ≤ mask → p.j + p.more = SetTable.runEnd mask p.i → (itn mask n p).j ≤ mask
  | 0, p, h1, h2 => by have := runEnd_le h1; show p.j ≤ mask; omega
  | n + 1, p, h1, h2 => by
    refine itn_inv n (nxt mask p) ?_ ?_
    · unfold nxt; split
      · exact h1
      · exact leap_lt mask p.i p.perturb
    · unfold nxt; split
      · show p.j + 1 + (p.more - 1) = SetTable.runEnd mask p.i; omega
      · have := run_le mask (SetTable.leap mask p.i p.perturb).1
        show (SetTable.leap mask p.i p.perturb).1 + (SetTable.runEnd mask (SetTable.leap mask p.i p.perturb).1 - (SetTable.leap mask p.i p.perturb).1) = SetTable.runEnd mask (SetTable.leap mask p.i p.perturb).1
        omega
theorem itn_le (mask : Nat) (h : Int) (n : Nat) : (itn mask n (st0 mask h)).j ≤ mask := by
  have h0 : (SetTable.bits h % (mask + 1)) ≤ mask := by have := Nat.mod_lt (SetTable.bits h) (show 0 < mask + 1 by omega); omega
  refine itn_inv n _ h0 ?_
  have := run_le mask (SetTable.bits h % (mask + 1))
  show (SetTable.bits h % (mask + 1)) + (SetTable.runEnd mask (SetTable.bits h % (mask + 1)) - (SetTable.bits h % (mask + 1))) = SetTable.runEnd mask (SetTable.bits h % (mask + 1))
  omega
structure TB (t : SetTable) (ps : List (Nat × Int × Value)) : Prop where
  pl : t.place.toList = ps.map (·.1)
  dm : t.dummies = #[]
  mq : t.mask = 7 ∨ t.mask = 31
  ri : Rising (ps.map (·.1))
  le : ∀ e ∈ ps, e.1 ≤ t.mask
  fi : ps.length ≤ t.mask
  re : ∀ e ∈ ps, Reach t.mask (ps.map (·.1)) e.2.1 e.1
theorem full_no {t : SetTable} {ps : List (Nat × Int × Value)} (T : TB t ps) : ∃ e, e ≤ t.mask ∧ e ∉ ps.map (·.1) := by
  apply Classical.byContradiction
  intro hno
  have : (List.range (t.mask + 1)).length ≤ (ps.map (·.1)).length := len_le_of_subset List.nodup_range fun x hx => by
    apply Classical.byContradiction
    intro hx'
    exact hno ⟨x, by have := List.mem_range.mp hx; omega, hx'⟩
  rw [List.length_range, List.length_map] at this
  have := T.fi
  omega
theorem probe_spec {t : SetTable} {ps : List (Nat × Int × Value)} (T : TB t ps) (hashAt : Nat → Int) (h : Int) :
    (∃ j i nx, t.slot j = .live i ∧ t.place[i]? = some j ∧ hashAt i = h ∧ t.probe hashAt h (t.probeStart h) = some (.candidate j i nx)) ∨
    (∃ j, j ∉ ps.map (·.1) ∧ j ≤ t.mask ∧ Reach t.mask (ps.map (·.1)) h j ∧ t.probe hashAt h (t.probeStart h) = some (.empty j none) ∧
      ∀ i e, ps[i]? = some e → e.2.1 = h → hashAt i = h → False) := by
  have hr : Rising t.place.toList := by rw [T.pl]; exact T.ri
  rw [start_eq]
  rcases go_spec T.dm hr hashAt h (10 * SetTable.turns t.mask) (st0 t.mask h) rfl with ⟨n, a1, a2, a3, a4, a5⟩ | ⟨n, j, i, nx, a1, a2, a3, a4, a5⟩ | a
  · rw [T.pl] at a2 a3
    refine .inr ⟨_, a2, itn_le _ _ _, ⟨n, rfl, a3⟩, a4, fun i e he hh hha => ?_⟩
    obtain ⟨n', r1, r2⟩ := T.re e (List.mem_of_getElem? he)
    rw [hh] at r1 r2
    have hpi : t.place[i]? = some e.1 := by
      rw [← Array.getElem?_toList, T.pl, List.getElem?_map, he]; rfl
    rcases Nat.lt_trichotomy n' n with z | z | z
    · exact a5 n' z i (by rw [r1]; exact hpi) hha
    · subst z
      exact a2 (by rw [r1]; exact List.mem_map.mpr ⟨e, List.mem_of_getElem? he, rfl⟩)
    · exact a2 (r2 n z)
  · exact .inl ⟨j, i, nx, a2, a3, a4, a5⟩
  · exfalso
    obtain ⟨e, he, hn⟩ := full_no T
    obtain ⟨n, hn1, hn2⟩ := cover T.mq h he
    have := (a n hn1).1
    rw [hn2, T.pl] at this
    exact hn this
theorem free_spec {t : SetTable} {ps : List (Nat × Int × Value)} (T : TB t ps) (h : Int) : ∃ j, j ∉ ps.map (·.1) ∧ j ≤ t.mask ∧ Reach t.mask (ps.map (·.1)) h j ∧ t.freeSlot h = some (j, false) := by
  rcases probe_spec T (fun _ => h + 1) h with ⟨j, i, nx, _, _, e, _⟩ | ⟨j, a, b, d, e, _⟩
  · omega
  · exact ⟨j, a, b, d, by unfold SetTable.freeSlot; rw [e]; rfl⟩
def insP (ps : List (Nat × Int × Value)) (p : Nat) (e : Nat × Int × Value) : List (Nat × Int × Value) := ps.take p ++ e :: ps.drop p
theorem mem_insP {ps : List (Nat × Int × Value)} {p : Nat} {e x : Nat × Int × Value} : x ∈ insP ps p e ↔ x = e ∨ x ∈ ps := by
  unfold insP
  rw [List.mem_append, List.mem_cons]
  constructor
  · rintro (h | h | h)
    · exact .inr (List.mem_of_mem_take h)
    · exact .inl h
    · exact .inr (List.mem_of_mem_drop h)
  · rintro (h | h)
    · exact .inr (.inl h)
    · rw [← List.take_append_drop p ps] at h
      rcases List.mem_append.mp h with h | h
      · exact .inl h
      · exact .inr (.inr h)
theorem insP_len (ps : List (Nat × Int × Value)) (p : Nat) (e : Nat × Int × Value) : (insP ps p e).length = ps.length + 1 := by
  unfold insP
  rw [List.length_append, List.length_cons, List.length_take, List.length_drop]
  omega
theorem put_spec {t : SetTable} {ps : List (Nat × Int × Value)} (T : TB t ps) {h : Int} {x : Value} {j : Nat} (hj : j ∉ ps.map (·.1)) (hm : j ≤ t.mask) (hr : Reach t.mask (ps.map (·.1)) h j) (hf : ps.length + 1 ≤ t.mask) :
    ∃ p, t.put j = ({ t with place := SetTable.insertAt t.place p j }, p) ∧ TB { t with place := SetTable.insertAt t.place p j } (insP ps p (j, h, x)) := by
  have hri : Rising t.place.toList := by rw [T.pl]; exact T.ri
  obtain ⟨b1, b2, b3⟩ := below_bel hri j
  have hsz : t.place.size = ps.length := by rw [← Array.length_toList, T.pl, List.length_map]
  refine ⟨SetTable.below t.place j, ?_, ?_⟩
  · unfold SetTable.put
    dsimp only
    rw [T.dm]
    rfl
  · generalize SetTable.below t.place j = p at *
    have hget : ∀ k (hk : k < ps.length), t.place.getD k 0 = (ps[k]).1 := fun k hk => by
      have : t.place.toList[k]? = (ps.map (·.1))[k]? := by rw [T.pl]
      rw [List.getElem?_map, List.getElem?_eq_getElem hk] at this
      rw [Array.getElem?_toList] at this
      simp [Array.getD, hsz, hk]
      rw [Array.getElem?_eq_getElem (by omega)] at this
      exact Option.some.inj this
    have hP : ∀ e ∈ insP ps p (j, h, x), e.1 ∈ (insP ps p (j, h, x)).map (·.1) := fun e he => List.mem_map.mpr ⟨e, he, rfl⟩
    have hsub : ∀ y ∈ ps.map (·.1), y ∈ (insP ps p (j, h, x)).map (·.1) := fun y hy => by
      obtain ⟨e, he, rfl⟩ := List.mem_map.mp hy
      exact hP e (mem_insP.mpr (.inr he))
    refine ⟨?_, T.dm, T.mq, ?_, fun e he => ?_, by rw [insP_len]; exact hf, fun e he => ?_⟩
    · show (SetTable.insertAt t.place p j).toList = _
      rw [SetTable.toList_insertAt, T.pl]
      simp [insP]
    · unfold insP
      rw [List.map_append, List.map_cons]
      refine List.pairwise_append.mpr ⟨?_, List.pairwise_cons.mpr ⟨fun y hy => ?_, ?_⟩, fun y hy z hz => ?_⟩
      · rw [List.map_take]; exact T.ri.sublist (List.take_sublist _ _)
      · obtain ⟨e, he, rfl⟩ := List.mem_map.mp hy
        obtain ⟨k, hk, e'⟩ := List.mem_drop_iff_getElem.mp he
        have := b3 (p + k) (by omega) (by omega)
        rw [hget _ (by omega), e'] at this
        have hne : e.1 ≠ j := fun q => hj (q ▸ List.mem_map.mpr ⟨e, List.mem_of_mem_drop he, rfl⟩)
        show j < e.1
        omega
      · rw [List.map_drop]; exact T.ri.sublist (List.drop_sublist _ _)
      · obtain ⟨e, he, rfl⟩ := List.mem_map.mp hy
        obtain ⟨k, hk, e'⟩ := List.mem_take_iff_getElem.mp he
        have h1 := b2 k (by omega)
        rw [hget _ (by omega), e'] at h1
        rcases List.mem_cons.mp hz with rfl | hz
        · exact h1
        · obtain ⟨f, hf', rfl⟩ := List.mem_map.mp hz
          obtain ⟨k', hk', e''⟩ := List.mem_drop_iff_getElem.mp hf'
          have := b3 (p + k') (by omega) (by omega)
          rw [hget _ (by omega), e''] at this
          omega
    · rcases mem_insP.mp he with rfl | he
      · exact hm
      · exact T.le e he
    · rcases mem_insP.mp he with rfl | he
      · exact hr.mono hsub
      · exact (T.re e he).mono hsub
end Mine
namespace Mine
theorem free_lay {mask : Nat} (hm : mask = 7 ∨ mask = 31) {owner : Array (Option Nat)} (hsz : owner.size = mask + 1) {h : Int} {P : List Nat} (hP : ∀ j, j ≤ mask → ((owner.getD j (some 0)).isNone = true ↔ j ∉ P)) (hnf : ∃ e, e ≤ mask ∧ e ∉ P) :
    ∃ j, SetTable.layClean.free mask owner (SetTable.turns mask) (SetTable.bits h % (mask + 1)) (SetTable.bits h) = some j ∧ j ≤ mask ∧ j ∉ P ∧ Reach mask P h j := by
  have h0 : (SetTable.bits h % (mask + 1)) ≤ mask := by have := Nat.mod_lt (SetTable.bits h) (show 0 < mask + 1 by omega); omega
  have key : ∀ (fuel b n : Nat), fuel + b = SetTable.turns mask → itn mask n (st0 mask h) = bst mask (blk mask b (SetTable.bits h % (mask + 1), SetTable.bits h)).1 (blk mask b (SetTable.bits h % (mask + 1), SetTable.bits h)).2 →
      (∀ m, m < n → (itn mask m (st0 mask h)).j ∈ P) → (∀ b', b' < b → (blk mask b' (SetTable.bits h % (mask + 1), SetTable.bits h)).1 ∈ P) →
      ∃ j, SetTable.layClean.free mask owner fuel (blk mask b (SetTable.bits h % (mask + 1), SetTable.bits h)).1 (blk mask b (SetTable.bits h % (mask + 1), SetTable.bits h)).2 = some j ∧ j ≤ mask ∧ j ∉ P ∧ Reach mask P h j := by
    intro fuel
    induction fuel with
    | zero =>
      intro b n hb e h1 h2
      exfalso
      obtain ⟨e', he, hne⟩ := hnf
      obtain ⟨b', hb', q⟩ := cover_blk hm h he
      exact hne (q ▸ h2 b' (by unfold SetTable.turns at hb; omega))
    | succ fuel ih =>
      intro b n hb e h1 h2
      have hi : (blk mask b (SetTable.bits h % (mask + 1), SetTable.bits h)).1 ≤ mask := blk_le mask b _ h0
      have hnx : blk mask (b + 1) (SetTable.bits h % (mask + 1), SetTable.bits h) = SetTable.leap mask (blk mask b (SetTable.bits h % (mask + 1), SetTable.bits h)).1 (blk mask b (SetTable.bits h % (mask + 1), SetTable.bits h)).2 := by rw [blk_add]; rfl
      generalize hbq : blk mask b (SetTable.bits h % (mask + 1), SetTable.bits h) = bq at *
      obtain ⟨i, q⟩ := bq
      dsimp only at *
      have hre := runEnd_le hi
      have hrl := run_le mask i
      unfold SetTable.layClean.free
      cases hf : (List.range (SetTable.runEnd mask i + 1 - i)).find? (fun k => (owner.getD (i + k) (some 0)).isNone) with
      | some k =>
        dsimp only
        obtain ⟨p1, p2, p3⟩ := List.find?_range_eq_some.mp hf
        have p2 := List.mem_range.mp p2
        refine ⟨i + k, rfl, by omega, (hP _ (by omega)).mp p1, n + k, ?_, fun m hmn => ?_⟩
        · rw [itn_add, e, in_block mask i q k (by omega)]
        · by_cases hlt : m < n
          · exact h1 m hlt
          · obtain ⟨k', rfl⟩ : ∃ k', m = n + k' := ⟨m - n, by omega⟩
            rw [itn_add, e, in_block mask i q k' (by omega)]
            have := p3 k' (by omega)
            apply Classical.byContradiction
            intro hno
            rw [(hP (i + k') (by omega)).mpr hno] at this
            cases this
      | none =>
        dsimp only
        have hall : ∀ k, k ≤ SetTable.runEnd mask i - i → i + k ∈ P := fun k hk => by
          have := List.find?_range_eq_none.mp hf k (by omega)
          apply Classical.byContradiction
          intro hno
          rw [(hP (i + k) (by omega)).mpr hno] at this
          cases this
        have := ih (b + 1) (n + (SetTable.runEnd mask i - i + 1)) (by omega) (by rw [itn_add, e, block, hnx]) (fun m hmn => ?_) (fun b' hb' => ?_)
        · rw [hnx] at this; exact this
        · by_cases hlt : m < n
          · exact h1 m hlt
          · obtain ⟨k', rfl⟩ : ∃ k', m = n + k' := ⟨m - n, by omega⟩
            rw [itn_add, e, in_block mask i q k' (by omega)]
            exact hall k' (by omega)
        · by_cases e' : b' = b
          · rw [e', hbq]; exact hall 0 (by omega)
          · exact h2 b' (by omega)
  exact key _ 0 0 (by omega) rfl (fun m hm => absurd hm (Nat.not_lt_zero _)) fun b hb => absurd hb (Nat.not_lt_zero _)
structure LayOk (mask : Nat) (hs : List Int) (owner : Array (Option Nat)) (pos : List Nat) : Prop where
  sz : owner.size = mask + 1
  nd : pos.Nodup
  le : ∀ j ∈ pos, j ≤ mask
  own : ∀ (j i : Nat), owner[j]? = some (some i) ↔ pos[i]? = some j
  re : ∀ (i : Nat) (h : Int) (j : Nat), hs[i]? = some h → pos[i]? = some j → Reach mask pos h j
theorem lay_fold {mask : Nat} (hm : mask = 7 ∨ mask = 31) {hs : List Int} (hlen : hs.length ≤ mask) : ∀ (rest done : List Int) (owner : Array (Option Nat)) (pos : List Nat), hs = done ++ rest → pos.length = done.length → LayOk mask hs owner pos →
    ∃ owner' pos', (rest.foldl (fun (acc : Option (Array (Option Nat) × Nat)) h => do
      let (owner, k) ← acc
      let j ← SetTable.layClean.free mask owner (SetTable.turns mask) (SetTable.bits h % (mask + 1)) (SetTable.bits h)
      pure (owner.setIfInBounds j (some k), k + 1)) (some (owner, done.length))) = some (owner', hs.length) ∧ pos'.length = hs.length ∧ LayOk mask hs owner' pos'
  | [], done, owner, pos, e, hl, L => by
    rw [List.append_nil] at e
    subst e
    exact ⟨owner, pos, rfl, hl, L⟩
  | h :: rest, done, owner, pos, e, hl, L => by
    have hk : hs[done.length]? = some h := by rw [e]; simp
    have hdl : done.length < hs.length := by rw [e]; simp
    obtain ⟨j, f1, f2, f3, f4⟩ := free_lay hm L.sz (h := h) (P := pos) (fun j hj => by
      constructor
      · intro hn hmem
        obtain ⟨i, hi, ei⟩ := List.mem_iff_getElem.mp hmem
        have := (L.own j i).mpr (by rw [List.getElem?_eq_getElem hi, ei])
        obtain ⟨hjs, ej⟩ := Array.getElem?_eq_some_iff.mp this
        simp [Array.getD, hjs, ej] at hn
      · intro hno
        have hjs : j < owner.size := by rw [L.sz]; omega
        cases q : owner[j]'hjs with
        | none => simp [Array.getD, hjs, q]
        | some i =>
          exfalso
          have := (L.own j i).mp (by rw [Array.getElem?_eq_getElem hjs, q])
          exact hno (List.mem_of_getElem? this)) (by
      apply Classical.byContradiction
      intro hno
      have : (List.range (mask + 1)).length ≤ pos.length := len_le_of_subset List.nodup_range fun x hx => by
        apply Classical.byContradiction
        intro hx'
        exact hno ⟨x, by have := List.mem_range.mp hx; omega, hx'⟩
      rw [List.length_range] at this
      omega)
    rw [List.foldl_cons]
    show ∃ owner' pos', (rest.foldl _ ((SetTable.layClean.free mask owner (SetTable.turns mask) (SetTable.bits h % (mask + 1)) (SetTable.bits h)).bind fun j => some (owner.setIfInBounds j (some done.length), done.length + 1))) = some (owner', hs.length) ∧ _
    rw [f1]
    have hjs : j < owner.size := by rw [L.sz]; omega
    have L' : LayOk mask hs (owner.setIfInBounds j (some done.length)) (pos ++ [j]) := by
      refine ⟨by rw [Array.size_setIfInBounds]; exact L.sz, ?_, fun x hx => ?_, fun j' i => ?_, fun i h' j' a b => ?_⟩
      · refine List.nodup_append.mpr ⟨L.nd, List.nodup_cons.mpr ⟨by simp, List.nodup_nil⟩, fun a ha b hb q => ?_⟩
        rw [List.mem_singleton] at hb
        exact f3 (by rw [← hb, ← q]; exact ha)
      · rcases List.mem_append.mp hx with hx | hx
        · exact L.le x hx
        · rw [List.mem_singleton.mp hx]; exact f2
      · by_cases ej : j' = j
        · subst ej
          rw [Array.getElem?_setIfInBounds_self_of_lt hjs]
          constructor
          · intro q
            have : done.length = i := by injection q with q; injection q
            rw [← this, List.getElem?_append_right (by omega), hl, Nat.sub_self]; rfl
          · intro q
            by_cases hi : i < pos.length
            · rw [List.getElem?_append_left hi] at q
              exact absurd (List.mem_of_getElem? q) f3
            · have : i = pos.length := by
                have := (List.getElem?_eq_some_iff.mp q).1
                rw [List.length_append, List.length_singleton] at this
                omega
              rw [this, hl]
        · rw [Array.getElem?_setIfInBounds_ne (fun q => ej q.symm)]
          rw [L.own j' i]
          by_cases hi : i < pos.length
          · rw [List.getElem?_append_left hi]
          · constructor
            · intro q
              have := (List.getElem?_eq_some_iff.mp q).1
              omega
            · intro q
              have h1 := (List.getElem?_eq_some_iff.mp q).1
              rw [List.length_append, List.length_singleton] at h1
              have : i = pos.length := by omega
              rw [this, List.getElem?_append_right (Nat.le_refl _), Nat.sub_self] at q
              injection q with q
              exact absurd q.symm ej
      · have hsub : ∀ y ∈ pos, y ∈ pos ++ [j] := fun y hy => List.mem_append_left _ hy
        by_cases hi : i < pos.length
        · rw [List.getElem?_append_left hi] at b
          exact (L.re i h' j' a b).mono hsub
        · have h1 := (List.getElem?_eq_some_iff.mp b).1
          rw [List.length_append, List.length_singleton] at h1
          have hi' : i = pos.length := by omega
          rw [hi', List.getElem?_append_right (Nat.le_refl _), Nat.sub_self] at b
          injection b with b
          rw [hi', hl, hk] at a
          injection a with a
          rw [← a, ← b]
          exact f4.mono hsub
    have := lay_fold hm hlen rest (done ++ [h]) (owner.setIfInBounds j (some done.length)) (pos ++ [j]) (by rw [e]; simp) (by rw [List.length_append, List.length_append, hl]; rfl) L'
    rw [List.length_append, List.length_singleton] at this
    exact this
theorem lay_clean {mask : Nat} (hm : mask = 7 ∨ mask = 31) {hs : List Int} (hlen : hs.length ≤ mask) : ∃ owner pos, SetTable.layClean mask hs.toArray = some owner ∧ pos.length = hs.length ∧ LayOk mask hs owner pos := by
  have L0 : LayOk mask hs (Array.replicate (mask + 1) none) [] := by
    refine ⟨by simp, List.nodup_nil, fun _ h => (nomatch h), fun j i => ?_, fun i h j _ b => by simp at b⟩
    constructor
    · intro q
      obtain ⟨_, e⟩ := Array.getElem?_eq_some_iff.mp q
      simp at e
    · intro q; simp at q
  obtain ⟨owner, pos, e, hl, L⟩ := lay_fold hm hlen hs [] _ [] rfl rfl L0
  refine ⟨owner, pos, ?_, hl, L⟩
  unfold SetTable.layClean
  rw [← Array.foldl_toList]
  show Option.map _ (List.foldl _ (some (Array.replicate (mask + 1) none, ([] : List Int).length)) hs) = _
  rw [e]; rfl
theorem laid_spec {mask : Nat} (hm : mask = 7 ∨ mask = 31) {es : Array (Int × Value)} (hlen : es.size ≤ mask) (finger moves : Nat) (led plain : Bool) :
    ∃ t order ps, SetTable.laid mask finger moves led plain (es.map (·.1)) = some (t, order) ∧ (order.filterMap (es[·]?)).toList = ps.map (·.2) ∧ List.Perm (ps.map (·.2)) es.toList ∧ TB t ps ∧ t.mask = mask ∧ t.led = led ∧ t.plain = plain := by
  obtain ⟨owner, pos, e, hl, L⟩ := lay_clean hm (hs := es.toList.map (·.1)) (by rw [List.length_map, Array.length_toList]; exact hlen)
  have hl : pos.length = es.size := by simpa using hl
  have ee : (es.map (·.1)) = (es.toList.map (·.1)).toArray := by apply Array.toList_inj.mp; simp
  let live := (List.range (mask + 1)).filterMap fun j => (owner.getD j none).map (j, ·)
  have hlive : ∀ j i, (j, i) ∈ live ↔ pos[i]? = some j := fun j i => by
    show (j, i) ∈ (List.range (mask + 1)).filterMap _ ↔ _
    rw [List.mem_filterMap, ← L.own]
    constructor
    · rintro ⟨j', hj', q⟩
      have hjs : j' < owner.size := by rw [L.sz]; exact List.mem_range.mp hj'
      cases o : owner[j']'hjs with
      | none => simp [Array.getD, hjs, o] at q
      | some i' =>
        simp [Array.getD, hjs, o] at q
        obtain ⟨rfl, rfl⟩ := q
        rw [Array.getElem?_eq_getElem hjs, o]
    · intro q
      obtain ⟨hjs, o⟩ := Array.getElem?_eq_some_iff.mp q
      refine ⟨j, List.mem_range.mpr (by rw [← L.sz]; exact hjs), ?_⟩
      simp [Array.getD, hjs, o]
  have hlt : ∀ j i, (j, i) ∈ live → i < es.size := fun j i h => by
    have := (List.getElem?_eq_some_iff.mp ((hlive j i).mp h)).1
    omega
  have hri : (live.map (·.1)).Pairwise (· < ·) := by
    rw [List.pairwise_map]
    refine List.Pairwise.filterMap _ (fun a a' hlt b hb b' hb' => ?_) List.pairwise_lt_range
    cases o : owner.getD a none with
    | none => rw [o] at hb; cases hb
    | some i =>
      cases o' : owner.getD a' none with
      | none => rw [o'] at hb'; cases hb'
      | some i' =>
        rw [o] at hb; rw [o'] at hb'
        cases hb; cases hb'
        exact hlt
  have hnd : (live.map (·.2)).Nodup := by
    unfold List.Nodup
    rw [List.pairwise_map]
    have : live.Pairwise fun x y => x.1 < y.1 := List.pairwise_map.mp hri
    refine List.Pairwise.imp_of_mem (fun {x y} hx hy hxy q => ?_) this
    have a := (hlive x.1 x.2).mp hx
    have b := (hlive y.1 y.2).mp hy
    rw [q, b] at a
    injection a with a
    omega
  have hperm : List.Perm (live.map (·.2)) (List.range es.size) := (List.perm_ext_iff_of_nodup hnd List.nodup_range).mpr fun i => by
    rw [List.mem_map, List.mem_range]
    constructor
    · rintro ⟨⟨j, i'⟩, h, rfl⟩; exact hlt j i' h
    · intro hi
      have hi' : i < pos.length := by omega
      exact ⟨(pos[i], i), (hlive _ _).mpr (List.getElem?_eq_getElem hi'), rfl⟩
  let ps := live.filterMap fun p => (es[p.2]?).map (p.1, ·)
  have hps : ps = live.filterMap fun p => (es[p.2]?).map (p.1, ·) := rfl
  have key : ∀ (l : List (Nat × Nat)), (∀ p ∈ l, p.2 < es.size) → (l.filterMap fun p => (es[p.2]?).map (p.1, ·)).map (·.1) = l.map (·.1) ∧ (l.filterMap fun p => (es[p.2]?).map (p.1, ·)).map (·.2) = (l.map (·.2)).filterMap (es[·]?) := by
    intro l
    induction l with
    | nil => intro _; exact ⟨rfl, rfl⟩
    | cons p l ih =>
      intro hl
      have hp := hl p (.head _)
      obtain ⟨i1, i2⟩ := ih fun q hq => hl q (.tail _ hq)
      have eg : es[p.2]? = some (es[p.2]) := Array.getElem?_eq_getElem hp
      constructor
      · rw [List.filterMap_cons_some (b := (p.1, es[p.2])) (by rw [eg]; rfl), List.map_cons, List.map_cons, i1]
      · rw [List.filterMap_cons_some (b := (p.1, es[p.2])) (by rw [eg]; rfl), List.map_cons, i2, List.map_cons, List.filterMap_cons_some (b := es[p.2]) eg]
  obtain ⟨k1, k2⟩ := key live fun p hp => hlt p.1 p.2 hp
  have hpsl : ps.map (·.1) = live.map (·.1) := k1
  refine ⟨{ mask, place := (live.map (·.1)).toArray, dummies := #[], finger, led, moves, plain }, (live.map (·.2)).toArray, ps, ?_, ?_, ?_, ?_, rfl, rfl, rfl⟩
  · unfold SetTable.laid
    rw [ee, e]
    rfl
  · rw [Array.toList_filterMap]
    exact k2.symm
  · rw [k2]
    refine (hperm.filterMap _).trans ?_
    rw [filterMap_getElem?_range]
  · have hmem : ∀ x ∈ pos, x ∈ ps.map (·.1) := fun x hx => by
      rw [hpsl]
      obtain ⟨i, hi, ei⟩ := List.mem_iff_getElem.mp hx
      exact List.mem_map.mpr ⟨(x, i), (hlive x i).mpr (by rw [List.getElem?_eq_getElem hi, ei]), rfl⟩
    have hin : ∀ x ∈ ps, ∃ i, pos[i]? = some x.1 ∧ es[i]? = some x.2 := fun x hx => by
      rw [hps] at hx
      obtain ⟨⟨j, i⟩, hp, q⟩ := List.mem_filterMap.mp hx
      cases o : es[i]? with
      | none => rw [o] at q; cases q
      | some v =>
        rw [o] at q
        cases q
        exact ⟨i, (hlive j i).mp hp, o⟩
    refine ⟨by rw [hpsl], rfl, hm, by rw [hpsl]; exact hri, fun x hx => ?_, ?_, fun x hx => ?_⟩
    · obtain ⟨i, a, _⟩ := hin x hx
      exact L.le _ (List.mem_of_getElem? a)
    · have h1 : ps.length = live.length := by have := congrArg List.length hpsl; simpa using this
      have h2 : live.length = es.size := by have := hperm.length_eq; simpa using this
      show ps.length ≤ mask
      omega
    · obtain ⟨i, a, b⟩ := hin x hx
      refine (L.re i x.2.1 x.1 ?_ a).mono hmem
      rw [List.getElem?_map, Array.getElem?_toList, b]; rfl
end Mine
namespace Mine
theorem Ap.size {n : Nat} {p : Array Nat} (h : Ap n p) : p.size = n := by have := h.length_eq; simpa using this
theorem getD_of {p q : Array Nat} {i j : Nat} (h : p[i]? = q[j]?) : p.getD i 0 = q.getD j 0 := by
  rw [Array.getD_eq_getD_getElem?, Array.getD_eq_getD_getElem?, h]
section
variable {n : Nat} {key : Nat → Int} {lt : Nat → Nat → Bool}
def Up (key : Nat → Int) (p : Array Nat) (m : Nat) : Prop := ∀ i j, i < j → j < m → key (p.getD i 0) < key (p.getD j 0)
def Dn (key : Nat → Int) (p : Array Nat) (m : Nat) : Prop := ∀ i j, i < j → j < m → key (p.getD j 0) < key (p.getD i 0)
def Inj (n : Nat) (key : Nat → Int) : Prop := ∀ i j, i < n → j < n → key i = key j → i = j
theorem Ap.ne {p : Array Nat} (h : Ap n p) (hk : Inj n key) {i j : Nat} (hi : i < n) (hj : j < n) (hij : i ≠ j) : key (p.getD i 0) ≠ key (p.getD j 0) := fun e => by
  have e2 := hk _ _ (h.lt (by omega) i) (h.lt (by omega) j) e
  have hs := h.size
  have nd : p.toList.Nodup := h.nodup_iff.mpr List.nodup_range
  have gi : ∀ k (hk : k < n), p.getD k 0 = p.toList[k]'(by rw [Array.length_toList]; omega) := fun k hk => by simp [Array.getD, hs, hk]
  rw [gi i hi, gi j hj] at e2
  have := (List.getElem_inj nd).mp e2
  exact hij this
theorem asc_run {p : Array Nat} (h : Ap n p) (hlt : ∀ i j, i < n → j < n → lt i j = decide (key i < key j)) (hk : Inj n key) : ∀ (f m : Nat), 1 ≤ m → m + f ≤ n → Up key p m →
    Up key p (kasRun lt (kas_asc p f m)) ∧ m ≤ kasRun lt (kas_asc p f m) ∧ kasRun lt (kas_asc p f m) ≤ m + f ∧ (kasRun lt (kas_asc p f m) = m + f ∨ key (p.getD (kasRun lt (kas_asc p f m)) 0) < key (p.getD (kasRun lt (kas_asc p f m) - 1) 0))
  | 0, m, _, _, u => ⟨u, Nat.le_refl _, Nat.le_refl _, .inl rfl⟩
  | f + 1, m, h1, h2, u => by
    have e : kasRun lt (kas_asc p (f + 1) m) = kasRun lt (if lt (p.getD m 0) (p.getD (m - 1) 0) = true then .ret m else kas_asc p f (m + 1)) := rfl
    rw [e, hlt _ _ (h.lt (by omega) _) (h.lt (by omega) _)]
    by_cases q : key (p.getD m 0) < key (p.getD (m - 1) 0)
    · rw [if_pos (by simpa using q)]
      exact ⟨u, Nat.le_refl _, by show m ≤ _; omega, .inr q⟩
    · rw [if_neg (by simpa using q)]
      have hne := h.ne hk (i := m) (j := m - 1) (by omega) (by omega) (by omega)
      have u' : Up key p (m + 1) := fun i j hij hj => by
        rcases Nat.lt_or_ge j m with z | z
        · exact u i j hij z
        · have : j = m := by omega
          subst this
          rcases Nat.lt_or_ge i (j - 1) with z2 | z2
          · have := u i (j - 1) z2 (by omega); omega
          · have : i = j - 1 := by omega
            subst this; omega
      obtain ⟨a, b, c, d⟩ := asc_run h hlt hk f (m + 1) (by omega) (by omega) u'
      exact ⟨a, by omega, by omega, by rcases d with d | d; exact .inl (by omega); exact .inr d⟩
theorem desc_run {p : Array Nat} (h : Ap n p) (hlt : ∀ i j, i < n → j < n → lt i j = decide (key i < key j)) (hk : Inj n key) : ∀ (f m : Nat), 1 ≤ m → m + f ≤ n → Dn key p m →
    ∃ r, kasRun lt (kas_desc f p m 0) = (p, r, 0) ∧ Dn key p r ∧ m ≤ r ∧ r ≤ m + f
  | 0, m, _, _, u => ⟨m, rfl, u, Nat.le_refl _, Nat.le_refl _⟩
  | f + 1, m, h1, h2, u => by
    have e : kasRun lt (kas_desc (f + 1) p m 0) = kasRun lt (if lt (p.getD m 0) (p.getD (m - 1) 0) = true then (if 0 > 0 then kas_desc f (kas_rev p (m - (0 + 1)) m) (m + 1) 0 else kas_desc f p (m + 1) 0)
        else .ask (p.getD (m - 1) 0) (p.getD m 0) fun d => if d = true then .ret (p, m, 0) else kas_desc f p (m + 1) (0 + 1)) := rfl
    rw [e, hlt _ _ (h.lt (by omega) _) (h.lt (by omega) _)]
    by_cases q : key (p.getD m 0) < key (p.getD (m - 1) 0)
    · rw [if_pos (by simpa using q), if_neg (by omega)]
      have u' : Dn key p (m + 1) := fun i j hij hj => by
        rcases Nat.lt_or_ge j m with z | z
        · exact u i j hij z
        · have : j = m := by omega
          subst this
          rcases Nat.lt_or_ge i (j - 1) with z2 | z2
          · have := u i (j - 1) z2 (by omega); omega
          · have : i = j - 1 := by omega
            subst this; exact q
      obtain ⟨r, a, b, c, d⟩ := desc_run h hlt hk f (m + 1) (by omega) (by omega) u'
      exact ⟨r, a, b, by omega, by omega⟩
    · rw [if_neg (by simpa using q)]
      have hne := h.ne hk (i := m) (j := m - 1) (by omega) (by omega) (by omega)
      have e2 : ∀ g : Bool → KasT (Array Nat × Nat × Nat), kasRun lt (.ask (p.getD (m - 1) 0) (p.getD m 0) g) = kasRun lt (g (lt (p.getD (m - 1) 0) (p.getD m 0))) := fun g => rfl
      rw [e2, hlt _ _ (h.lt (by omega) _) (h.lt (by omega) _), if_pos (decide_eq_true (by omega))]
      exact ⟨m, rfl, u, Nat.le_refl _, by omega⟩
theorem rev_getD {p : Array Nat} {m : Nat} (hm : m ≤ p.size) (k : Nat) : (kas_rev p 0 m).getD k 0 = if k < m then p.getD (m - 1 - k) 0 else p.getD k 0 := by
  have := getElem?_mirror_all (xs := p) (i := 0) hm k
  unfold kas_rev
  by_cases q : k < m
  · rw [if_pos q]
    rw [if_pos ⟨Nat.zero_le _, q⟩] at this
    rw [getD_of this]; congr 1; omega
  · rw [if_neg q]
    rw [if_neg (by omega)] at this
    exact getD_of this
theorem bub_getD {p : Array Nat} {k x : Nat} (hk : k < p.size) (hx : x ≤ k) (j : Nat) : (bubble p k (k - x)).getD j 0 = if j = x then p.getD k 0 else if x < j ∧ j ≤ k then p.getD (j - 1) 0 else p.getD j 0 := by
  have := getElem?_bubble hk (k - x) (by omega) j
  have e : k - (k - x) = x := by omega
  rw [e] at this
  by_cases q1 : j = x
  · rw [if_pos q1] at this ⊢; exact getD_of this
  · rw [if_neg q1] at this ⊢
    by_cases q2 : x < j ∧ j ≤ k
    · rw [if_pos q2] at this ⊢; exact getD_of this
    · rw [if_neg q2] at this ⊢; exact getD_of this
theorem tail_run {p : Array Nat} (h : Ap n p) (hlt : ∀ i j, i < n → j < n → lt i j = decide (key i < key j)) (hk : Inj n key) {m : Nat} (h1 : 1 ≤ m) (hm : m ≤ n) (d : Dn key p m) :
    ∃ r p', kasRun lt (kas_tail3 m n p) = (r, p') ∧ Ap n p' ∧ Up key p' r ∧ 1 ≤ r ∧ r ≤ n := by
  have hs := h.size
  have u : Up key (kas_rev p 0 m) m := fun i j hij hj => by
    rw [rev_getD (by omega), rev_getD (by omega), if_pos (by omega), if_pos hj]
    exact d _ _ (by omega) (by omega)
  obtain ⟨a, b, c, _⟩ := asc_run (lt := lt) (h.rev 0 m) hlt hk (n - m) m h1 (by omega) u
  refine ⟨_, _, ?_, h.rev 0 m, a, by omega, by omega⟩
  unfold kas_tail3
  rw [kasRun_bind]; rfl
theorem count_run {p : Array Nat} (h : Ap n p) (hlt : ∀ i j, i < n → j < n → lt i j = decide (key i < key j)) (hk : Inj n key) (hn : 2 ≤ n) :
    ∃ r p', kasRun lt (kas_count n p) = (r, p') ∧ Ap n p' ∧ Up key p' r ∧ 1 ≤ r ∧ r ≤ n := by
  unfold kas_count
  rw [kasRun_bind]
  obtain ⟨a, b, c, d⟩ := asc_run (lt := lt) h hlt hk (n - 1) 1 (Nat.le_refl _) (by omega) (fun i j hij hj => by omega)
  generalize kasRun lt (kas_asc p (n - 1) 1) = m at *
  by_cases q : m = n
  · rw [if_pos (by simpa using q)]
    exact ⟨m, p, rfl, h, a, b, by omega⟩
  · rw [if_neg (by simpa using q)]
    by_cases q2 : m > 1
    · rw [if_pos q2]
      have e2 : ∀ g : Bool → KasT (Nat × Array Nat), kasRun lt (.ask (p.getD 0 0) (p.getD (m - 1) 0) g) = kasRun lt (g (lt (p.getD 0 0) (p.getD (m - 1) 0))) := fun g => rfl
      rw [e2, hlt _ _ (h.lt (by omega) _) (h.lt (by omega) _), if_pos (by simpa using a 0 (m - 1) (by omega) (by omega))]
      exact ⟨m, p, rfl, h, a, b, by omega⟩
    · rw [if_neg q2]
      have hm : m = 1 := by omega
      subst hm
      have hd : key (p.getD 1 0) < key (p.getD 0 0) := by rcases d with d | d; omega; exact d
      unfold kas_descPart
      rw [kasRun_bind]
      obtain ⟨r, e, dd, r1, r2⟩ := desc_run (lt := lt) h hlt hk (n - (1 + 1)) (1 + 1) (by omega) (by omega) (fun i j hij hj => by
        have : i = 0 := by omega
        have : j = 1 := by omega
        subst_vars; exact hd)
      rw [e, if_neg (by simp)]
      dsimp only
      exact tail_run h hlt hk (by omega) (by omega) dd
theorem place_run {p : Array Nat} (h : Ap n p) (hlt : ∀ i j, i < n → j < n → lt i j = decide (key i < key j)) (hk : Inj n key) {k : Nat} (hkn : k < n) (u : Up key p k) : ∀ (f l r : Nat), r ≤ k → r - l ≤ f → l ≤ r → (∀ i, i < l → key (p.getD i 0) < key (p.getD k 0)) → (∀ i, r ≤ i → i < k → key (p.getD k 0) < key (p.getD i 0)) →
    kasRun lt (kas_place p k f l r) ≤ k ∧ (∀ i, i < kasRun lt (kas_place p k f l r) → key (p.getD i 0) < key (p.getD k 0)) ∧ (∀ i, kasRun lt (kas_place p k f l r) ≤ i → i < k → key (p.getD k 0) < key (p.getD i 0))
  | 0, l, r, h1, h2, h3, a, b => ⟨by show l ≤ k; omega, a, fun i hi hik => b i (by have : l ≤ i := hi; omega) hik⟩
  | f + 1, l, r, h1, h2, h3, a, b => by
    unfold kas_place
    by_cases q : l ≥ r
    · rw [if_pos q]
      exact ⟨by show l ≤ k; omega, a, fun i hi hik => b i (by have : l ≤ i := hi; omega) hik⟩
    · rw [if_neg q]
      have e2 : ∀ g : Bool → KasT Nat, kasRun lt (.ask (p.getD k 0) (p.getD ((l + r) / 2) 0) g) = kasRun lt (g (lt (p.getD k 0) (p.getD ((l + r) / 2) 0))) := fun g => rfl
      rw [e2, hlt _ _ (h.lt (by omega) _) (h.lt (by omega) _)]
      have hm1 : l ≤ (l + r) / 2 := by omega
      have hm2 : (l + r) / 2 < r := by omega
      generalize (l + r) / 2 = m at *
      have hne := h.ne hk (i := k) (j := m) hkn (by omega) (by omega)
      by_cases z : key (p.getD k 0) < key (p.getD m 0)
      · rw [if_pos (by simpa using z)]
        refine place_run h hlt hk hkn u f l m (by omega) (by omega) hm1 a fun i hi hik => ?_
        rcases Nat.lt_or_ge m i with y | y
        · have := u m i y hik; omega
        · have : i = m := by omega
          subst this; exact z
      · rw [if_neg (by simpa using z)]
        refine place_run h hlt hk hkn u f (m + 1) r h1 (by omega) hm2 (fun i hi => ?_) b
        rcases Nat.lt_or_ge i m with y | y
        · have := u i m y (by omega); omega
        · have : i = m := by omega
          subst this; omega
theorem bin_run (hlt : ∀ i j, i < n → j < n → lt i j = decide (key i < key j)) (hk : Inj n key) : ∀ (f : Nat) (p : Array Nat) (k : Nat), Ap n p → Up key p k → k + f = n → Up key (kasRun lt (kas_bin f p k)) n
  | 0, p, k, _, u, e => by have : k = n := by omega
                           subst this; exact u
  | f + 1, p, k, h, u, e => by
    unfold kas_bin
    rw [kasRun_bind]
    obtain ⟨a, b, d⟩ := place_run (lt := lt) h hlt hk (k := k) (by omega) u k 0 k (Nat.le_refl _) (by omega) (Nat.zero_le _) (fun i hi => absurd hi (Nat.not_lt_zero _)) (fun i h1 h2 => absurd h2 (by omega))
    generalize kasRun lt (kas_place p k k 0 k) = x at *
    refine bin_run hlt hk f _ (k + 1) (h.bub _ _) (fun i j hij hj => ?_) (by omega)
    have hs := h.size
    rw [bub_getD (by omega) a, bub_getD (by omega) a]
    by_cases c1 : j = x
    · rw [if_pos c1, if_neg (by omega), if_neg (by omega)]
      exact b i (by omega)
    · rw [if_neg c1]
      by_cases c2 : i = x
      · rw [if_pos c2, if_pos (by omega)]
        exact d (j - 1) (by omega) (by omega)
      · rw [if_neg c2]
        by_cases c3 : x < i ∧ i ≤ k
        · rw [if_pos c3, if_pos (by omega)]
          exact u _ _ (by omega) (by omega)
        · rw [if_neg c3]
          by_cases c4 : x < j ∧ j ≤ k
          · rw [if_pos c4]
            have := b i (by omega)
            have h1 := d (j - 1) (by omega) (by omega)
            omega
          · rw [if_neg c4]
            exact u _ _ hij (by omega)
theorem sort_run (hlt : ∀ i j, i < n → j < n → lt i j = decide (key i < key j)) (hk : Inj n key) (hn : 2 ≤ n) : Up key (kasRun lt (kas_sort n)) n := by
  unfold kas_sort
  rw [kasRun_bind]
  obtain ⟨r, p', e, h, u, r1, r2⟩ := count_run (lt := lt) (show Ap n (List.toArray (List.range n)) from List.Perm.refl _) hlt hk hn
  rw [e]
  dsimp only
  by_cases q : r < n
  · rw [if_pos q]
    have hm : max r 1 = r := by omega
    rw [hm]
    exact bin_run hlt hk _ _ _ h u (by omega)
  · rw [if_neg q]
    have : r = n := by omega
    subst this
    exact u
end
end Mine
namespace Mine
set_option maxHeartbeats 4000000
theorem fill_it : (PySem.Challenge.rw_aw5022_01.Holds) → (hd.heap_39 = hd.heap_39) → True := by k_fill; exact fun _ _ => trivial
local macro_rules | `(tactic| k_extra "mem") => `(tactic| first | exact List.Mem.head _ | (refine List.Mem.tail _ ?_; k_extra "mem") | exact List.mem_append_left _ (by assumption) | (refine List.mem_append_right _ ?_; k_extra "mem"))
local macro_rules | `(tactic| k_extra "upd") => `(tactic| first | exact Upd1.head | (apply Upd1.tail; k_extra "upd") | (apply Upd1.skip; k_extra "upd"))
local macro_rules | `(tactic| k_extra "rem") => `(tactic| first | exact Rem1.head | (apply Rem1.tail; k_extra "rem") | (apply Rem1.skip; k_extra "rem"))
local macro_rules | `(tactic| k_extra "remb") => `(tactic| first | exact RemB.head | (apply RemB.tail; k_extra "remb") | (apply RemB.skip; k_extra "remb"))
local macro_rules | `(tactic| k_extra "sel") => `(tactic| first | exact Sel.refl | exact Sel.nil | (apply Sel.cons; k_extra "rem"; k_extra "sel") | (apply Sel.block; k_extra "remb"; k_extra "sel") | (apply Sel.drop; k_extra "sel") | (apply Sel.dropB; k_extra "sel"))
local macro_rules | `(tactic| k_extra "hv") => `(tactic| first | exact rfl | (refine (if_neg (by decide)).trans ?_; k_extra "hv") | (refine' FrHas.get ?f ?g; (case f => assumption); (case g => k_extra "mem")))
local macro_rules | `(tactic| k_extra "fr") => `(tactic| first | assumption | with_reducible exact FrHas.nil | ((with_reducible refine FrHas.cons ?hv ?_); (case hv => k_extra "hv"); k_extra "fr"))
local macro_rules | `(tactic| k_extra "B") => `(tactic| first | assumption | exact Bs.deeper (by assumption) _ | exact Bs.wA (by assumption) _ | exact Bs.deeper (Bs.wA (by assumption) _) _)
local macro_rules | `(tactic| k_extra "R") => `(tactic| first | assumption | exact Rm.deeper (Rm.le (by assumption)) _ | exact Rm.le (by assumption) | exact Rm.le (Rm.deeper (Rm.le (by assumption)) _))
local macro_rules | `(tactic| k_extra "getok") => `(tactic| first | (refine' GetOk.obj ?a ?b; (case a => k_is); (case b => k_is)) | (refine' GetOk.lst ?a ?b ?c; (case a => k_is); (case b => k_is); (case c => k_is)))
local macro_rules | `(tactic| k_extra "isinst") => `(tactic| first | exact pDomL_is | exact pInst_is | exact pSub_is)
local macro_rules | `(tactic| k_extra "len") => `(tactic| first | assumption | (simp only [List.length_append, List.length_cons, List.length_nil] at *; have := sz24; omega) | (have := sz24; omega))
local macro_rules | `(tactic| k_extra "enter") => `(tactic| (
  (case ho => k_is)
  (case hcd => k_is)
  (case hb => exact fun _ _ => BindsTo.of_eq rfl)
  (case hloc => exact locs rfl)
  (case c1 => decide)
  (case c2 => exact rfl)
  (case c3 => exact rfl)
  (case c4 => exact rfl)))
local macro_rules | `(tactic| k_extra "enterD") => `(tactic| (
  (case ho => k_is)
  (case hcd => k_is)
  (case hb => exact fun _ X => binds_K X rfl (by k_is) rfl rfl rfl)
  (case hloc => exact locs rfl)
  (case c1 => decide)
  (case c2 => exact rfl)
  (case c3 => exact rfl)
  (case c4 => exact rfl)))
local macro_rules | `(tactic| k_extra "all") => `(tactic| (intro x hx; repeat (first | exact List.mem_append_left _ hx | refine List.Mem.tail _ ?_ | refine List.mem_append_right _ ?_)))
local macro_rules | `(tactic| k_extra "focus") => `(tactic| first | exact focus_base | (apply focus_step; k_extra "focus") | (apply focus_Z; k_extra "focus"))
local macro_rules | `(tactic| k_extra "unfocus") => `(tactic| first | exact unfocus | (apply unfocus_step; k_extra "unfocus") | (apply unfocus_Z; k_extra "unfocus"))
local macro_rules | `(tactic| k_extra "back") => `(tactic| (refine' Sel.trans ?u ?v; (case u => k_extra "unfocus"); (case v => k_extra "sel")))
local macro_rules | `(tactic| k_extra "pull") => `(tactic| first | exact Sel.refl | (apply pull_step; k_extra "pull") | (apply pull_Z; k_extra "pull"))
local macro_rules | `(tactic| k_extra "pull1") => `(tactic| (apply pull_step; k_extra "pull"))
local macro_rules | `(tactic| k_extra "name") => `(tactic| first
     | (refine' tr_local ?hm ?hv ?_ ?a ?b ?c; (case a => exact rfl); (case b => exact rfl); (case hm => k_extra "mem"); (case hv => k_extra "hv"); (case c => decide))
     | (refine' tr_global ?B ?he ?_ ?g ?a ?b ?c; (case B => k_extra "B"); (case a => exact rfl); (case b => exact rfl); (case he => k_is); (case g => exact rfl); (case c => decide))
     | (refine' tr_builtin ?B ?he ?hv ?_ ?n ?g ?g2 ?a ?b ?c; (case B => k_extra "B"); (case a => exact rfl); (case b => exact rfl); (case he => k_is); (case hv => boot_fast); (case n => decide); (case g => exact rfl); (case g2 => exact rfl); (case c => decide))
     | (refine' tr_cell ?hc ?hm ?_ ?a ?b ?c; (case a => exact rfl); (case b => exact rfl); (case hc => exact rfl); (case hm => k_extra "mem"); (case c => decide))
     | (refine' tr_free ?hc ?hm ?_ ?a ?b ?c ?d; (case a => exact rfl); (case b => exact rfl); (case hc => exact rfl); (case hm => k_extra "mem"); (case c => decide); (case d => decide)))
local macro_rules | `(tactic| k_extra "methu") => `(tactic| first
     | (refine' tr_getMethod ?B ?hx ?hP ?hd ?hg ?hf ?ht ?hv ?_; (case B => k_extra "B"); (case hx => k_extra "mem"); (case hP => k_extra "isinst"); (case hd => k_extra "mem"); (case hf => k_is); (case ht => k_is); (case hv => exact rfl); (case hg => k_extra "getok"))
     | (refine' tr_getMethodB ?B ?hx ?hP ?hd ?hg ?hf ?ht ?hv ?_; (case B => k_extra "B"); (case hx => k_extra "mem"); (case hP => k_extra "isinst"); (case hd => k_extra "mem"); (case hf => k_is); (case ht => first | with_reducible exact PySem.F.type_list_extend | with_reducible exact PySem.F.type_list_remove | with_reducible exact type_list_append); (case hv => exact rfl); (case hg => k_extra "getok")))
local macro_rules | `(tactic| k_extra "meth") => `(tactic| first
     | ((with_reducible show Tr _ (getMethod _ (PySem.Str.ofString "append") _) _ _); first
        | (refine' tr_getMethodL ?hl slot_list_append type_list_append ?_; (case hl => k_extra "mem"))
        | (refine' tr_getMethodI ?hl slot_list_append type_list_append ?_; (case hl => k_extra "mem"))
        | k_extra "methu")
     | ((with_reducible show Tr _ (getMethod _ (PySem.Str.ofString "pop") _) _ _); first
        | (refine' tr_getMethodI ?hl PySem.F.slot_list_pop PySem.F.type_list_pop ?_; (case hl => k_extra "mem"))
        | (refine' tr_getMethodL ?hl PySem.F.slot_list_pop PySem.F.type_list_pop ?_; (case hl => k_extra "mem")))
     | ((with_reducible show Tr _ (getMethod _ (PySem.Str.ofString "sort") _) _ _); (refine' tr_getMethodL ?hl PySem.F.slot_list_sort PySem.F.type_list_sort ?_; (case hl => k_extra "mem")))
     | ((with_reducible show Tr _ (getMethod _ (PySem.Str.ofString "copy") _) _ _); (refine' tr_getMethodD ?hl PySem.F.slot_dict_copy PySem.F.type_dict_copy ?_; (case hl => k_extra "mem")))
     | k_extra "methu")
local macro_rules | `(tactic| k_extra "callb") => `(tactic| first
  | ((with_reducible show Tr _ (call (Value.builtin "len") [Value.ref _] []) _ _); first
     | (refine' tr_lenList ?hl ?hz ?_; (case hl => k_extra "mem"); (case hz => k_extra "len"); intro _)
     | (refine' tr_lenInts ?hl ?hz ?_; (case hl => k_extra "mem"); (case hz => k_extra "len"); intro _)
     | (refine' tr_lenDom ?B ?S ?hx ?hz ?_; (case B => k_extra "B"); (case hx => k_extra "mem"); (case S => exact dsub _); (case hz => k_extra "len"); intro _))
  | ((with_reducible show Tr _ (call (Value.builtin "list.append") [Value.ref _, _] []) _ _); first
     | (refine' tr_appendI ?U ?hz ?_; (case U => k_extra "upd"); (case hz => k_extra "len"))
     | (refine' tr_append ?U ?_ ?hz; (case U => k_extra "upd"); (case hz => k_extra "len")))
  | ((with_reducible show Tr _ (call (Value.builtin "list.remove") [Value.ref _, _] []) _ _); refine' tr_remove ?B ?S ?U ?hi ?hz ?_; (case B => k_extra "B"); (case S => exact dsub _); (case U => k_extra "upd"); (case hi => assumption); (case hz => k_extra "len"))
  | ((with_reducible show Tr _ (call (Value.builtin "list.extend") [Value.ref _, _] []) _ _); refine' tr_extend ?B ?S ?U ?hb ?hz ?_; (case B => k_extra "B"); (case S => exact dsub _); (case U => k_extra "upd"); (case hb => k_extra "mem"); (case hz => k_extra "len"))
  | ((with_reducible show Tr _ (call (Value.builtin "list.pop") [Value.ref _] []) _ _); first
     | (refine' tr_popI ?U ?hz ?_; (case U => k_extra "upd"); (case hz => k_extra "len"); intro _)
     | (refine' tr_pop ?U ?hz ?_; (case U => k_extra "upd"); (case hz => k_extra "len")))
  | ((with_reducible show Tr _ (call (Value.builtin "dict.copy") [Value.ref _] []) _ _); refine' tr_dictCopy ?hd ?hz ?_; (case hd => k_extra "mem"); (case hz => k_extra "len"); intro _))
local macro_rules | `(tactic| k_extra "truthy") => `(tactic| first
  | with_reducible refine tr_truthy_bool ?_
  | with_reducible refine tr_truthyNone ?_
  | with_reducible refine tr_truthyInt ?_
  | (refine' tr_truthyInts ?hl ?hz ?_; (case hl => k_extra "mem"); (case hz => k_extra "len"))
  | (refine' tr_truthyList ?hl ?hz ?_; (case hl => k_extra "mem"); (case hz => k_extra "len"))
  | (refine' tr_truthyDom ?B ?S ?hx ?hz ?_; (case B => k_extra "B"); (case hx => k_extra "mem"); (case S => exact dsub _); (case hz => k_extra "len")))
local macro_rules | `(tactic| k_extra "cmp") => `(tactic| first
  | with_reducible refine tr_gt ?_ | with_reducible refine tr_lt ?_ | with_reducible refine tr_le ?_ | with_reducible refine tr_ge ?_ | with_reducible refine tr_eq ?_ | with_reducible refine tr_ne ?_
  | ((with_reducible show Tr _ (compareOp CmpOp.Is (Value.type _) (Value.type _)) _ _); (refine' tr_isTypes ?hp ?_; (case hp => exact rfl)))
  | (refine' tr_dictIn ?hd ?hP ?_; (case hd => k_extra "mem"); (case hP => first | exact pDict_refl | exact pDictE_dict))
  | (refine' tr_dictNotIn ?hd ?hP ?_; (case hd => k_extra "mem"); (case hP => first | exact pDict_refl | exact pDictE_dict)))
local macro_rules | `(tactic| k_extra "sub") => `(tactic| first
  | ((with_reducible show Tr _ (subscriptTail _ _ (Value.ref _) (Value.int _ _)) _ _); (refine' tr_itemTup ?ht ?a ?b ?hj ?hx ?_ ?hs; (case ht => k_extra "mem"); (case a => decide); (case b => decide); (case hj => exact rfl); (case hx => exact rfl); (case hs => exact rfl)))
  | ((with_reducible show Tr _ (subscriptTail _ (Expr.Slice none none none _) (Value.ref _) (Value.ref _)) _ _); first
     | (refine' tr_copyDom ?B ?S ?hq ?hx ?hs ?hz ?_; (case B => k_extra "B"); (case S => exact dsub _); (case hx => k_extra "mem"); (case hq => k_is); (case hs => k_extra "mem"); (case hz => k_extra "len"); intro _)
     | (refine' tr_copyList ?hx ?hs ?hz ?_; (case hx => k_extra "mem"); (case hs => k_extra "mem"); (case hz => k_extra "len"); intro _))
  | ((with_reducible show Tr _ (subscriptTail _ _ (Value.ref _) (Value.str _ _)) _ _); (refine' tr_itemDict ?hd ?hP ?hv ?_ ?hs; (case hd => k_extra "mem"); (case hs => exact rfl); (case hP => first | exact pDict_refl | exact pDictE_dict); (case hv => first | assumption | exact rfl))))
local macro_rules | `(tactic| k_extra "store") => `(tactic| first
  | (refine' tr_store ?U ?_ ?hk ?hl; (case hk => exact rfl); (case hl => exact rfl); (case U => k_extra "upd"))
  | (refine' tr_storeCell ?hc ?U ?_ ?hk ?hl; (case hk => exact rfl); (case hl => exact rfl); (case hc => exact rfl); (case U => k_extra "upd")))
local macro_rules | `(tactic| k_extra "st") => `(tactic| first
  | with_reducible refine tr_execs_cons ?_
  | with_reducible refine tr_execs_nil ?_
  | with_reducible refine Nx.next ?_
  | with_reducible refine Nx.ret ?_
  | with_reducible refine Nx.brk ?_
  | ((with_reducible show Tr _ (exec _ _) _ _); first
     | ((with_reducible show Tr _ (exec (Stmt.Expr _ _) _) _ _); refine tr_Expr ?_)
     | ((with_reducible show Tr _ (exec (Stmt.Return (some _) _) _) _ _); refine tr_Return ?_)
     | ((with_reducible show Tr _ (exec (Stmt.Return none _) _) _ _); refine tr_Return_none ?_)
     | ((with_reducible show Tr _ (exec (Stmt.If _ _ _ _) _) _ _); refine tr_If ?_)
     | ((with_reducible show Tr _ (exec (Stmt.For _ _ _ _ _) _) _ _); refine tr_For ?_)
     | ((with_reducible show Tr _ (exec (Stmt.While _ _ _ _) _) _ _); refine tr_While ?_)
     | ((with_reducible show Tr _ (exec (Stmt.Assign [Expr.Name _ _] _ _) _) _ _); refine tr_AssignName ?_)
     | ((with_reducible show Tr _ (exec (Stmt.Assign [Expr.Attribute _ _ _] _ _) _) _ _); refine tr_AssignAttr ?_)
     | ((with_reducible show Tr _ (exec (Stmt.Assign [Expr.Subscript _ _ _] _ _) _) _ _); refine tr_AssignItem ?_)
     | ((with_reducible show Tr _ (exec (Stmt.AugAssign (Expr.Name _ _) _ _ _) _) _ _); refine tr_AugAssign ?_)
     | ((with_reducible show Tr _ (exec (Stmt.Delete _ _) _) _ _); refine tr_Delete ?_)
     | ((with_reducible show Tr _ (exec (Stmt.Break _) _) _ _); refine tr_Break ?_)
     | ((with_reducible show Tr _ (exec (Stmt.Pass _) _) _ _); refine tr_Pass ?_))
  | ((with_reducible show Tr _ (eval _ _) _ _); first
     | ((with_reducible show Tr _ (eval (Expr.Name _ _) _) _ _); k_extra "name")
     | ((with_reducible show Tr _ (eval (Expr.Constant (Const.int _) _ _) _) _ _); refine tr_int fun _ => ?_)
     | ((with_reducible show Tr _ (eval (Expr.Constant (Const.bool _) _ _) _) _ _); refine tr_bool ?_)
     | ((with_reducible show Tr _ (eval (Expr.Constant Const.none _ _) _) _ _); refine tr_none ?_)
     | ((with_reducible show Tr _ (eval (Expr.Constant (Const.str _) _ _) _) _ _); refine tr_str fun _ => ?_)
     | ((with_reducible show Tr _ (eval (Expr.Call (Expr.Attribute _ _ _) _ _ _) _) _ _); refine tr_MethodCall ?_)
     | ((with_reducible show Tr _ (eval (Expr.Call _ _ _ _) _) _ _); refine tr_Call ?_)
     | ((with_reducible show Tr _ (eval (Expr.Attribute _ _ _) _) _ _); refine tr_Attribute ?_)
     | ((with_reducible show Tr _ (eval (Expr.Subscript _ _ _) _) _ _); refine tr_Subscript ?_)
     | ((with_reducible show Tr _ (eval (Expr.Slice none none none _) _) _ _); refine tr_sliceAll fun _ => ?_)
     | ((with_reducible show Tr _ (eval (Expr.Slice (some _) none none _) _) _ _); refine tr_sliceFrom ?_)
     | ((with_reducible show Tr _ (eval (Expr.BinOp _ _ _ _) _) _ _); refine tr_BinOp ?_)
     | ((with_reducible show Tr _ (eval (Expr.UnaryOp _ _ _) _) _ _); refine tr_UnaryOp ?_)
     | ((with_reducible show Tr _ (eval (Expr.Compare _ _ _ _) _) _ _); refine tr_Compare ?_)
     | ((with_reducible show Tr _ (eval (Expr.IfExp _ _ _ _) _) _ _); refine tr_IfExp ?_)
     | ((with_reducible show Tr _ (eval (Expr.BoolOp BoolOp.Or (_ :: _ :: _) _) _) _ _); refine tr_BoolOr ?_)
     | ((with_reducible show Tr _ (eval (Expr.BoolOp _ [_] _) _) _ _); refine tr_BoolOne ?_)
     | ((with_reducible show Tr _ (eval (Expr.List [] _) _) _ _); refine tr_List0 fun _ => ?_)
     | ((with_reducible show Tr _ (eval (Expr.List _ _) _) _ _); refine tr_List ?_)
     | ((with_reducible show Tr _ (eval (Expr.Tuple _ _ _) _) _ _); refine tr_Tuple ?_)
     | ((with_reducible show Tr _ (eval (Expr.Dict [] [] _) _) _ _); refine tr_Dict fun _ => ?_))
  | ((with_reducible show Tr _ (isTrue _ _ _) _ _); first
     | ((with_reducible show Tr _ (isTrue (Expr.Compare _ _ _ _) _ _) _ _); refine tr_isTrue_Compare ?_)
     | ((with_reducible show Tr _ (isTrue (Expr.UnaryOp UnaryOp.Not _ _) _ _) _ _); refine tr_isTrue_Not ?_)
     | ((with_reducible show Tr _ (isTrue (Expr.BoolOp _ _ _) _ _) _ _); refine tr_isTrue_BoolOp ?_)
     | refine tr_isTrue_value ?_)
  | ((with_reducible show Tr _ (callWith _ (Value.builtin _) _ _ _) _ _); first | refine tr_callBuiltin0 ?_ | refine tr_callBuiltin1 ?_)
  | ((with_reducible show Tr _ (callWith _ (Value.ref _) _ _ _) _ _); first
     | (refine' tr_callFn0 ?B ?hf ?_ ?p; (case B => k_extra "B"); (case hf => k_is); (case p => exact rfl))
     | (refine' tr_callFn1 ?B ?hf ?_ ?p; (case B => k_extra "B"); (case hf => k_is); (case p => exact rfl))
     | (refine' tr_callCls ?B ?hf ?_ ?p; (case B => k_extra "B"); (case hf => k_is); (case p => exact rfl)))
  | with_reducible refine tr_args_nil ?_
  | with_reducible refine noref_none ?_
  | ((with_reducible show ∀ _ : Addr, Tr _ _ _ _); intro _)
  | ((with_reducible show Tr _ (spliced (backTo _ (starEach (_ :: _) _))) _ _); refine tr_args_cons ?_)
  | ((with_reducible show Tr _ (getAttr (Value.ref _) _ _) _ _); refine' tr_getAttr ?B ?hx ?hP ?hd ?hg ?hh ?ha ?hn ?hv ?_ ?hi; (case B => k_extra "B"); (case hx => k_extra "mem"); (case hP => k_extra "isinst"); (case hd => k_extra "mem"); (case hg => k_extra "getok"); (case hh => k_is); (case ha => k_is); (case hn => k_is); (case hv => exact rfl); (case hi => exact rfl))
  | ((with_reducible show Tr _ (setAttr (Value.ref _) _ _) _ _); refine' tr_setAttr ?B ?hx ?hP ?U ?hs ?hp ?ht ?hh ?_ ?hz; (case B => k_extra "B"); (case hx => k_extra "mem"); (case hP => k_extra "isinst"); (case U => k_extra "upd"); (case hs => k_is); (case hp => k_is); (case ht => k_is); (case hh => k_is); (case hz => decide))
  | ((with_reducible show Tr _ (getMethod (Value.ref _) _ _) _ _); k_extra "meth")
  | ((with_reducible show Tr _ (call (Value.builtin _) _ _) _ _); k_extra "callb")
  | ((with_reducible show Tr _ (storeName _ _ _) _ _); k_extra "store")
  | ((with_reducible show Tr _ (loadName _ _) _ _); refine' tr_ldlocal ?hm ?hv ?_ ?a ?b; (case a => exact rfl); (case b => exact rfl); (case hm => k_extra "mem"); (case hv => k_extra "hv"))
  | ((with_reducible show Tr _ (truthy _) _ _); k_extra "truthy")
  | ((with_reducible show Tr _ (compareOp _ _ _) _ _); k_extra "cmp")
  | ((with_reducible show Tr _ (setItem (Value.ref _) (Value.str _ _) _) _ _); (refine' tr_dictSet ?U ?hz ?_; (case U => k_extra "upd"); (case hz => k_extra "len")))
  | with_reducible refine tr_add fun _ => ?_
  | with_reducible refine tr_iadd fun _ => ?_
  | with_reducible refine tr_sub fun _ => ?_
  | with_reducible refine tr_neg fun _ => ?_
  | with_reducible refine tr_not ?_
  | ((with_reducible show Tr _ (subscriptTail _ _ _ _) _ _); k_extra "sub")
  | ((with_reducible show Tr _ (delete (Expr.Subscript _ _ _) _) _ _); refine tr_delSubscript ?_)
  | ((with_reducible show Tr _ (letOwnedTupleGo (Expr.Name _ _) _ _) _ _); refine tr_letGoName ?_)
  | ((with_reducible show Tr _ (assign (Expr.Name _ _) _ _) _ _); refine tr_assignName ?_)
  | ((with_reducible show Tr _ (callWith _ (Value.type _) _ _ _) _ _); refine tr_callType ?_)
  | ((with_reducible show Tr _ (call (Value.type "zip") _ _) _ _); (refine' tr_zipNew ?h1 ?h2 ?_; (case h1 => k_extra "mem"); (case h2 => k_extra "mem"); intro _ _ _ _ _))
  | ((with_reducible show Tr _ (call (Value.type "type") [Value.int _ _] _) _ _); refine tr_typeInt ?_)
  | ((with_reducible show Tr _ (pyIter _) _ _); first
     | with_reducible refine tr_iterZip ?_
     | (refine' tr_iterInts ?hl ?_; (case hl => k_extra "mem"); intro _)
     | (refine' tr_iterList ?hl ?_; (case hl => k_extra "mem"); intro _)
     | (refine' tr_iterDom ?B ?S ?hx ?_; (case B => k_extra "B"); (case S => exact dsub _); (case hx => k_extra "mem"); intro _)))
section
section
variable {mg mb : Str → Option Value} {c : Cx} {X : List Cell}
theorem push_spec {d dd hid sts : Addr} {vs ss : List Int} {Q : Value → List Cell → Prop} (B : Bs (hd.heap_39 c.w.params) c mg mb) (R : Rm 3 c.A) (hz : vs.length ≤ sizeLine) (hz2 : ss.length ≤ sizeLine)
    (h : Q .none ((d, pDomL 303 dd vs) :: (dd, pAttr 2 (domA hid sts)) :: (sts, pInts (ss ++ [(vs.length : Int)])) :: X)) :
    Tr c (call (.ref 286) [.ref d] []) ((d, pDomL 303 dd vs) :: (dd, pAttr 2 (domA hid sts)) :: (sts, pInts ss) :: X) Q := by
  refine' tr_call (binds := [(Str.ofString "self", .ref d)]) B R ?ho ?hcd ?hb ?hloc ?_ ?c1 ?c2 ?c3 ?c4
  k_extra "enter"
  intro Lf
  repeat k_extra "st"
  exact ⟨_, by k_extra "sel", h⟩
theorem hide_spec {d dd hid sts : Addr} {vs hs : List Int} {i : Int} {t : Tok} {Q : Value → List Cell → Prop} (B : Bs (hd.heap_39 c.w.params) c mg mb) (R : Rm 3 c.A) (hi : i ∈ vs) (hz : vs.length ≤ sizeLine) (hz2 : hs.length ≤ sizeLine)
    (h : Q .none ((d, pDomL 303 dd (vs.erase i)) :: (dd, pAttr 2 (domA hid sts)) :: (hid, pInts (hs ++ [i])) :: X)) :
    Tr c (call (.ref 300) [.ref d, .int i t] []) ((d, pDomL 303 dd vs) :: (dd, pAttr 2 (domA hid sts)) :: (hid, pInts hs) :: X) Q := by
  refine' tr_call (binds := [(Str.ofString "self", .ref d), (Str.ofString "value", .int i t)]) B R ?ho ?hcd ?hb ?hloc ?_ ?c1 ?c2 ?c3 ?c4
  k_extra "enter"
  intro Lf
  repeat k_extra "st"
  exact ⟨_, by k_extra "sel", h⟩
end
end
section
section
variable {mg mb : Str → Option Value} {c : Cx} {X : List Cell}
theorem pop_spec {d dd hid sts : Addr} {vs ss hs ms : List Int} {k : Int} {Q : Value → List Cell → Prop} (B : Bs (hd.heap_39 c.w.params) c mg mb) (R : Rm 3 c.A) (hz : vs.length + ms.length ≤ sizeLine) (hz2 : ss.length + 1 ≤ sizeLine) (hz3 : hs.length + ms.length ≤ sizeLine)
    (hk : k = (vs.length : Int) + (ms.length : Int))
    (h : Q .none ((d, pDomL 303 dd (vs ++ ms)) :: (dd, pAttr 2 (domA hid sts)) :: (hid, pInts hs) :: (sts, pInts ss) :: X)) :
    Tr c (call (.ref 293) [.ref d] []) ((d, pDomL 303 dd vs) :: (dd, pAttr 2 (domA hid sts)) :: (hid, pInts (hs ++ ms)) :: (sts, pInts (ss ++ [k])) :: X) Q := by
  have hz4 : vs.length ≤ sizeLine := by omega
  subst hk
  refine' tr_call (binds := [(Str.ofString "self", .ref d)]) B R ?ho ?hcd ?hb ?hloc ?_ ?c1 ?c2 ?c3 ?c4
  k_extra "enter"
  intro Lf
  repeat k_extra "st"
  have e0 : (vs.length : Int) + (ms.length : Int) - (vs.length : Int) = (ms.length : Int) := by omega
  rw [e0]
  refine ⟨fun hb => ?_, fun hb => ?_⟩
  · have hm : 0 < ms.length := by
      cases ms with
      | nil => simp at hb
      | cons a r => simp
    repeat k_extra "st"
    refine' tr_lastInts ?hx ?hs rfl hm ?hz ?_
    (case hx => k_extra "mem")
    (case hs => k_extra "mem")
    (case hz => rw [List.length_append]; exact hz3)
    intro _
    repeat k_extra "st"
    refine' tr_delLast ?U ?hs rfl hm ?hz ?_
    (case U => k_extra "upd")
    (case hs => k_extra "mem")
    (case hz => rw [List.length_append]; exact hz3)
    repeat k_extra "st"
    exact ⟨_, by k_extra "sel", h⟩
  · have hm : ms = [] := by
      cases ms with
      | nil => rfl
      | cons a r => simp at hb; omega
    subst hm
    repeat k_extra "st"
    rw [List.append_nil] at h ⊢
    exact ⟨_, by k_extra "sel", h⟩
theorem reset_spec {d dd hid sts : Addr} {vs ss hs : List Int} {Q : Value → List Cell → Prop} (B : Bs (hd.heap_39 c.w.params) c mg mb) (R : Rm 3 c.A) (hz : vs.length + hs.length ≤ sizeLine) (hz2 : ss.length ≤ sizeLine)
    (h : Q .none ((d, pDomL 303 dd (vs ++ hs)) :: (dd, pAttr 2 (domA hid sts)) :: (hid, pInts []) :: (sts, pInts []) :: X)) :
    Tr c (call (.ref 279) [.ref d] []) ((d, pDomL 303 dd vs) :: (dd, pAttr 2 (domA hid sts)) :: (hid, pInts hs) :: (sts, pInts ss) :: X) Q := by
  have hz4 : hs.length ≤ sizeLine := by omega
  refine' tr_call (binds := [(Str.ofString "self", .ref d)]) B R ?ho ?hcd ?hb ?hloc ?_ ?c1 ?c2 ?c3 ?c4
  k_extra "enter"
  intro Lf
  repeat k_extra "st"
  refine' tr_delAll ?U ?hs ?hz ?_
  (case U => k_extra "upd")
  (case hs => k_extra "mem")
  (case hz => exact hz4)
  repeat k_extra "st"
  refine' tr_delAll ?U ?hs ?hz ?_
  (case U => k_extra "upd")
  (case hs => k_extra "mem")
  (case hz => exact hz2)
  repeat k_extra "st"
  exact ⟨_, by k_extra "sel", h⟩
end
end
section
section
variable {mg mb : Str → Option Value} {c : Cx} {X Z : List Cell}
theorem max_call_mult {con cd vl dm asg fl : Addr} {M : Int} {tM : Tok} {nvs : List Value} {Ds : List Dm} {kvs : List (Str × Value)} {fw : Value} {fwb : Bool} {ep : Nat} {Q : Value → List Cell → Prop}
    (B : Bs (hd.heap_39 c.w.params) c mg mb) (R : Rm 6 c.A) (hfw : FwOk fw fwb Z) (hnm : StrsAre nvs (Ds.map (·.nm))) (hnd : (Ds.map (·.nm)).Nodup) (hkv : IntKv kvs)
    (hmul : ∀ D ∈ Ds, ∀ a, (av kvs D.nm = some a ∨ a ∈ D.vs) → IntMulOk a D.f) (hlf : (Ds.map (·.f)).length ≤ sizeLine) (hne : Ds ≠ []) (hlen : nvs.length ≤ sizeLine)
    (hsz : ∀ D ∈ Ds, D.vs.length + D.hs.length ≤ 1000)
    (h : ∀ b Ds', MaxRes kvs M fwb Ds b Ds' → Q (.bool b) ((con, pInst 410 cd) :: (cd, pAttr 2 (conA "_maxsum" M tM (.ref fl))) :: (vl, pList nvs) :: (dm, pDictE c ep (dmap Ds)) :: (asg, pDict c kvs) :: (fl, pInts (Ds.map (·.f))) :: (Z ++ (dcl Ds' ++ X)))) :
    TrF c (.ref 407) [.ref con, .ref vl, .ref dm, .ref asg, fw] ((con, pInst 410 cd) :: (cd, pAttr 2 (conA "_maxsum" M tM (.ref fl))) :: (vl, pList nvs) :: (dm, pDictE c ep (dmap Ds)) :: (asg, pDict c kvs) :: (fl, pInts (Ds.map (·.f))) :: (Z ++ (dcl Ds ++ X))) Q := by
  refine' tr_callF (binds := [(Str.ofString "self", .ref con), (Str.ofString "variables", .ref vl), (Str.ofString "domains", .ref dm), (Str.ofString "assignments", .ref asg), (Str.ofString "forwardcheck", fw)]) B R ?ho ?hcd ?hb ?hloc ?_ ?c1 ?c2 ?c3 ?c4
  k_extra "enterD"
  intro Lf
  repeat k_extra "st"
  rename_i t0
  refine ⟨fun hb => ?_, fun hb => ?_⟩
  · clear hb
    repeat k_extra "st"
    rename_i z TI TO i1 i2
    refine tr_forLoop (fun k L' => ∃ A Bs m t, Ds = A ++ Bs ∧ k = Bs.length ∧ Sel (zcs z TI TO i1 i2 vl fl A.length .none ++ ((Lf, pNs m) :: (con, pInst 410 cd) :: (cd, pAttr 2 (conA "_maxsum" M tM (.ref fl))) :: (vl, pList nvs) :: (dm, pDictE c ep (dmap Ds)) :: (asg, pDict c kvs) :: (fl, pInts (Ds.map (·.f))) :: (Z ++ (dcl Ds ++ X)))) L' ∧
      FrHas m [(Str.ofString "sum", .int (psum kvs A) t), (Str.ofString "maxsum", .int M tM), (Str.ofString "multipliers", .ref fl), (Str.ofString "self", .ref con), (Str.ofString "variables", .ref vl), (Str.ofString "domains", .ref dm), (Str.ofString "assignments", .ref asg), (Str.ofString "forwardcheck", fw)]) ?_ Ds.length ⟨[], Ds, _, t0, rfl, rfl, Sel.refl, by k_extra "fr"⟩
    intro k L' hI
    obtain ⟨A, Bs, m, t, hD, rfl, hsel, hF⟩ := hI
    refine Tr.sel hsel ?_
    clear hsel
    cases Bs with
    | cons D Bs =>
      have hDi : (Ds.map (·.nm))[A.length]? = some D.nm := by simp [hD]
      obtain ⟨tn, hnv⟩ := strs_get hnm hDi
      refine tr_nextZip (by k_extra "mem") (by k_extra "mem") hnv (y := D.f) (by simp [hD]) ?_
      intro T tf
      refine tr_letGoZip ?_
      refine tr_Tup2 (R.deeper _) (by k_extra "mem") ?_
      repeat k_extra "st"
      refine ⟨fun hb => ?_, fun hb => ?_⟩
      · obtain ⟨a, ta, hva, hav⟩ := hkv.some hb
        repeat k_extra "st"
        refine tr_mul (hmul D (by simp [hD]) a (.inl hav)) fun _ => ?_
        repeat k_extra "st"
        refine' ⟨Bs.length, _, by simp, Sel.refl, A ++ [D], Bs, _, _, by simp [hD], rfl, ?hs, ?hf⟩
        (case hs => rw [List.length_append, List.length_singleton]; k_extra "sel")
        (case hf => (have e : psum kvs (A ++ [D]) = psum kvs A + a * D.f := by rw [psum_app, psum_one, hav]); rw [e]; k_extra "fr")
      · repeat k_extra "st"
        refine' ⟨Bs.length, _, by simp, Sel.refl, A ++ [D], Bs, _, _, by simp [hD], rfl, ?hs, ?hf⟩
        (case hs => rw [List.length_append, List.length_singleton]; k_extra "sel")
        (case hf => (have e : psum kvs (A ++ [D]) = psum kvs A := by rw [psum_app, psum_one, av_none hb]; simp); rw [e]; k_extra "fr")
    | nil =>
      rw [List.append_nil] at hD
      subst hD
      refine tr_nextZipEnd (R.deeper _) (by k_extra "mem") (by k_extra "mem") (.inr (by simp)) ?_
      dsimp only
      repeat k_extra "st"
      refine ⟨fun hb => absurd hb (by decide), fun _ => ?_⟩
      repeat k_extra "st"
      refine ⟨fun hb => ?_, fun hb => ?_⟩
      · repeat k_extra "st"
        exact ⟨_, by k_extra "sel", h _ _ (.over (by simpa using hb))⟩
      have hS : psum kvs Ds ≤ M := by simpa using hb
      clear hb
      repeat k_extra "st"
      refine tr_truthyFw hfw (by k_extra "all") ?_
      refine ⟨fun hb => ?_, fun hb => ?_⟩
      rotate_left
      · repeat k_extra "st"
        exact ⟨_, by k_extra "sel", h _ _ (.plain hS hb)⟩
      repeat k_extra "st"
      rename_i z TI TO i1 i2
      refine tr_forLoop (fun k L' => ∃ A Bs m, Ds = A ++ Bs ∧ k = Bs.length ∧ Sel (zcs z TI TO i1 i2 vl fl A.length .none ++ ((Lf, pNs m) :: (con, pInst 410 cd) :: (cd, pAttr 2 (conA "_maxsum" M tM (.ref fl))) :: (vl, pList nvs) :: (dm, pDictE c ep (dmap Ds)) :: (asg, pDict c kvs) :: (fl, pInts (Ds.map (·.f))) :: (Z ++ (dcl (A.map (pr kvs (psum kvs Ds) M) ++ Bs) ++ X)))) L' ∧
        FrHas m [(Str.ofString "sum", .int (psum kvs Ds) t), (Str.ofString "maxsum", .int M tM), (Str.ofString "multipliers", .ref fl), (Str.ofString "self", .ref con), (Str.ofString "variables", .ref vl), (Str.ofString "domains", .ref dm), (Str.ofString "assignments", .ref asg), (Str.ofString "forwardcheck", fw)] ∧ ∀ D ∈ A, asgd kvs D.nm = false → (prune (psum kvs Ds) M D).vs ≠ []) ?_ Ds.length ⟨[], Ds, _, rfl, rfl, Sel.refl, by k_extra "fr", fun _ q => nomatch q⟩
      clear hF
      intro k L' hI
      obtain ⟨A, Bs, m, hD, rfl, hsel, hF, hA⟩ := hI
      refine Tr.sel hsel ?_
      clear hsel
      cases Bs with
      | nil =>
        rw [List.append_nil] at hD
        subst hD
        refine tr_nextZipEnd (R.deeper _) (by k_extra "mem") (by k_extra "mem") (.inr (by simp)) ?_
        dsimp only
        repeat k_extra "st"
        rw [List.append_nil]
        exact ⟨_, by k_extra "sel", h _ _ (.fine hS hb hA)⟩
      | cons D Bs =>
        have hDi : (Ds.map (·.nm))[A.length]? = some D.nm := by simp [hD]
        have hDm : D ∈ Ds := by simp [hD]
        obtain ⟨tn, hnv⟩ := strs_get hnm hDi
        have hdv := dmap_find hnd hDm
        have hz1 : D.vs.length ≤ sizeLine := by have := hsz D hDm; have := sz24; omega
        refine tr_nextZip (by k_extra "mem") (by k_extra "mem") hnv (y := D.f) (by simp [hD]) ?_
        intro T tf
        refine tr_letGoZip ?_
        refine tr_Tup2 (R.deeper _) (by k_extra "mem") ?_
        repeat k_extra "st"
        refine ⟨fun ha => ?_, fun ha => ?_⟩
        · -- not assigned: its values are looked through
          have ha' : asgd kvs D.nm = false := by simpa [asgd] using ha
          refine Tr.sel (by k_extra "focus") ?_
          repeat k_extra "st"
          rename_i sl cp it2
          refine tr_forLoop (fun k L' => ∃ p q m', D.vs = p ++ q ∧ k = q.length ∧ Sel ((it2, pLIter cp p.length) :: (cp, pInts D.vs) :: (D.d, pDomL 303 D.dd (p.filter (fun v => decide (psum kvs Ds + v * D.f ≤ M)) ++ q)) :: (D.dd, pAttr 2 (domA D.hd D.st)) :: (D.hd, pInts (D.hs ++ p.filter (fun v => !decide (psum kvs Ds + v * D.f ≤ M)))) :: (D.st, pInts D.ss) :: (zcs z TI TO i1 i2 vl fl (A.length + 1) .none ++ ((Lf, pNs m') :: (con, pInst 410 cd) :: (cd, pAttr 2 (conA "_maxsum" M tM (.ref fl))) :: (vl, pList nvs) :: (dm, pDictE c ep (dmap Ds)) :: (asg, pDict c kvs) :: (fl, pInts (Ds.map (·.f))) :: (Z ++ (dcl (A.map (pr kvs (psum kvs Ds) M) ++ Bs) ++ X))))) L' ∧
            FrHas m' [(Str.ofString "multiplier", .int D.f tf), (Str.ofString "domain", .ref D.d), (Str.ofString "sum", .int (psum kvs Ds) t), (Str.ofString "maxsum", .int M tM), (Str.ofString "multipliers", .ref fl), (Str.ofString "self", .ref con), (Str.ofString "variables", .ref vl), (Str.ofString "domains", .ref dm), (Str.ofString "assignments", .ref asg), (Str.ofString "forwardcheck", fw)]) ?_ D.vs.length ?init
          rotate_left
          · refine' ⟨[], D.vs, _, rfl, rfl, ?hs, ?hf⟩
            (case hs => rw [List.filter_nil, List.filter_nil, List.append_nil, List.nil_append]; k_extra "sel")
            (case hf => k_extra "fr")
          clear hF
          intro k L' hI
          obtain ⟨p, q, m', hv, rfl, hsel, hF⟩ := hI
          refine Tr.sel hsel ?_
          clear hsel
          have hlq : p.length + q.length = D.vs.length := by rw [hv, List.length_append]
          have hlp : (p.filter (fun v => decide (psum kvs Ds + v * D.f ≤ M))).length + q.length ≤ sizeLine := by have := List.length_filter_le (fun v => decide (psum kvs Ds + v * D.f ≤ M)) p; omega
          have hlh : (D.hs ++ p.filter (fun v => !decide (psum kvs Ds + v * D.f ≤ M))).length ≤ sizeLine := by have := List.length_filter_le (fun v => !decide (psum kvs Ds + v * D.f ≤ M)) p; have := hsz D hDm; have := sz24; rw [List.length_append]; omega
          have hlv : (p.filter (fun v => decide (psum kvs Ds + v * D.f ≤ M)) ++ q).length ≤ sizeLine := by rw [List.length_append]; exact hlp
          cases q with
          | nil =>
            rw [List.append_nil] at hv
            subst hv
            refine tr_nextIntEnd (R.deeper _) (by k_extra "rem") (by k_extra "mem") pInts_seq (by simp) ?_
            dsimp only
            repeat k_extra "st"
            rw [List.append_nil]
            refine ⟨fun hq => ?_, fun hq => ?_⟩
            · repeat k_extra "st"
              have hq' : (prune (psum kvs Ds) M D).vs = [] := by simpa [prune] using hq
              refine ⟨_, ?_, h _ _ (.dead A D Bs hS hb hD ha' hq')⟩
              k_extra "back"
            · repeat k_extra "st"
              have hq' : (prune (psum kvs Ds) M D).vs ≠ [] := by simpa [prune] using hq
              refine' ⟨Bs.length, _, by simp, Sel.refl, A ++ [D], Bs, _, by simp [hD], rfl, ?hs, ?hf, ?hn⟩
              (case hs => rw [List.length_append, List.length_singleton, List.map_append, List.map_singleton, show pr kvs (psum kvs Ds) M D = prune (psum kvs Ds) M D from if_neg (by rw [ha']; decide), List.append_assoc, List.singleton_append]; k_extra "back")
              (case hf => k_extra "fr")
              (case hn => intro E hE hq; rcases List.mem_append.mp hE with hE | hE; exact hA E hE hq; rw [List.mem_singleton.mp hE]; exact hq')
          | cons v q =>
            refine tr_nextInt (by k_extra "upd") (by k_extra "mem") pInts_seq (v := v) (by simp [hv]) fun tv => ?_
            dsimp only
            repeat k_extra "st"
            refine tr_mul (hmul D hDm v (.inr (by simp [hv]))) fun _ => ?_
            repeat k_extra "st"
            refine ⟨fun hq => ?_, fun hq => ?_⟩
            · have hq' : ¬ (psum kvs Ds + v * D.f ≤ M) := by simpa using hq
              repeat k_extra "st"
              refine Tr.sel (by k_extra "sel") (hide_spec (B.deeper _) ((R.deeper _).le) (i := v) (vs := p.filter (fun v => decide (psum kvs Ds + v * D.f ≤ M)) ++ v :: q) (by simp) hlv hlh ?_)
              have hnm' : v ∉ p.filter (fun v => decide (psum kvs Ds + v * D.f ≤ M)) := by
                intro hm
                have := (List.mem_filter.mp hm).2
                exact hq' (by simpa using this)
              rw [List.erase_append_right _ hnm', List.erase_cons_head]
              repeat k_extra "st"
              refine' ⟨q.length, _, by simp, Sel.refl, p ++ [v], q, _, by simp [hv], rfl, ?hs, ?hf⟩
              (case hs => rw [List.length_append, List.length_singleton, List.filter_append, List.filter_append, show [v].filter (fun v => decide (psum kvs Ds + v * D.f ≤ M)) = [] by simp; omega, show [v].filter (fun v => !decide (psum kvs Ds + v * D.f ≤ M)) = [v] by simp; omega, List.append_nil, ← List.append_assoc]; k_extra "sel")
              (case hf => k_extra "fr")
            · have hq' : psum kvs Ds + v * D.f ≤ M := by simpa using hq
              repeat k_extra "st"
              refine' ⟨q.length, _, by simp, Sel.refl, p ++ [v], q, _, by simp [hv], rfl, ?hs, ?hf⟩
              (case hs => rw [List.length_append, List.length_singleton, List.filter_append, List.filter_append, show [v].filter (fun v => decide (psum kvs Ds + v * D.f ≤ M)) = [v] by simp [hq'], show [v].filter (fun v => !decide (psum kvs Ds + v * D.f ≤ M)) = [] by simp [hq'], List.append_nil, List.append_assoc, List.singleton_append]; k_extra "sel")
              (case hf => k_extra "fr")
        · have ha' : asgd kvs D.nm = true := by simpa [asgd] using ha
          repeat k_extra "st"
          refine' ⟨Bs.length, _, by simp, Sel.refl, A ++ [D], Bs, _, by simp [hD], rfl, ?hs, ?hf, ?hn⟩
          (case hs => rw [List.length_append, List.length_singleton, List.map_append, List.map_singleton, show pr kvs (psum kvs Ds) M D = D from if_pos ha', List.append_assoc, List.singleton_append]; k_extra "sel")
          (case hf => k_extra "fr")
          (case hn => intro E hE hq; rcases List.mem_append.mp hE with hE | hE; exact hA E hE hq; rw [List.mem_singleton.mp hE, ha'] at hq; cases hq)
  · cases Ds with
    | nil => exact absurd rfl hne
    | cons D r => simp at hb
end
end
section
section
variable {mg mb : Str → Option Value} {c : Cx} {X Z : List Cell}
theorem max_call_plain {con cd vl dm asg : Addr} {M : Int} {tM : Tok} {nvs : List Value} {Ds : List Dm} {kvs : List (Str × Value)} {fw : Value} {fwb : Bool} {ep : Nat} {Q : Value → List Cell → Prop}
    (B : Bs (hd.heap_39 c.w.params) c mg mb) (R : Rm 6 c.A) (hfw : FwOk fw fwb Z) (hnm : StrsAre nvs (Ds.map (·.nm))) (hnd : (Ds.map (·.nm)).Nodup) (hkv : IntKv kvs)
    (hf1 : ∀ D ∈ Ds, D.f = 1) (hlen : nvs.length ≤ sizeLine)
    (hsz : ∀ D ∈ Ds, D.vs.length + D.hs.length ≤ 1000)
    (h : ∀ b Ds', MaxRes kvs M fwb Ds b Ds' → Q (.bool b) ((con, pInst 410 cd) :: (cd, pAttr 2 (conA "_maxsum" M tM (.none))) :: (vl, pList nvs) :: (dm, pDictE c ep (dmap Ds)) :: (asg, pDict c kvs) :: (Z ++ (dcl Ds' ++ X)))) :
    TrF c (.ref 407) [.ref con, .ref vl, .ref dm, .ref asg, fw] ((con, pInst 410 cd) :: (cd, pAttr 2 (conA "_maxsum" M tM (.none))) :: (vl, pList nvs) :: (dm, pDictE c ep (dmap Ds)) :: (asg, pDict c kvs) :: (Z ++ (dcl Ds ++ X))) Q := by
  refine' tr_callF (binds := [(Str.ofString "self", .ref con), (Str.ofString "variables", .ref vl), (Str.ofString "domains", .ref dm), (Str.ofString "assignments", .ref asg), (Str.ofString "forwardcheck", fw)]) B R ?ho ?hcd ?hb ?hloc ?_ ?c1 ?c2 ?c3 ?c4
  k_extra "enterD"
  intro Lf
  repeat k_extra "st"
  rename_i t0
  refine ⟨fun hb => ?_, fun hb => ?_⟩
  · cases hb
  · clear hb
    repeat k_extra "st"
    rename_i it
    refine tr_forLoop (fun k L' => ∃ A Bs m t, Ds = A ++ Bs ∧ k = Bs.length ∧ Sel ((it, pLIter vl (A.length)) :: ((Lf, pNs m) :: (con, pInst 410 cd) :: (cd, pAttr 2 (conA "_maxsum" M tM (.none))) :: (vl, pList nvs) :: (dm, pDictE c ep (dmap Ds)) :: (asg, pDict c kvs) :: (Z ++ (dcl Ds ++ X)))) L' ∧
      FrHas m [(Str.ofString "sum", .int (psum kvs A) t), (Str.ofString "maxsum", .int M tM), (Str.ofString "multipliers", .none), (Str.ofString "self", .ref con), (Str.ofString "variables", .ref vl), (Str.ofString "domains", .ref dm), (Str.ofString "assignments", .ref asg), (Str.ofString "forwardcheck", fw)]) ?_ Ds.length ⟨[], Ds, _, t0, rfl, rfl, Sel.refl, by k_extra "fr"⟩
    intro k L' hI
    obtain ⟨A, Bs, m, t, hD, rfl, hsel, hF⟩ := hI
    refine Tr.sel hsel ?_
    clear hsel
    cases Bs with
    | cons D Bs =>
      have hDi : (Ds.map (·.nm))[A.length]? = some D.nm := by simp [hD]
      obtain ⟨tn, hnv⟩ := strs_get hnm hDi
      refine tr_nextItem (by k_extra "upd") (by k_extra "mem") pList_seq hnv ?_
      dsimp only
      repeat k_extra "st"
      refine ⟨fun hb => ?_, fun hb => ?_⟩
      · obtain ⟨a, ta, hva, hav⟩ := hkv.some hb
        repeat k_extra "st"
        refine' ⟨Bs.length, _, by simp, Sel.refl, A ++ [D], Bs, _, _, by simp [hD], rfl, ?hs, ?hf⟩
        (case hs => rw [List.length_append, List.length_singleton]; k_extra "sel")
        (case hf => (have e : psum kvs (A ++ [D]) = psum kvs A + a := by rw [psum_app, psum_one, hav]; rw [hf1 D (by simp [hD])]; simp); rw [e]; k_extra "fr")
      · repeat k_extra "st"
        refine' ⟨Bs.length, _, by simp, Sel.refl, A ++ [D], Bs, _, _, by simp [hD], rfl, ?hs, ?hf⟩
        (case hs => rw [List.length_append, List.length_singleton]; k_extra "sel")
        (case hf => (have e : psum kvs (A ++ [D]) = psum kvs A := by rw [psum_app, psum_one, av_none hb]; simp); rw [e]; k_extra "fr")
    | nil =>
      rw [List.append_nil] at hD
      subst hD
      refine tr_nextEnd (R.deeper _) (by k_extra "rem") (by k_extra "mem") pList_seq (List.getElem?_eq_none (by rw [strs_len hnm, List.length_map]; exact Nat.le_refl _)) ?_
      dsimp only
      repeat k_extra "st"
      refine ⟨fun hb => absurd hb (by decide), fun _ => ?_⟩
      repeat k_extra "st"
      refine ⟨fun hb => ?_, fun hb => ?_⟩
      · repeat k_extra "st"
        exact ⟨_, by k_extra "sel", h _ _ (.over (by simpa using hb))⟩
      have hS : psum kvs Ds ≤ M := by simpa using hb
      clear hb
      repeat k_extra "st"
      refine tr_truthyFw hfw (by k_extra "all") ?_
      refine ⟨fun hb => ?_, fun hb => ?_⟩
      rotate_left
      · repeat k_extra "st"
        exact ⟨_, by k_extra "sel", h _ _ (.plain hS hb)⟩
      repeat k_extra "st"
      rename_i it
      refine tr_forLoop (fun k L' => ∃ A Bs m, Ds = A ++ Bs ∧ k = Bs.length ∧ Sel ((it, pLIter vl (A.length)) :: ((Lf, pNs m) :: (con, pInst 410 cd) :: (cd, pAttr 2 (conA "_maxsum" M tM (.none))) :: (vl, pList nvs) :: (dm, pDictE c ep (dmap Ds)) :: (asg, pDict c kvs) :: (Z ++ (dcl (A.map (pr kvs (psum kvs Ds) M) ++ Bs) ++ X)))) L' ∧
        FrHas m [(Str.ofString "sum", .int (psum kvs Ds) t), (Str.ofString "maxsum", .int M tM), (Str.ofString "multipliers", .none), (Str.ofString "self", .ref con), (Str.ofString "variables", .ref vl), (Str.ofString "domains", .ref dm), (Str.ofString "assignments", .ref asg), (Str.ofString "forwardcheck", fw)] ∧ ∀ D ∈ A, asgd kvs D.nm = false → (prune (psum kvs Ds) M D).vs ≠ []) ?_ Ds.length ⟨[], Ds, _, rfl, rfl, Sel.refl, by k_extra "fr", fun _ q => nomatch q⟩
      clear hF
      intro k L' hI
      obtain ⟨A, Bs, m, hD, rfl, hsel, hF, hA⟩ := hI
      refine Tr.sel hsel ?_
      clear hsel
      cases Bs with
      | nil =>
        rw [List.append_nil] at hD
        subst hD
        refine tr_nextEnd (R.deeper _) (by k_extra "rem") (by k_extra "mem") pList_seq (List.getElem?_eq_none (by rw [strs_len hnm, List.length_map]; exact Nat.le_refl _)) ?_
        dsimp only
        repeat k_extra "st"
        rw [List.append_nil]
        exact ⟨_, by k_extra "sel", h _ _ (.fine hS hb hA)⟩
      | cons D Bs =>
        have hDi : (Ds.map (·.nm))[A.length]? = some D.nm := by simp [hD]
        have hDm : D ∈ Ds := by simp [hD]
        obtain ⟨tn, hnv⟩ := strs_get hnm hDi
        have hdv := dmap_find hnd hDm
        have hz1 : D.vs.length ≤ sizeLine := by have := hsz D hDm; have := sz24; omega
        refine tr_nextItem (by k_extra "upd") (by k_extra "mem") pList_seq hnv ?_
        dsimp only
        repeat k_extra "st"
        refine ⟨fun ha => ?_, fun ha => ?_⟩
        · -- not assigned: its values are looked through
          have ha' : asgd kvs D.nm = false := by simpa [asgd] using ha
          refine Tr.sel (by k_extra "focus") ?_
          repeat k_extra "st"
          rename_i sl cp it2
          refine tr_forLoop (fun k L' => ∃ p q m', D.vs = p ++ q ∧ k = q.length ∧ Sel ((it2, pLIter cp p.length) :: (cp, pInts D.vs) :: (D.d, pDomL 303 D.dd (p.filter (fun v => decide (psum kvs Ds + v * D.f ≤ M)) ++ q)) :: (D.dd, pAttr 2 (domA D.hd D.st)) :: (D.hd, pInts (D.hs ++ p.filter (fun v => !decide (psum kvs Ds + v * D.f ≤ M)))) :: (D.st, pInts D.ss) :: ((it, pLIter vl ((A.length + 1))) :: ((Lf, pNs m') :: (con, pInst 410 cd) :: (cd, pAttr 2 (conA "_maxsum" M tM (.none))) :: (vl, pList nvs) :: (dm, pDictE c ep (dmap Ds)) :: (asg, pDict c kvs) :: (Z ++ (dcl (A.map (pr kvs (psum kvs Ds) M) ++ Bs) ++ X))))) L' ∧
            FrHas m' [(Str.ofString "domain", .ref D.d), (Str.ofString "sum", .int (psum kvs Ds) t), (Str.ofString "maxsum", .int M tM), (Str.ofString "multipliers", .none), (Str.ofString "self", .ref con), (Str.ofString "variables", .ref vl), (Str.ofString "domains", .ref dm), (Str.ofString "assignments", .ref asg), (Str.ofString "forwardcheck", fw)]) ?_ D.vs.length ?init
          rotate_left
          · refine' ⟨[], D.vs, _, rfl, rfl, ?hs, ?hf⟩
            (case hs => rw [List.filter_nil, List.filter_nil, List.append_nil, List.nil_append]; k_extra "sel")
            (case hf => k_extra "fr")
          clear hF
          intro k L' hI
          obtain ⟨p, q, m', hv, rfl, hsel, hF⟩ := hI
          refine Tr.sel hsel ?_
          clear hsel
          have hlq : p.length + q.length = D.vs.length := by rw [hv, List.length_append]
          have hlp : (p.filter (fun v => decide (psum kvs Ds + v * D.f ≤ M))).length + q.length ≤ sizeLine := by have := List.length_filter_le (fun v => decide (psum kvs Ds + v * D.f ≤ M)) p; omega
          have hlh : (D.hs ++ p.filter (fun v => !decide (psum kvs Ds + v * D.f ≤ M))).length ≤ sizeLine := by have := List.length_filter_le (fun v => !decide (psum kvs Ds + v * D.f ≤ M)) p; have := hsz D hDm; have := sz24; rw [List.length_append]; omega
          have hlv : (p.filter (fun v => decide (psum kvs Ds + v * D.f ≤ M)) ++ q).length ≤ sizeLine := by rw [List.length_append]; exact hlp
          cases q with
          | nil =>
            rw [List.append_nil] at hv
            subst hv
            refine tr_nextIntEnd (R.deeper _) (by k_extra "rem") (by k_extra "mem") pInts_seq (by simp) ?_
            dsimp only
            repeat k_extra "st"
            rw [List.append_nil]
            refine ⟨fun hq => ?_, fun hq => ?_⟩
            · repeat k_extra "st"
              have hq' : (prune (psum kvs Ds) M D).vs = [] := by simpa [prune] using hq
              refine ⟨_, ?_, h _ _ (.dead A D Bs hS hb hD ha' hq')⟩
              k_extra "back"
            · repeat k_extra "st"
              have hq' : (prune (psum kvs Ds) M D).vs ≠ [] := by simpa [prune] using hq
              refine' ⟨Bs.length, _, by simp, Sel.refl, A ++ [D], Bs, _, by simp [hD], rfl, ?hs, ?hf, ?hn⟩
              (case hs => rw [List.length_append, List.length_singleton, List.map_append, List.map_singleton, show pr kvs (psum kvs Ds) M D = prune (psum kvs Ds) M D from if_neg (by rw [ha']; decide), List.append_assoc, List.singleton_append]; k_extra "back")
              (case hf => k_extra "fr")
              (case hn => intro E hE hq; rcases List.mem_append.mp hE with hE | hE; exact hA E hE hq; rw [List.mem_singleton.mp hE]; exact hq')
          | cons v q =>
            refine tr_nextInt (by k_extra "upd") (by k_extra "mem") pInts_seq (v := v) (by simp [hv]) fun tv => ?_
            dsimp only
            repeat k_extra "st"
            refine ⟨fun hq => ?_, fun hq => ?_⟩
            · have hq' : ¬ (psum kvs Ds + v * D.f ≤ M) := by rw [hf1 D hDm, Int.mul_one]; simpa using hq
              repeat k_extra "st"
              refine Tr.sel (by k_extra "sel") (hide_spec (B.deeper _) ((R.deeper _).le) (i := v) (vs := p.filter (fun v => decide (psum kvs Ds + v * D.f ≤ M)) ++ v :: q) (by simp) hlv hlh ?_)
              have hnm' : v ∉ p.filter (fun v => decide (psum kvs Ds + v * D.f ≤ M)) := by
                intro hm
                have := (List.mem_filter.mp hm).2
                exact hq' (by simpa using this)
              rw [List.erase_append_right _ hnm', List.erase_cons_head]
              repeat k_extra "st"
              refine' ⟨q.length, _, by simp, Sel.refl, p ++ [v], q, _, by simp [hv], rfl, ?hs, ?hf⟩
              (case hs => rw [List.length_append, List.length_singleton, List.filter_append, List.filter_append, show [v].filter (fun v => decide (psum kvs Ds + v * D.f ≤ M)) = [] by simp; omega, show [v].filter (fun v => !decide (psum kvs Ds + v * D.f ≤ M)) = [v] by simp; omega, List.append_nil, ← List.append_assoc]; k_extra "sel")
              (case hf => k_extra "fr")
            · have hq' : psum kvs Ds + v * D.f ≤ M := by rw [hf1 D hDm, Int.mul_one]; simpa using hq
              repeat k_extra "st"
              refine' ⟨q.length, _, by simp, Sel.refl, p ++ [v], q, _, by simp [hv], rfl, ?hs, ?hf⟩
              (case hs => rw [List.length_append, List.length_singleton, List.filter_append, List.filter_append, show [v].filter (fun v => decide (psum kvs Ds + v * D.f ≤ M)) = [v] by simp [hq'], show [v].filter (fun v => !decide (psum kvs Ds + v * D.f ≤ M)) = [] by simp [hq'], List.append_nil, List.append_assoc, List.singleton_append]; k_extra "sel")
              (case hf => k_extra "fr")
        · have ha' : asgd kvs D.nm = true := by simpa [asgd] using ha
          repeat k_extra "st"
          refine' ⟨Bs.length, _, by simp, Sel.refl, A ++ [D], Bs, _, by simp [hD], rfl, ?hs, ?hf, ?hn⟩
          (case hs => rw [List.length_append, List.length_singleton, List.map_append, List.map_singleton, show pr kvs (psum kvs Ds) M D = D from if_pos ha', List.append_assoc, List.singleton_append]; k_extra "sel")
          (case hf => k_extra "fr")
          (case hn => intro E hE hq; rcases List.mem_append.mp hE with hE | hE; exact hA E hE hq; rw [List.mem_singleton.mp hE, ha'] at hq; cases hq)
end
end
section
section
variable {mg mb : Str → Option Value} {c : Cx} {X Z : List Cell}
theorem exact_call_mult {con cd vl dm asg fl : Addr} {M : Int} {tM : Tok} {nvs : List Value} {Ds : List Dm} {kvs : List (Str × Value)} {fw : Value} {fwb : Bool} {ep : Nat} {Q : Value → List Cell → Prop}
    (B : Bs (hd.heap_39 c.w.params) c mg mb) (R : Rm 6 c.A) (hfw : FwOk fw fwb Z) (hnm : StrsAre nvs (Ds.map (·.nm))) (hnd : (Ds.map (·.nm)).Nodup) (hkv : IntKv kvs)
    (hmul : ∀ D ∈ Ds, ∀ a, (av kvs D.nm = some a ∨ a ∈ D.vs) → IntMulOk a D.f) (hlf : (Ds.map (·.f)).length ≤ sizeLine) (hne : Ds ≠ []) (hlen : nvs.length ≤ sizeLine)
    (hsz : ∀ D ∈ Ds, D.vs.length + D.hs.length ≤ 1000)
    (h : ∀ b Ds', ExRes kvs M fwb Ds b Ds' → Q (.bool b) ((con, pInst 445 cd) :: (cd, pAttr 2 (conA "_exactsum" M tM (.ref fl))) :: (vl, pList nvs) :: (dm, pDictE c ep (dmap Ds)) :: (asg, pDict c kvs) :: (fl, pInts (Ds.map (·.f))) :: (Z ++ (dcl Ds' ++ X)))) :
    TrF c (.ref 442) [.ref con, .ref vl, .ref dm, .ref asg, fw] ((con, pInst 445 cd) :: (cd, pAttr 2 (conA "_exactsum" M tM (.ref fl))) :: (vl, pList nvs) :: (dm, pDictE c ep (dmap Ds)) :: (asg, pDict c kvs) :: (fl, pInts (Ds.map (·.f))) :: (Z ++ (dcl Ds ++ X))) Q := by
  refine' tr_callF (binds := [(Str.ofString "self", .ref con), (Str.ofString "variables", .ref vl), (Str.ofString "domains", .ref dm), (Str.ofString "assignments", .ref asg), (Str.ofString "forwardcheck", fw)]) B R ?ho ?hcd ?hb ?hloc ?_ ?c1 ?c2 ?c3 ?c4
  k_extra "enterD"
  intro Lf
  repeat k_extra "st"
  rename_i t0
  refine ⟨fun hb => ?_, fun hb => ?_⟩
  · clear hb
    repeat k_extra "st"
    rename_i z TI TO i1 i2
    refine tr_forLoop (fun k L' => ∃ A Bs m t, Ds = A ++ Bs ∧ k = Bs.length ∧ Sel (zcs z TI TO i1 i2 vl fl A.length .none ++ ((Lf, pNs m) :: (con, pInst 445 cd) :: (cd, pAttr 2 (conA "_exactsum" M tM (.ref fl))) :: (vl, pList nvs) :: (dm, pDictE c ep (dmap Ds)) :: (asg, pDict c kvs) :: (fl, pInts (Ds.map (·.f))) :: (Z ++ (dcl Ds ++ X)))) L' ∧
      FrHas m [(Str.ofString "sum", .int (psum kvs A) t), (Str.ofString "exactsum", .int M tM), (Str.ofString "multipliers", .ref fl), (Str.ofString "self", .ref con), (Str.ofString "variables", .ref vl), (Str.ofString "domains", .ref dm), (Str.ofString "assignments", .ref asg), (Str.ofString "forwardcheck", fw), (Str.ofString "missing", .bool (missg kvs A))]) ?_ Ds.length ⟨[], Ds, _, t0, rfl, rfl, Sel.refl, by k_extra "fr"⟩
    intro k L' hI
    obtain ⟨A, Bs, m, t, hD, rfl, hsel, hF⟩ := hI
    refine Tr.sel hsel ?_
    clear hsel
    cases Bs with
    | cons D Bs =>
      have hDi : (Ds.map (·.nm))[A.length]? = some D.nm := by simp [hD]
      obtain ⟨tn, hnv⟩ := strs_get hnm hDi
      refine tr_nextZip (by k_extra "mem") (by k_extra "mem") hnv (y := D.f) (by simp [hD]) ?_
      intro T tf
      refine tr_letGoZip ?_
      refine tr_Tup2 (R.deeper _) (by k_extra "mem") ?_
      repeat k_extra "st"
      refine ⟨fun hb => ?_, fun hb => ?_⟩
      · obtain ⟨a, ta, hva, hav⟩ := hkv.some hb
        repeat k_extra "st"
        refine tr_mul (hmul D (by simp [hD]) a (.inl hav)) fun _ => ?_
        repeat k_extra "st"
        refine' ⟨Bs.length, _, by simp, Sel.refl, A ++ [D], Bs, _, _, by simp [hD], rfl, ?hs, ?hf⟩
        (case hs => rw [List.length_append, List.length_singleton]; k_extra "sel")
        (case hf => (have e : psum kvs (A ++ [D]) = psum kvs A + a * D.f := by rw [psum_app, psum_one, hav]); rw [e]; (have e2 : missg kvs (A ++ [D]) = missg kvs A := by rw [missg_app, show asgd kvs D.nm = true from hb]; simp); rw [e2]; k_extra "fr")
      · repeat k_extra "st"
        refine' ⟨Bs.length, _, by simp, Sel.refl, A ++ [D], Bs, _, _, by simp [hD], rfl, ?hs, ?hf⟩
        (case hs => rw [List.length_append, List.length_singleton]; k_extra "sel")
        (case hf => (have e : psum kvs (A ++ [D]) = psum kvs A := by rw [psum_app, psum_one, av_none hb]; simp); rw [e]; (have e2 : missg kvs (A ++ [D]) = true := by rw [missg_app, show asgd kvs D.nm = false from hb]; simp); rw [e2]; k_extra "fr")
    | nil =>
      rw [List.append_nil] at hD
      subst hD
      refine tr_nextZipEnd (R.deeper _) (by k_extra "mem") (by k_extra "mem") (.inr (by simp)) ?_
      dsimp only
      repeat k_extra "st"
      refine ⟨fun hb => absurd hb (by decide), fun _ => ?_⟩
      repeat k_extra "st"
      refine ⟨fun hb => ?_, fun hb => ?_⟩
      · repeat k_extra "st"
        exact ⟨_, by k_extra "sel", h _ _ (.over (by simpa using hb))⟩
      have hS : psum kvs Ds ≤ M := by simpa using hb
      clear hb
      repeat k_extra "st"
      refine tr_And_cons ?_
      repeat k_extra "st"
      refine tr_truthyFw hfw (by k_extra "all") ?_
      refine ⟨fun hb => ⟨fun q => (nomatch q), fun _ => ?_⟩, fun hb => ?_⟩
      · have hfm : (fwb && missg kvs Ds) = false := by rw [hb]; rfl
        repeat k_extra "st"
        refine ⟨fun hm => ?_, fun hm => ?_⟩
        · repeat k_extra "st"
          have z := h _ _ (.plain hS hfm)
          rw [hm, if_pos rfl] at z
          rw [show decide (psum kvs Ds ≤ M) = true by simpa using hS]
          exact ⟨_, by k_extra "sel", z⟩
        · repeat k_extra "st"
          have z := h _ _ (.plain hS hfm)
          rw [hm, if_neg (by decide)] at z
          exact ⟨_, by k_extra "sel", z⟩
      refine tr_And_cons ?_
      repeat k_extra "st"
      refine ⟨fun hm => ⟨fun q => (nomatch q), fun _ => ?_⟩, fun hm => tr_And_nil ⟨fun _ => ?_, fun q => nomatch q⟩⟩
      · have hfm : (fwb && missg kvs Ds) = false := by rw [hm, Bool.and_false]
        repeat k_extra "st"
        refine ⟨fun hm' => absurd (hm.symm.trans hm') (by decide), fun _ => ?_⟩
        repeat k_extra "st"
        have z := h _ _ (.plain hS hfm)
        rw [hm, if_neg (by decide)] at z
        exact ⟨_, by k_extra "sel", z⟩
      repeat k_extra "st"
      rename_i z TI TO i1 i2
      refine tr_forLoop (fun k L' => ∃ A Bs m, Ds = A ++ Bs ∧ k = Bs.length ∧ Sel (zcs z TI TO i1 i2 vl fl A.length .none ++ ((Lf, pNs m) :: (con, pInst 445 cd) :: (cd, pAttr 2 (conA "_exactsum" M tM (.ref fl))) :: (vl, pList nvs) :: (dm, pDictE c ep (dmap Ds)) :: (asg, pDict c kvs) :: (fl, pInts (Ds.map (·.f))) :: (Z ++ (dcl (A.map (pr kvs (psum kvs Ds) M) ++ Bs) ++ X)))) L' ∧
        FrHas m [(Str.ofString "sum", .int (psum kvs Ds) t), (Str.ofString "exactsum", .int M tM), (Str.ofString "multipliers", .ref fl), (Str.ofString "self", .ref con), (Str.ofString "variables", .ref vl), (Str.ofString "domains", .ref dm), (Str.ofString "assignments", .ref asg), (Str.ofString "forwardcheck", fw), (Str.ofString "missing", .bool (missg kvs Ds))] ∧ ∀ D ∈ A, asgd kvs D.nm = false → (prune (psum kvs Ds) M D).vs ≠ []) ?_ Ds.length ⟨[], Ds, _, rfl, rfl, Sel.refl, by k_extra "fr", fun _ q => nomatch q⟩
      clear hF
      intro k L' hI
      obtain ⟨A, Bs, m, hD, rfl, hsel, hF, hA⟩ := hI
      refine Tr.sel hsel ?_
      clear hsel
      cases Bs with
      | nil =>
        rw [List.append_nil] at hD
        subst hD
        refine tr_nextZipEnd (R.deeper _) (by k_extra "mem") (by k_extra "mem") (.inr (by simp)) ?_
        dsimp only
        repeat k_extra "st"
        refine ⟨fun _ => ?_, fun hm' => absurd (hm.symm.trans hm') (by decide)⟩
        repeat k_extra "st"
        rw [show decide (psum kvs Ds ≤ M) = true by simpa using hS]
        rw [List.append_nil]
        exact ⟨_, by k_extra "sel", h _ _ (.fine hS hb hm hA)⟩
      | cons D Bs =>
        have hDi : (Ds.map (·.nm))[A.length]? = some D.nm := by simp [hD]
        have hDm : D ∈ Ds := by simp [hD]
        obtain ⟨tn, hnv⟩ := strs_get hnm hDi
        have hdv := dmap_find hnd hDm
        have hz1 : D.vs.length ≤ sizeLine := by have := hsz D hDm; have := sz24; omega
        refine tr_nextZip (by k_extra "mem") (by k_extra "mem") hnv (y := D.f) (by simp [hD]) ?_
        intro T tf
        refine tr_letGoZip ?_
        refine tr_Tup2 (R.deeper _) (by k_extra "mem") ?_
        repeat k_extra "st"
        refine ⟨fun ha => ?_, fun ha => ?_⟩
        · -- not assigned: its values are looked through
          have ha' : asgd kvs D.nm = false := by simpa [asgd] using ha
          refine Tr.sel (by k_extra "focus") ?_
          repeat k_extra "st"
          rename_i sl cp it2
          refine tr_forLoop (fun k L' => ∃ p q m', D.vs = p ++ q ∧ k = q.length ∧ Sel ((it2, pLIter cp p.length) :: (cp, pInts D.vs) :: (D.d, pDomL 303 D.dd (p.filter (fun v => decide (psum kvs Ds + v * D.f ≤ M)) ++ q)) :: (D.dd, pAttr 2 (domA D.hd D.st)) :: (D.hd, pInts (D.hs ++ p.filter (fun v => !decide (psum kvs Ds + v * D.f ≤ M)))) :: (D.st, pInts D.ss) :: (zcs z TI TO i1 i2 vl fl (A.length + 1) .none ++ ((Lf, pNs m') :: (con, pInst 445 cd) :: (cd, pAttr 2 (conA "_exactsum" M tM (.ref fl))) :: (vl, pList nvs) :: (dm, pDictE c ep (dmap Ds)) :: (asg, pDict c kvs) :: (fl, pInts (Ds.map (·.f))) :: (Z ++ (dcl (A.map (pr kvs (psum kvs Ds) M) ++ Bs) ++ X))))) L' ∧
            FrHas m' [(Str.ofString "multiplier", .int D.f tf), (Str.ofString "domain", .ref D.d), (Str.ofString "sum", .int (psum kvs Ds) t), (Str.ofString "exactsum", .int M tM), (Str.ofString "multipliers", .ref fl), (Str.ofString "self", .ref con), (Str.ofString "variables", .ref vl), (Str.ofString "domains", .ref dm), (Str.ofString "assignments", .ref asg), (Str.ofString "forwardcheck", fw), (Str.ofString "missing", .bool (missg kvs Ds))]) ?_ D.vs.length ?init
          rotate_left
          · refine' ⟨[], D.vs, _, rfl, rfl, ?hs, ?hf⟩
            (case hs => rw [List.filter_nil, List.filter_nil, List.append_nil, List.nil_append]; k_extra "sel")
            (case hf => k_extra "fr")
          clear hF
          intro k L' hI
          obtain ⟨p, q, m', hv, rfl, hsel, hF⟩ := hI
          refine Tr.sel hsel ?_
          clear hsel
          have hlq : p.length + q.length = D.vs.length := by rw [hv, List.length_append]
          have hlp : (p.filter (fun v => decide (psum kvs Ds + v * D.f ≤ M))).length + q.length ≤ sizeLine := by have := List.length_filter_le (fun v => decide (psum kvs Ds + v * D.f ≤ M)) p; omega
          have hlh : (D.hs ++ p.filter (fun v => !decide (psum kvs Ds + v * D.f ≤ M))).length ≤ sizeLine := by have := List.length_filter_le (fun v => !decide (psum kvs Ds + v * D.f ≤ M)) p; have := hsz D hDm; have := sz24; rw [List.length_append]; omega
          have hlv : (p.filter (fun v => decide (psum kvs Ds + v * D.f ≤ M)) ++ q).length ≤ sizeLine := by rw [List.length_append]; exact hlp
          cases q with
          | nil =>
            rw [List.append_nil] at hv
            subst hv
            refine tr_nextIntEnd (R.deeper _) (by k_extra "rem") (by k_extra "mem") pInts_seq (by simp) ?_
            dsimp only
            repeat k_extra "st"
            rw [List.append_nil]
            refine ⟨fun hq => ?_, fun hq => ?_⟩
            · repeat k_extra "st"
              have hq' : (prune (psum kvs Ds) M D).vs = [] := by simpa [prune] using hq
              refine ⟨_, ?_, h _ _ (.dead A D Bs hS hb hD ha' hq')⟩
              k_extra "back"
            · repeat k_extra "st"
              have hq' : (prune (psum kvs Ds) M D).vs ≠ [] := by simpa [prune] using hq
              refine' ⟨Bs.length, _, by simp, Sel.refl, A ++ [D], Bs, _, by simp [hD], rfl, ?hs, ?hf, ?hn⟩
              (case hs => rw [List.length_append, List.length_singleton, List.map_append, List.map_singleton, show pr kvs (psum kvs Ds) M D = prune (psum kvs Ds) M D from if_neg (by rw [ha']; decide), List.append_assoc, List.singleton_append]; k_extra "back")
              (case hf => k_extra "fr")
              (case hn => intro E hE hq; rcases List.mem_append.mp hE with hE | hE; exact hA E hE hq; rw [List.mem_singleton.mp hE]; exact hq')
          | cons v q =>
            refine tr_nextInt (by k_extra "upd") (by k_extra "mem") pInts_seq (v := v) (by simp [hv]) fun tv => ?_
            dsimp only
            repeat k_extra "st"
            refine tr_mul (hmul D hDm v (.inr (by simp [hv]))) fun _ => ?_
            repeat k_extra "st"
            refine ⟨fun hq => ?_, fun hq => ?_⟩
            · have hq' : ¬ (psum kvs Ds + v * D.f ≤ M) := by simpa using hq
              repeat k_extra "st"
              refine Tr.sel (by k_extra "sel") (hide_spec (B.deeper _) ((R.deeper _).le) (i := v) (vs := p.filter (fun v => decide (psum kvs Ds + v * D.f ≤ M)) ++ v :: q) (by simp) hlv hlh ?_)
              have hnm' : v ∉ p.filter (fun v => decide (psum kvs Ds + v * D.f ≤ M)) := by
                intro hm
                have := (List.mem_filter.mp hm).2
                exact hq' (by simpa using this)
              rw [List.erase_append_right _ hnm', List.erase_cons_head]
              repeat k_extra "st"
              refine' ⟨q.length, _, by simp, Sel.refl, p ++ [v], q, _, by simp [hv], rfl, ?hs, ?hf⟩
              (case hs => rw [List.length_append, List.length_singleton, List.filter_append, List.filter_append, show [v].filter (fun v => decide (psum kvs Ds + v * D.f ≤ M)) = [] by simp; omega, show [v].filter (fun v => !decide (psum kvs Ds + v * D.f ≤ M)) = [v] by simp; omega, List.append_nil, ← List.append_assoc]; k_extra "sel")
              (case hf => k_extra "fr")
            · have hq' : psum kvs Ds + v * D.f ≤ M := by simpa using hq
              repeat k_extra "st"
              refine' ⟨q.length, _, by simp, Sel.refl, p ++ [v], q, _, by simp [hv], rfl, ?hs, ?hf⟩
              (case hs => rw [List.length_append, List.length_singleton, List.filter_append, List.filter_append, show [v].filter (fun v => decide (psum kvs Ds + v * D.f ≤ M)) = [v] by simp [hq'], show [v].filter (fun v => !decide (psum kvs Ds + v * D.f ≤ M)) = [] by simp [hq'], List.append_nil, List.append_assoc, List.singleton_append]; k_extra "sel")
              (case hf => k_extra "fr")
        · have ha' : asgd kvs D.nm = true := by simpa [asgd] using ha
          repeat k_extra "st"
          refine' ⟨Bs.length, _, by simp, Sel.refl, A ++ [D], Bs, _, by simp [hD], rfl, ?hs, ?hf, ?hn⟩
          (case hs => rw [List.length_append, List.length_singleton, List.map_append, List.map_singleton, show pr kvs (psum kvs Ds) M D = D from if_pos ha', List.append_assoc, List.singleton_append]; k_extra "sel")
          (case hf => k_extra "fr")
          (case hn => intro E hE hq; rcases List.mem_append.mp hE with hE | hE; exact hA E hE hq; rw [List.mem_singleton.mp hE, ha'] at hq; cases hq)
  · cases Ds with
    | nil => exact absurd rfl hne
    | cons D r => simp at hb
end
end
section
section
variable {mg mb : Str → Option Value} {c : Cx} {X Z : List Cell}
theorem exact_call_plain {con cd vl dm asg : Addr} {M : Int} {tM : Tok} {nvs : List Value} {Ds : List Dm} {kvs : List (Str × Value)} {fw : Value} {fwb : Bool} {ep : Nat} {Q : Value → List Cell → Prop}
    (B : Bs (hd.heap_39 c.w.params) c mg mb) (R : Rm 6 c.A) (hfw : FwOk fw fwb Z) (hnm : StrsAre nvs (Ds.map (·.nm))) (hnd : (Ds.map (·.nm)).Nodup) (hkv : IntKv kvs)
    (hf1 : ∀ D ∈ Ds, D.f = 1) (hlen : nvs.length ≤ sizeLine)
    (hsz : ∀ D ∈ Ds, D.vs.length + D.hs.length ≤ 1000)
    (h : ∀ b Ds', ExRes kvs M fwb Ds b Ds' → Q (.bool b) ((con, pInst 445 cd) :: (cd, pAttr 2 (conA "_exactsum" M tM (.none))) :: (vl, pList nvs) :: (dm, pDictE c ep (dmap Ds)) :: (asg, pDict c kvs) :: (Z ++ (dcl Ds' ++ X)))) :
    TrF c (.ref 442) [.ref con, .ref vl, .ref dm, .ref asg, fw] ((con, pInst 445 cd) :: (cd, pAttr 2 (conA "_exactsum" M tM (.none))) :: (vl, pList nvs) :: (dm, pDictE c ep (dmap Ds)) :: (asg, pDict c kvs) :: (Z ++ (dcl Ds ++ X))) Q := by
  refine' tr_callF (binds := [(Str.ofString "self", .ref con), (Str.ofString "variables", .ref vl), (Str.ofString "domains", .ref dm), (Str.ofString "assignments", .ref asg), (Str.ofString "forwardcheck", fw)]) B R ?ho ?hcd ?hb ?hloc ?_ ?c1 ?c2 ?c3 ?c4
  k_extra "enterD"
  intro Lf
  repeat k_extra "st"
  rename_i t0
  refine ⟨fun hb => ?_, fun hb => ?_⟩
  · cases hb
  · clear hb
    repeat k_extra "st"
    rename_i it
    refine tr_forLoop (fun k L' => ∃ A Bs m t, Ds = A ++ Bs ∧ k = Bs.length ∧ Sel ((it, pLIter vl (A.length)) :: ((Lf, pNs m) :: (con, pInst 445 cd) :: (cd, pAttr 2 (conA "_exactsum" M tM (.none))) :: (vl, pList nvs) :: (dm, pDictE c ep (dmap Ds)) :: (asg, pDict c kvs) :: (Z ++ (dcl Ds ++ X)))) L' ∧
      FrHas m [(Str.ofString "sum", .int (psum kvs A) t), (Str.ofString "exactsum", .int M tM), (Str.ofString "multipliers", .none), (Str.ofString "self", .ref con), (Str.ofString "variables", .ref vl), (Str.ofString "domains", .ref dm), (Str.ofString "assignments", .ref asg), (Str.ofString "forwardcheck", fw), (Str.ofString "missing", .bool (missg kvs A))]) ?_ Ds.length ⟨[], Ds, _, t0, rfl, rfl, Sel.refl, by k_extra "fr"⟩
    intro k L' hI
    obtain ⟨A, Bs, m, t, hD, rfl, hsel, hF⟩ := hI
    refine Tr.sel hsel ?_
    clear hsel
    cases Bs with
    | cons D Bs =>
      have hDi : (Ds.map (·.nm))[A.length]? = some D.nm := by simp [hD]
      obtain ⟨tn, hnv⟩ := strs_get hnm hDi
      refine tr_nextItem (by k_extra "upd") (by k_extra "mem") pList_seq hnv ?_
      dsimp only
      repeat k_extra "st"
      refine ⟨fun hb => ?_, fun hb => ?_⟩
      · obtain ⟨a, ta, hva, hav⟩ := hkv.some hb
        repeat k_extra "st"
        refine' ⟨Bs.length, _, by simp, Sel.refl, A ++ [D], Bs, _, _, by simp [hD], rfl, ?hs, ?hf⟩
        (case hs => rw [List.length_append, List.length_singleton]; k_extra "sel")
        (case hf => (have e : psum kvs (A ++ [D]) = psum kvs A + a := by rw [psum_app, psum_one, hav]; rw [hf1 D (by simp [hD])]; simp); rw [e]; (have e2 : missg kvs (A ++ [D]) = missg kvs A := by rw [missg_app, show asgd kvs D.nm = true from hb]; simp); rw [e2]; k_extra "fr")
      · repeat k_extra "st"
        refine' ⟨Bs.length, _, by simp, Sel.refl, A ++ [D], Bs, _, _, by simp [hD], rfl, ?hs, ?hf⟩
        (case hs => rw [List.length_append, List.length_singleton]; k_extra "sel")
        (case hf => (have e : psum kvs (A ++ [D]) = psum kvs A := by rw [psum_app, psum_one, av_none hb]; simp); rw [e]; (have e2 : missg kvs (A ++ [D]) = true := by rw [missg_app, show asgd kvs D.nm = false from hb]; simp); rw [e2]; k_extra "fr")
    | nil =>
      rw [List.append_nil] at hD
      subst hD
      refine tr_nextEnd (R.deeper _) (by k_extra "rem") (by k_extra "mem") pList_seq (List.getElem?_eq_none (by rw [strs_len hnm, List.length_map]; exact Nat.le_refl _)) ?_
      dsimp only
      repeat k_extra "st"
      refine ⟨fun hb => absurd hb (by decide), fun _ => ?_⟩
      repeat k_extra "st"
      refine ⟨fun hb => ?_, fun hb => ?_⟩
      · repeat k_extra "st"
        exact ⟨_, by k_extra "sel", h _ _ (.over (by simpa using hb))⟩
      have hS : psum kvs Ds ≤ M := by simpa using hb
      clear hb
      repeat k_extra "st"
      refine tr_And_cons ?_
      repeat k_extra "st"
      refine tr_truthyFw hfw (by k_extra "all") ?_
      refine ⟨fun hb => ⟨fun q => (nomatch q), fun _ => ?_⟩, fun hb => ?_⟩
      · have hfm : (fwb && missg kvs Ds) = false := by rw [hb]; rfl
        repeat k_extra "st"
        refine ⟨fun hm => ?_, fun hm => ?_⟩
        · repeat k_extra "st"
          have z := h _ _ (.plain hS hfm)
          rw [hm, if_pos rfl] at z
          rw [show decide (psum kvs Ds ≤ M) = true by simpa using hS]
          exact ⟨_, by k_extra "sel", z⟩
        · repeat k_extra "st"
          have z := h _ _ (.plain hS hfm)
          rw [hm, if_neg (by decide)] at z
          exact ⟨_, by k_extra "sel", z⟩
      refine tr_And_cons ?_
      repeat k_extra "st"
      refine ⟨fun hm => ⟨fun q => (nomatch q), fun _ => ?_⟩, fun hm => tr_And_nil ⟨fun _ => ?_, fun q => nomatch q⟩⟩
      · have hfm : (fwb && missg kvs Ds) = false := by rw [hm, Bool.and_false]
        repeat k_extra "st"
        refine ⟨fun hm' => absurd (hm.symm.trans hm') (by decide), fun _ => ?_⟩
        repeat k_extra "st"
        have z := h _ _ (.plain hS hfm)
        rw [hm, if_neg (by decide)] at z
        exact ⟨_, by k_extra "sel", z⟩
      repeat k_extra "st"
      rename_i it
      refine tr_forLoop (fun k L' => ∃ A Bs m, Ds = A ++ Bs ∧ k = Bs.length ∧ Sel ((it, pLIter vl (A.length)) :: ((Lf, pNs m) :: (con, pInst 445 cd) :: (cd, pAttr 2 (conA "_exactsum" M tM (.none))) :: (vl, pList nvs) :: (dm, pDictE c ep (dmap Ds)) :: (asg, pDict c kvs) :: (Z ++ (dcl (A.map (pr kvs (psum kvs Ds) M) ++ Bs) ++ X)))) L' ∧
        FrHas m [(Str.ofString "sum", .int (psum kvs Ds) t), (Str.ofString "exactsum", .int M tM), (Str.ofString "multipliers", .none), (Str.ofString "self", .ref con), (Str.ofString "variables", .ref vl), (Str.ofString "domains", .ref dm), (Str.ofString "assignments", .ref asg), (Str.ofString "forwardcheck", fw), (Str.ofString "missing", .bool (missg kvs Ds))] ∧ ∀ D ∈ A, asgd kvs D.nm = false → (prune (psum kvs Ds) M D).vs ≠ []) ?_ Ds.length ⟨[], Ds, _, rfl, rfl, Sel.refl, by k_extra "fr", fun _ q => nomatch q⟩
      clear hF
      intro k L' hI
      obtain ⟨A, Bs, m, hD, rfl, hsel, hF, hA⟩ := hI
      refine Tr.sel hsel ?_
      clear hsel
      cases Bs with
      | nil =>
        rw [List.append_nil] at hD
        subst hD
        refine tr_nextEnd (R.deeper _) (by k_extra "rem") (by k_extra "mem") pList_seq (List.getElem?_eq_none (by rw [strs_len hnm, List.length_map]; exact Nat.le_refl _)) ?_
        dsimp only
        repeat k_extra "st"
        refine ⟨fun _ => ?_, fun hm' => absurd (hm.symm.trans hm') (by decide)⟩
        repeat k_extra "st"
        rw [show decide (psum kvs Ds ≤ M) = true by simpa using hS]
        rw [List.append_nil]
        exact ⟨_, by k_extra "sel", h _ _ (.fine hS hb hm hA)⟩
      | cons D Bs =>
        have hDi : (Ds.map (·.nm))[A.length]? = some D.nm := by simp [hD]
        have hDm : D ∈ Ds := by simp [hD]
        obtain ⟨tn, hnv⟩ := strs_get hnm hDi
        have hdv := dmap_find hnd hDm
        have hz1 : D.vs.length ≤ sizeLine := by have := hsz D hDm; have := sz24; omega
        refine tr_nextItem (by k_extra "upd") (by k_extra "mem") pList_seq hnv ?_
        dsimp only
        repeat k_extra "st"
        refine ⟨fun ha => ?_, fun ha => ?_⟩
        · -- not assigned: its values are looked through
          have ha' : asgd kvs D.nm = false := by simpa [asgd] using ha
          refine Tr.sel (by k_extra "focus") ?_
          repeat k_extra "st"
          rename_i sl cp it2
          refine tr_forLoop (fun k L' => ∃ p q m', D.vs = p ++ q ∧ k = q.length ∧ Sel ((it2, pLIter cp p.length) :: (cp, pInts D.vs) :: (D.d, pDomL 303 D.dd (p.filter (fun v => decide (psum kvs Ds + v * D.f ≤ M)) ++ q)) :: (D.dd, pAttr 2 (domA D.hd D.st)) :: (D.hd, pInts (D.hs ++ p.filter (fun v => !decide (psum kvs Ds + v * D.f ≤ M)))) :: (D.st, pInts D.ss) :: ((it, pLIter vl ((A.length + 1))) :: ((Lf, pNs m') :: (con, pInst 445 cd) :: (cd, pAttr 2 (conA "_exactsum" M tM (.none))) :: (vl, pList nvs) :: (dm, pDictE c ep (dmap Ds)) :: (asg, pDict c kvs) :: (Z ++ (dcl (A.map (pr kvs (psum kvs Ds) M) ++ Bs) ++ X))))) L' ∧
            FrHas m' [(Str.ofString "domain", .ref D.d), (Str.ofString "sum", .int (psum kvs Ds) t), (Str.ofString "exactsum", .int M tM), (Str.ofString "multipliers", .none), (Str.ofString "self", .ref con), (Str.ofString "variables", .ref vl), (Str.ofString "domains", .ref dm), (Str.ofString "assignments", .ref asg), (Str.ofString "forwardcheck", fw), (Str.ofString "missing", .bool (missg kvs Ds))]) ?_ D.vs.length ?init
          rotate_left
          · refine' ⟨[], D.vs, _, rfl, rfl, ?hs, ?hf⟩
            (case hs => rw [List.filter_nil, List.filter_nil, List.append_nil, List.nil_append]; k_extra "sel")
            (case hf => k_extra "fr")
          clear hF
          intro k L' hI
          obtain ⟨p, q, m', hv, rfl, hsel, hF⟩ := hI
          refine Tr.sel hsel ?_
          clear hsel
          have hlq : p.length + q.length = D.vs.length := by rw [hv, List.length_append]
          have hlp : (p.filter (fun v => decide (psum kvs Ds + v * D.f ≤ M))).length + q.length ≤ sizeLine := by have := List.length_filter_le (fun v => decide (psum kvs Ds + v * D.f ≤ M)) p; omega
          have hlh : (D.hs ++ p.filter (fun v => !decide (psum kvs Ds + v * D.f ≤ M))).length ≤ sizeLine := by have := List.length_filter_le (fun v => !decide (psum kvs Ds + v * D.f ≤ M)) p; have := hsz D hDm; have := sz24; rw [List.length_append]; omega
          have hlv : (p.filter (fun v => decide (psum kvs Ds + v * D.f ≤ M)) ++ q).length ≤ sizeLine := by rw [List.length_append]; exact hlp
          cases q with
          | nil =>
            rw [List.append_nil] at hv
            subst hv
            refine tr_nextIntEnd (R.deeper _) (by k_extra "rem") (by k_extra "mem") pInts_seq (by simp) ?_
            dsimp only
            repeat k_extra "st"
            rw [List.append_nil]
            refine ⟨fun hq => ?_, fun hq => ?_⟩
            · repeat k_extra "st"
              have hq' : (prune (psum kvs Ds) M D).vs = [] := by simpa [prune] using hq
              refine ⟨_, ?_, h _ _ (.dead A D Bs hS hb hD ha' hq')⟩
              k_extra "back"
            · repeat k_extra "st"
              have hq' : (prune (psum kvs Ds) M D).vs ≠ [] := by simpa [prune] using hq
              refine' ⟨Bs.length, _, by simp, Sel.refl, A ++ [D], Bs, _, by simp [hD], rfl, ?hs, ?hf, ?hn⟩
              (case hs => rw [List.length_append, List.length_singleton, List.map_append, List.map_singleton, show pr kvs (psum kvs Ds) M D = prune (psum kvs Ds) M D from if_neg (by rw [ha']; decide), List.append_assoc, List.singleton_append]; k_extra "back")
              (case hf => k_extra "fr")
              (case hn => intro E hE hq; rcases List.mem_append.mp hE with hE | hE; exact hA E hE hq; rw [List.mem_singleton.mp hE]; exact hq')
          | cons v q =>
            refine tr_nextInt (by k_extra "upd") (by k_extra "mem") pInts_seq (v := v) (by simp [hv]) fun tv => ?_
            dsimp only
            repeat k_extra "st"
            refine ⟨fun hq => ?_, fun hq => ?_⟩
            · have hq' : ¬ (psum kvs Ds + v * D.f ≤ M) := by rw [hf1 D hDm, Int.mul_one]; simpa using hq
              repeat k_extra "st"
              refine Tr.sel (by k_extra "sel") (hide_spec (B.deeper _) ((R.deeper _).le) (i := v) (vs := p.filter (fun v => decide (psum kvs Ds + v * D.f ≤ M)) ++ v :: q) (by simp) hlv hlh ?_)
              have hnm' : v ∉ p.filter (fun v => decide (psum kvs Ds + v * D.f ≤ M)) := by
                intro hm
                have := (List.mem_filter.mp hm).2
                exact hq' (by simpa using this)
              rw [List.erase_append_right _ hnm', List.erase_cons_head]
              repeat k_extra "st"
              refine' ⟨q.length, _, by simp, Sel.refl, p ++ [v], q, _, by simp [hv], rfl, ?hs, ?hf⟩
              (case hs => rw [List.length_append, List.length_singleton, List.filter_append, List.filter_append, show [v].filter (fun v => decide (psum kvs Ds + v * D.f ≤ M)) = [] by simp; omega, show [v].filter (fun v => !decide (psum kvs Ds + v * D.f ≤ M)) = [v] by simp; omega, List.append_nil, ← List.append_assoc]; k_extra "sel")
              (case hf => k_extra "fr")
            · have hq' : psum kvs Ds + v * D.f ≤ M := by rw [hf1 D hDm, Int.mul_one]; simpa using hq
              repeat k_extra "st"
              refine' ⟨q.length, _, by simp, Sel.refl, p ++ [v], q, _, by simp [hv], rfl, ?hs, ?hf⟩
              (case hs => rw [List.length_append, List.length_singleton, List.filter_append, List.filter_append, show [v].filter (fun v => decide (psum kvs Ds + v * D.f ≤ M)) = [v] by simp [hq'], show [v].filter (fun v => !decide (psum kvs Ds + v * D.f ≤ M)) = [] by simp [hq'], List.append_nil, List.append_assoc, List.singleton_append]; k_extra "sel")
              (case hf => k_extra "fr")
        · have ha' : asgd kvs D.nm = true := by simpa [asgd] using ha
          repeat k_extra "st"
          refine' ⟨Bs.length, _, by simp, Sel.refl, A ++ [D], Bs, _, by simp [hD], rfl, ?hs, ?hf, ?hn⟩
          (case hs => rw [List.length_append, List.length_singleton, List.map_append, List.map_singleton, show pr kvs (psum kvs Ds) M D = D from if_pos ha', List.append_assoc, List.singleton_append]; k_extra "sel")
          (case hf => k_extra "fr")
          (case hn => intro E hE hq; rcases List.mem_append.mp hE with hE | hE; exact hA E hE hq; rw [List.mem_singleton.mp hE, ha'] at hq; cases hq)
end
end
section
section
variable {mg mb : Str → Option Value} {c : Cx} {X Z : List Cell}
theorem min_call_mult {con cd vl asg fl : Addr} {M : Int} {tM : Tok} {nvs : List Value} {Ds : List Dm} {kvs : List (Str × Value)} {dm fw : Value} {Q : Value → List Cell → Prop}
    (B : Bs (hd.heap_39 c.w.params) c mg mb) (R : Rm 6 c.A) (hnm : StrsAre nvs (Ds.map (·.nm))) (hkv : IntKv kvs)
    (hmul : ∀ D ∈ Ds, ∀ a, av kvs D.nm = some a → IntMulOk a D.f) (hlf : (Ds.map (·.f)).length ≤ sizeLine) (hne : Ds ≠ []) (hlen : nvs.length ≤ sizeLine)
    (h : Q (.bool (if missg kvs Ds then true else decide (psum kvs Ds ≥ M))) ((con, pInst 473 cd) :: (cd, pAttr 2 (conA "_minsum" M tM (.ref fl))) :: (vl, pList nvs) :: (asg, pDict c kvs) :: (fl, pInts (Ds.map (·.f))) :: X)) :
    TrF c (.ref 470) [.ref con, .ref vl, dm, .ref asg, fw] ((con, pInst 473 cd) :: (cd, pAttr 2 (conA "_minsum" M tM (.ref fl))) :: (vl, pList nvs) :: (asg, pDict c kvs) :: (fl, pInts (Ds.map (·.f))) :: X) Q := by
  refine' tr_callF (binds := [(Str.ofString "self", .ref con), (Str.ofString "variables", .ref vl), (Str.ofString "domains", dm), (Str.ofString "assignments", .ref asg), (Str.ofString "forwardcheck", fw)]) B R ?ho ?hcd ?hb ?hloc ?_ ?c1 ?c2 ?c3 ?c4
  k_extra "enterD"
  intro Lf
  repeat k_extra "st"
  rename_i it
  refine tr_forLoop (fun k L' => ∃ A Bs m, Ds = A ++ Bs ∧ k = Bs.length ∧ Sel ((it, pLIter vl A.length) :: (Lf, pNs m) :: (con, pInst 473 cd) :: (cd, pAttr 2 (conA "_minsum" M tM (.ref fl))) :: (vl, pList nvs) :: (asg, pDict c kvs) :: (fl, pInts (Ds.map (·.f))) :: X) L' ∧ FrHas m [(Str.ofString "self", .ref con), (Str.ofString "variables", .ref vl), (Str.ofString "assignments", .ref asg)] ∧ missg kvs A = false) ?_ Ds.length ⟨[], Ds, _, rfl, rfl, Sel.refl, by k_extra "fr", rfl⟩
  intro k L' hI
  obtain ⟨A, Bs, m, hD, rfl, hsel, hF, hA⟩ := hI
  refine Tr.sel hsel ?_
  clear hsel
  cases Bs with
  | cons D Bs =>
    have hDi : (Ds.map (·.nm))[A.length]? = some D.nm := by simp [hD]
    obtain ⟨tn, hnv⟩ := strs_get hnm hDi
    refine tr_nextItem (by k_extra "upd") (by k_extra "mem") pList_seq hnv ?_
    dsimp only
    repeat k_extra "st"
    refine ⟨fun hb => ?_, fun hb => ?_⟩
    · repeat k_extra "st"
      have hm : missg kvs Ds = true := by
        have : asgd kvs D.nm = false := by simpa [asgd] using hb
        rw [hD]; simp [missg, this]
      rw [hm, if_pos rfl] at h
      exact ⟨_, by k_extra "sel", h⟩
    · have ha' : asgd kvs D.nm = true := by simpa [asgd] using hb
      repeat k_extra "st"
      refine' ⟨Bs.length, _, by simp, Sel.refl, A ++ [D], Bs, _, by simp [hD], rfl, ?hs, ?hf, ?hn⟩
      (case hs => rw [List.length_append, List.length_singleton]; k_extra "sel")
      (case hf => k_extra "fr")
      (case hn => rw [missg_app, hA, ha']; rfl)
  | nil =>
  rw [List.append_nil] at hD
  subst hD
  rw [hA, if_neg (by decide)] at h
  refine tr_nextEnd (R.deeper _) (by k_extra "rem") (by k_extra "mem") pList_seq (List.getElem?_eq_none (by rw [strs_len hnm, List.length_map]; exact Nat.le_refl _)) ?_
  dsimp only
  clear it
  repeat k_extra "st"
  rename_i t0
  refine ⟨fun hb => ?_, fun hb => ?_⟩

  · clear hb
    repeat k_extra "st"
    rename_i z TI TO i1 i2
    refine tr_forLoop (fun k L' => ∃ A Bs m t, Ds = A ++ Bs ∧ k = Bs.length ∧ Sel (zcs z TI TO i1 i2 vl fl A.length .none ++ ((Lf, pNs m) :: (con, pInst 473 cd) :: (cd, pAttr 2 (conA "_minsum" M tM (.ref fl))) :: (vl, pList nvs) :: (asg, pDict c kvs) :: (fl, pInts (Ds.map (·.f))) :: X)) L' ∧
      FrHas m [(Str.ofString "sum", .int (psum kvs A) t), (Str.ofString "minsum", .int M tM), (Str.ofString "multipliers", .ref fl), (Str.ofString "self", .ref con), (Str.ofString "variables", .ref vl), (Str.ofString "assignments", .ref asg)]) ?_ Ds.length ?init
    rotate_left
    · refine' ⟨[], Ds, _, _, rfl, rfl, ?hs, ?hf⟩
      (case hs => exact Sel.refl)
      (case hf => k_extra "fr")
    clear hF
    intro k L' hI
    obtain ⟨A, Bs, m, t, hD, rfl, hsel, hF⟩ := hI
    refine Tr.sel hsel ?_
    clear hsel
    cases Bs with
    | cons D Bs =>
      have hDi : (Ds.map (·.nm))[A.length]? = some D.nm := by simp [hD]
      have hDm : D ∈ Ds := by simp [hD]
      obtain ⟨tn, hnv⟩ := strs_get hnm hDi
      have hb : asgd kvs D.nm = true := by
        cases q : asgd kvs D.nm with
        | true => rfl
        | false => exact absurd hA (by simp [missg]; exact ⟨D, hDm, q⟩)
      obtain ⟨a, ta, hva, hav⟩ := hkv.some hb
      refine tr_nextZip (by k_extra "mem") (by k_extra "mem") hnv (y := D.f) (by simp [hD]) ?_
      intro T tf
      refine tr_letGoZip ?_
      refine tr_Tup2 (R.deeper _) (by k_extra "mem") ?_
      repeat k_extra "st"
      refine tr_mul (hmul D (by simp [hD]) a hav) fun _ => ?_
      repeat k_extra "st"
      refine' ⟨Bs.length, _, by simp, Sel.refl, A ++ [D], Bs, _, _, by simp [hD], rfl, ?hs, ?hf⟩
      (case hs => rw [List.length_append, List.length_singleton]; k_extra "sel")
      (case hf => (have e : psum kvs (A ++ [D]) = psum kvs A + a * D.f := by rw [psum_app, psum_one, hav]); rw [e]; k_extra "fr")
    | nil =>
      rw [List.append_nil] at hD
      subst hD
      refine tr_nextZipEnd (R.deeper _) (by k_extra "mem") (by k_extra "mem") (.inr (by simp)) ?_
      dsimp only
      repeat k_extra "st"
      refine ⟨fun hb => absurd hb (by decide), fun _ => ?_⟩
      repeat k_extra "st"
      exact ⟨_, by k_extra "sel", h⟩

  · cases Ds with
    | nil => exact absurd rfl hne
    | cons D r => simp at hb
end
end
section
section
variable {mg mb : Str → Option Value} {c : Cx} {X Z : List Cell}
theorem min_call_plain {con cd vl asg : Addr} {M : Int} {tM : Tok} {nvs : List Value} {Ds : List Dm} {kvs : List (Str × Value)} {dm fw : Value} {Q : Value → List Cell → Prop}
    (B : Bs (hd.heap_39 c.w.params) c mg mb) (R : Rm 6 c.A) (hnm : StrsAre nvs (Ds.map (·.nm))) (hkv : IntKv kvs)
    (hf1 : ∀ D ∈ Ds, D.f = 1) (hlen : nvs.length ≤ sizeLine)
    (h : Q (.bool (if missg kvs Ds then true else decide (psum kvs Ds ≥ M))) ((con, pInst 473 cd) :: (cd, pAttr 2 (conA "_minsum" M tM (.none))) :: (vl, pList nvs) :: (asg, pDict c kvs) :: X)) :
    TrF c (.ref 470) [.ref con, .ref vl, dm, .ref asg, fw] ((con, pInst 473 cd) :: (cd, pAttr 2 (conA "_minsum" M tM (.none))) :: (vl, pList nvs) :: (asg, pDict c kvs) :: X) Q := by
  refine' tr_callF (binds := [(Str.ofString "self", .ref con), (Str.ofString "variables", .ref vl), (Str.ofString "domains", dm), (Str.ofString "assignments", .ref asg), (Str.ofString "forwardcheck", fw)]) B R ?ho ?hcd ?hb ?hloc ?_ ?c1 ?c2 ?c3 ?c4
  k_extra "enterD"
  intro Lf
  repeat k_extra "st"
  rename_i it
  refine tr_forLoop (fun k L' => ∃ A Bs m, Ds = A ++ Bs ∧ k = Bs.length ∧ Sel ((it, pLIter vl A.length) :: (Lf, pNs m) :: (con, pInst 473 cd) :: (cd, pAttr 2 (conA "_minsum" M tM (.none))) :: (vl, pList nvs) :: (asg, pDict c kvs) :: X) L' ∧ FrHas m [(Str.ofString "self", .ref con), (Str.ofString "variables", .ref vl), (Str.ofString "assignments", .ref asg)] ∧ missg kvs A = false) ?_ Ds.length ⟨[], Ds, _, rfl, rfl, Sel.refl, by k_extra "fr", rfl⟩
  intro k L' hI
  obtain ⟨A, Bs, m, hD, rfl, hsel, hF, hA⟩ := hI
  refine Tr.sel hsel ?_
  clear hsel
  cases Bs with
  | cons D Bs =>
    have hDi : (Ds.map (·.nm))[A.length]? = some D.nm := by simp [hD]
    obtain ⟨tn, hnv⟩ := strs_get hnm hDi
    refine tr_nextItem (by k_extra "upd") (by k_extra "mem") pList_seq hnv ?_
    dsimp only
    repeat k_extra "st"
    refine ⟨fun hb => ?_, fun hb => ?_⟩
    · repeat k_extra "st"
      have hm : missg kvs Ds = true := by
        have : asgd kvs D.nm = false := by simpa [asgd] using hb
        rw [hD]; simp [missg, this]
      rw [hm, if_pos rfl] at h
      exact ⟨_, by k_extra "sel", h⟩
    · have ha' : asgd kvs D.nm = true := by simpa [asgd] using hb
      repeat k_extra "st"
      refine' ⟨Bs.length, _, by simp, Sel.refl, A ++ [D], Bs, _, by simp [hD], rfl, ?hs, ?hf, ?hn⟩
      (case hs => rw [List.length_append, List.length_singleton]; k_extra "sel")
      (case hf => k_extra "fr")
      (case hn => rw [missg_app, hA, ha']; rfl)
  | nil =>
  rw [List.append_nil] at hD
  subst hD
  rw [hA, if_neg (by decide)] at h
  refine tr_nextEnd (R.deeper _) (by k_extra "rem") (by k_extra "mem") pList_seq (List.getElem?_eq_none (by rw [strs_len hnm, List.length_map]; exact Nat.le_refl _)) ?_
  dsimp only
  clear it
  repeat k_extra "st"
  rename_i t0
  refine ⟨fun hb => ?_, fun hb => ?_⟩

  · cases hb
  · clear hb
    repeat k_extra "st"
    rename_i it
    refine tr_forLoop (fun k L' => ∃ A Bs m t, Ds = A ++ Bs ∧ k = Bs.length ∧ Sel ((it, pLIter vl (A.length)) :: ((Lf, pNs m) :: (con, pInst 473 cd) :: (cd, pAttr 2 (conA "_minsum" M tM (.none))) :: (vl, pList nvs) :: (asg, pDict c kvs) :: X)) L' ∧
      FrHas m [(Str.ofString "sum", .int (psum kvs A) t), (Str.ofString "minsum", .int M tM), (Str.ofString "multipliers", .none), (Str.ofString "self", .ref con), (Str.ofString "variables", .ref vl), (Str.ofString "assignments", .ref asg)]) ?_ Ds.length ?init
    rotate_left
    · refine' ⟨[], Ds, _, _, rfl, rfl, ?hs, ?hf⟩
      (case hs => exact Sel.refl)
      (case hf => k_extra "fr")
    clear hF
    intro k L' hI
    obtain ⟨A, Bs, m, t, hD, rfl, hsel, hF⟩ := hI
    refine Tr.sel hsel ?_
    clear hsel
    cases Bs with
    | cons D Bs =>
      have hDi : (Ds.map (·.nm))[A.length]? = some D.nm := by simp [hD]
      have hDm : D ∈ Ds := by simp [hD]
      obtain ⟨tn, hnv⟩ := strs_get hnm hDi
      have hb : asgd kvs D.nm = true := by
        cases q : asgd kvs D.nm with
        | true => rfl
        | false => exact absurd hA (by simp [missg]; exact ⟨D, hDm, q⟩)
      obtain ⟨a, ta, hva, hav⟩ := hkv.some hb
      refine tr_nextItem (by k_extra "upd") (by k_extra "mem") pList_seq hnv ?_
      dsimp only
      repeat k_extra "st"
      refine' ⟨Bs.length, _, by simp, Sel.refl, A ++ [D], Bs, _, _, by simp [hD], rfl, ?hs, ?hf⟩
      (case hs => rw [List.length_append, List.length_singleton]; k_extra "sel")
      (case hf => (have e : psum kvs (A ++ [D]) = psum kvs A + a := by rw [psum_app, psum_one, hav]; rw [hf1 D (by simp [hD])]; simp); rw [e]; k_extra "fr")
    | nil =>
      rw [List.append_nil] at hD
      subst hD
      refine tr_nextEnd (R.deeper _) (by k_extra "rem") (by k_extra "mem") pList_seq (List.getElem?_eq_none (by rw [strs_len hnm, List.length_map]; exact Nat.le_refl _)) ?_
      dsimp only
      repeat k_extra "st"
      refine ⟨fun hb => absurd hb (by decide), fun _ => ?_⟩
      repeat k_extra "st"
      exact ⟨_, by k_extra "sel", h⟩

end
end
section
theorem TrF.weak {c : Cx} {f : Value} {args : List Value} {L : List Cell} {Q : Value → List Cell → Prop} (h : TrF c f args L (fun v L1 => ∃ L', Sel L' L1 ∧ Q v L')) : TrF c f args L Q := fun s H g o => codeAny_mono (h s H g o) fun r s' z => by
  cases r with
  | error e => exact z
  | ok fl => cases fl with
    | ret v => obtain ⟨L1, a, b, d, L', sl, q⟩ := z; exact ⟨L', a.sel sl, b, d, q⟩
    | _ => exact z
structure Cn where
  kind : Nat
  con : Addr
  cd : Addr
  M : Int
  tM : Tok
  fl : Option Addr
def clsOf (k : Nat) : Addr := if k = 0 then 410 else if k = 1 then 473 else 445
def callOf (k : Nat) : Addr := if k = 0 then 407 else if k = 1 then 470 else 442
def attrOf (k : Nat) : String := if k = 0 then "_maxsum" else if k = 1 then "_minsum" else "_exactsum"
def mulV : Option Addr → Value
  | some a => .ref a
  | none => .none
def flC (fl : Option Addr) (Ds : List Dm) : List Cell := match fl with
  | some a => [(a, pInts (Ds.map (·.f)))]
  | none => []
structure Wf (nvs : List Value) (kvs : List (Str × Value)) (Ds : List Dm) : Prop where
  nm : StrsAre nvs (Ds.map (·.nm))
  nd : (Ds.map (·.nm)).Nodup
  kv : IntKv kvs
  val : ∀ D ∈ Ds, ∀ a, (av kvs D.nm = some a ∨ a ∈ D.vs) → 0 ≤ a ∧ a ≤ 4
  fac : ∀ D ∈ Ds, 0 ≤ D.f
  len : Ds.length ≤ 16
  sz : ∀ D ∈ Ds, D.vs.length + D.hs.length ≤ 1000
  ne : Ds ≠ []
theorem small_mul {a b : Int} (h : 0 ≤ a ∧ a ≤ 4) : IntMulOk a b := by
  refine IntMulOk.of_left ?_
  have : a = 0 ∨ a = 1 ∨ a = 2 ∨ a = 3 ∨ a = 4 := by omega
  rcases this with rfl | rfl | rfl | rfl | rfl <;> decide
section
variable {mg mb : Str → Option Value} {c : Cx} {X Z : List Cell}
theorem con_call {k : Cn} {vl dm asg : Addr} {nvs : List Value} {Ds : List Dm} {kvs : List (Str × Value)} {fw : Value} {fwb : Bool} {ep : Nat} {Q : Value → List Cell → Prop}
    (B : Bs (hd.heap_39 c.w.params) c mg mb) (R : Rm 6 c.A) (hfw : FwOk fw fwb Z) (W : Wf nvs kvs Ds) (hk : k.kind < 3) (hf1 : k.fl = none → ∀ D ∈ Ds, D.f = 1)
    (h : ∀ b Ds', CRes (SatK k.kind k.M Ds) kvs fwb Ds b Ds' → Q (.bool b) ((k.con, pInst (clsOf k.kind) k.cd) :: (k.cd, pAttr 2 (conA (attrOf k.kind) k.M k.tM (mulV k.fl))) :: (vl, pList nvs) :: (dm, pDictE c ep (dmap Ds)) :: (asg, pDict c kvs) :: (flC k.fl Ds ++ (Z ++ (dcl Ds' ++ X))))) :
    TrF c (.ref (callOf k.kind)) [.ref k.con, .ref vl, .ref dm, .ref asg, fw] ((k.con, pInst (clsOf k.kind) k.cd) :: (k.cd, pAttr 2 (conA (attrOf k.kind) k.M k.tM (mulV k.fl))) :: (vl, pList nvs) :: (dm, pDictE c ep (dmap Ds)) :: (asg, pDict c kvs) :: (flC k.fl Ds ++ (Z ++ (dcl Ds ++ X)))) Q := by
  obtain ⟨kind, con, cd, M, tM, fl⟩ := k
  dsimp only at *
  have hz := sz24
  have hlen : nvs.length ≤ sizeLine := by rw [strs_len W.nm, List.length_map]; have := W.len; omega
  have hlf : (Ds.map (·.f)).length ≤ sizeLine := by rw [List.length_map]; have := W.len; omega
  have hmul : ∀ D ∈ Ds, ∀ a, (av kvs D.nm = some a ∨ a ∈ D.vs) → IntMulOk a D.f := fun D m a q => small_mul (W.val D m a q)
  have hpos : PosD kvs Ds := fun D m => ⟨W.fac D m, fun a q => (W.val D m a (.inr q)).1⟩
  have h012 : kind = 0 ∨ kind = 1 ∨ kind = 2 := by omega
  rcases h012 with rfl | rfl | rfl
  · cases fl with
    | none => exact max_call_plain B R hfw W.nm W.nd W.kv (hf1 rfl) hlen W.sz fun b Ds' r => h b Ds' (r.res W.kv hpos)
    | some fl => exact max_call_mult B R hfw W.nm W.nd W.kv hmul hlf W.ne hlen W.sz fun b Ds' r => h b Ds' (r.res W.kv hpos)
  · have q := h _ _ (min_res (M := M) (fwb := fwb) (Ds := Ds) W.kv)
    cases fl with
    | none => exact TrF.weak (TrF.sel (by k_extra "sel") (min_call_plain B R W.nm W.kv (hf1 rfl) hlen ⟨_, by k_extra "sel", q⟩))
    | some fl => exact TrF.weak (TrF.sel (by k_extra "sel") (min_call_mult B R W.nm W.kv (fun D m a e => hmul D m a (.inl e)) hlf W.ne hlen ⟨_, by k_extra "sel", q⟩))
  · cases fl with
    | none => exact exact_call_plain B R hfw W.nm W.nd W.kv (hf1 rfl) hlen W.sz fun b Ds' r => h b Ds' (r.res W.kv hpos)
    | some fl => exact exact_call_mult B R hfw W.nm W.nd W.kv hmul hlf W.ne hlen W.sz fun b Ds' r => h b Ds' (r.res W.kv hpos)
end
end
section
section
variable {mg mb : Str → Option Value} {c : Cx} {L : List Cell} {X V : List Cell}
def pds (U : List Dm) : List Value := U.map fun D => .ref D.d
theorem push_loop {env : Env} {m0 : Str → Option Value} {ctx : List (Str × Value)} {it pd : Addr} {p1 p2 p3 p4 p5 : Pos} {U : List Dm} {Q : Flow → List Cell → Prop} {n : Nat}
    (B : Bs (hd.heap_39 c.w.params) c mg mb) (R : Rm (n + 3) c.A) (hl : env.kindOf "domain" = some .local) (hk : env.scope.kind = .function) (hi : interactive env = false)
    (hsw : swapsWith (.Call (.Attribute (.Name "domain" p2) "pushState" p3) [] [] p4) none p5.line env = pure false)
    {pl : Sem Bool} (hmc : eval (.Call (.Attribute (.Name "domain" p2) "pushState" p3) [] [] p4) env = (do
      let ov ← eval (.Name "domain" p2) env
      standAt p3.atName
      let (f, first) ← holding [ov] (getMethod ov "pushState" pl)
      callWith p4 f first (backTo p4 (starEach [] env)) []))
    (hctx : ∀ p ∈ ctx, p.1 ≠ Str.ofString "domain") (hF : FrHas m0 ctx)
    (hsz : ∀ D ∈ U, D.vs.length + D.hs.length ≤ 1000 ∧ D.ss.length ≤ 1000) (hU : U.length ≤ 1000)
    (h : ∀ m, FrHas m ctx → Q .next ((env.locals, pNs m) :: (pd, pList (pds U)) :: (dcl (U.map fun D => { D with ss := D.ss ++ [(D.vs.length : Int)] }) ++ X))) :
    TrC c (.forLoop (.Name "domain" p1) (.ref it) [.Expr (.Call (.Attribute (.Name "domain" p2) "pushState" p3) [] [] p4) p5] [] env) ((it, pLIter pd 0) :: (env.locals, pNs m0) :: (pd, pList (pds U)) :: (dcl U ++ X)) Q := by
  refine tr_forLoop (fun k L' => ∃ A Bs m, U = A ++ Bs ∧ k = Bs.length ∧ Sel ((it, pLIter pd A.length) :: (env.locals, pNs m) :: (pd, pList (pds U)) :: (dcl ((A.map fun D => { D with ss := D.ss ++ [(D.vs.length : Int)] }) ++ Bs) ++ X)) L' ∧ FrHas m ctx) ?_ U.length ⟨[], U, m0, rfl, rfl, Sel.refl, hF⟩
  clear hF
  intro k L' hI
  obtain ⟨A, Bs, m, hD, rfl, hsel, hF⟩ := hI
  refine Tr.sel hsel ?_
  clear hsel
  cases Bs with
  | nil =>
    rw [List.append_nil] at hD
    subst hD
    refine tr_nextEnd R (by k_extra "rem") (by k_extra "mem") pList_seq (by simp [pds]) ?_
    dsimp only
    refine tr_execs_nil ?_
    rw [List.append_nil]
    exact h m hF
  | cons D Bs =>
    have hDm : D ∈ U := by simp [hD]
    have hz1 : D.vs.length ≤ sizeLine := by have := (hsz D hDm).1; have := sz24; omega
    have hz2 : D.ss.length ≤ sizeLine := by have := (hsz D hDm).2; have := sz24; omega
    refine tr_nextItem (by k_extra "upd") (by k_extra "mem") pList_seq (v := .ref D.d) (by simp [hD, pds]) ?_
    dsimp only
    refine tr_letGoName ?_
    refine tr_assignName ?_
    refine' tr_store ?U ?_ hk hl
    (case U => k_extra "upd")
    refine tr_execs_cons ?_
    refine tr_Expr ?_ hi hsw
    refine Tr.sel (by k_extra "focus") ?_
    refine tr_MethodCall ?_ hmc
    refine' tr_local ?hm ?hv ?_ hk hl (by decide)
    (case hm => k_extra "mem")
    (case hv => exact if_pos rfl)
    k_extra "meth"
    dsimp only
    refine' tr_callFn1 B ?hf ?_ ?hplain
    (case hf => k_is)
    (case hplain => rfl)
    refine tr_args_nil ?_
    refine Tr.sel (by k_extra "sel") (push_spec B (R.le (by omega)) hz1 hz2 ?_)
    refine Nx.next ?_
    refine tr_execs_nil ?_
    refine' ⟨Bs.length, _, by simp, Sel.refl, A ++ [D], Bs, _, by simp [hD], rfl, ?hs, ?hf⟩
    (case hs => rw [List.length_append, List.length_singleton, List.map_append, List.map_singleton, List.append_assoc, List.singleton_append]; k_extra "back")
    (case hf => intro p hp; exact (if_neg (hctx p hp)).trans (hF p hp))
theorem pop_loop {env : Env} {m0 : Str → Option Value} {ctx : List (Str × Value)} {it pd : Addr} {p1 p2 p3 p4 p5 : Pos} {U Ur : List Dm} {Q : Flow → List Cell → Prop} {n : Nat}
    (B : Bs (hd.heap_39 c.w.params) c mg mb) (R : Rm (n + 3) c.A) (hl : env.kindOf "domain" = some .local) (hk : env.scope.kind = .function) (hi : interactive env = false)
    (hsw : swapsWith (.Call (.Attribute (.Name "domain" p2) "popState" p3) [] [] p4) none p5.line env = pure false)
    {pl : Sem Bool} (hmc : eval (.Call (.Attribute (.Name "domain" p2) "popState" p3) [] [] p4) env = (do
      let ov ← eval (.Name "domain" p2) env
      standAt p3.atName
      let (f, first) ← holding [ov] (getMethod ov "popState" pl)
      callWith p4 f first (backTo p4 (starEach [] env)) []))
    (hctx : ∀ p ∈ ctx, p.1 ≠ Str.ofString "domain") (hF : FrHas m0 ctx)
    (hsz : ∀ D ∈ U, D.vs.length + D.hs.length ≤ 1000 ∧ D.ss.length ≤ 1000) (hU : U.length ≤ 1000) (hR : All2 RelU U Ur)
    (h : ∀ m O, FrHas m ctx → All2 (fun D D' => D' = { D with vs := D'.vs } ∧ List.Perm D.vs D'.vs) U O → Q .next ((env.locals, pNs m) :: (pd, pList (pds U)) :: (dcl O ++ X))) :
    TrC c (.forLoop (.Name "domain" p1) (.ref it) [.Expr (.Call (.Attribute (.Name "domain" p2) "popState" p3) [] [] p4) p5] [] env) ((it, pLIter pd 0) :: (env.locals, pNs m0) :: (pd, pList (pds U)) :: (dcl Ur ++ X)) Q := by
  refine tr_forLoop (fun k L' => ∃ A Bs O Br m, U = A ++ Bs ∧ All2 RelU Bs Br ∧ All2 (fun D D' => D' = { D with vs := D'.vs } ∧ List.Perm D.vs D'.vs) A O ∧ k = Bs.length ∧ Sel ((it, pLIter pd A.length) :: (env.locals, pNs m) :: (pd, pList (pds U)) :: (dcl (O ++ Br) ++ X)) L' ∧ FrHas m ctx) ?_ U.length ⟨[], U, [], Ur, m0, rfl, hR, .nil, rfl, Sel.refl, hF⟩
  clear hF hR
  intro k L' hI
  obtain ⟨A, Bs, O, Br, m, hD, hR, hO, rfl, hsel, hF⟩ := hI
  refine Tr.sel hsel ?_
  clear hsel
  cases Bs with
  | nil =>
    rw [List.append_nil] at hD
    subst hD
    refine tr_nextEnd R (by k_extra "rem") (by k_extra "mem") pList_seq (by simp [pds]) ?_
    dsimp only
    refine tr_execs_nil ?_
    cases hR
    rw [List.append_nil]
    exact h m O hF hO
  | cons D Bs =>
    have hDm : D ∈ U := by simp [hD]
    cases hR with
    | @cons _ D' _ Br r hR =>
    obtain ⟨e, lay, eh, hp⟩ := r
    have hlen := hp.length_eq
    rw [List.length_append] at hlen
    have hz1 : D'.vs.length + lay.length ≤ sizeLine := by have := (hsz D hDm).1; have := sz24; omega
    have hz2 : D.ss.length + 1 ≤ sizeLine := by have := (hsz D hDm).2; have := sz24; omega
    have hz3 : D.hs.length + lay.length ≤ sizeLine := by have := (hsz D hDm).1; have := sz24; omega
    have e1 : D'.d = D.d := by rw [e]
    have e2 : D'.ss = D.ss ++ [(D.vs.length : Int)] := by rw [e]
    refine tr_nextItem (by k_extra "upd") (by k_extra "mem") pList_seq (v := .ref D.d) (by simp [hD, pds]) ?_
    dsimp only
    refine tr_letGoName ?_
    refine tr_assignName ?_
    refine' tr_store ?U ?_ hk hl
    (case U => k_extra "upd")
    refine tr_execs_cons ?_
    refine tr_Expr ?_ hi hsw
    refine Tr.sel (by k_extra "focus") ?_
    rw [e1, eh, e2]
    refine tr_MethodCall ?_ hmc
    refine' tr_local ?hm ?hv ?_ hk hl (by decide)
    (case hm => k_extra "mem")
    (case hv => exact if_pos rfl)
    k_extra "meth"
    dsimp only
    refine' tr_callFn1 B ?hf ?_ ?hplain
    (case hf => k_is)
    (case hplain => rfl)
    refine tr_args_nil ?_
    refine Tr.sel (by k_extra "sel") (pop_spec B (R.le (by omega)) hz1 hz2 hz3 (by omega) ?_)
    refine Nx.next ?_
    refine tr_execs_nil ?_
    refine' ⟨Bs.length, _, by simp, Sel.refl, A ++ [D], Bs, O ++ [{ D with vs := D'.vs ++ lay }], Br, _, by simp [hD], hR, hO.app (All2.cons (a := D) (b := { D with vs := D'.vs ++ lay }) ⟨rfl, hp⟩ .nil), rfl, ?hs, ?hf⟩
    (case hs => rw [List.length_append, List.length_singleton, List.append_assoc, List.singleton_append]; have e3 : D'.dd = D.dd := (by rw [e]); have e4 : D'.hd = D.hd := (by rw [e]); have e5 : D'.st = D.st := (by rw [e]); rw [e3, e4, e5]; k_extra "back")
    (case hf => intro p hp; exact (if_neg (hctx p hp)).trans (hF p hp))
end
end
section
inductive PdOk : Value → Bool → List Cell → List Dm → Prop
  | off {U} : PdOk .none false [] U
  | on {pd : Addr} {U : List Dm} : PdOk (.ref pd) (!U.isEmpty) [(pd, pList (pds U))] U
theorem PdOk.fw {pdv : Value} {pb : Bool} {Zp : List Cell} {U : List Dm} (h : PdOk pdv pb Zp U) (hU : U.length ≤ 1000) : FwOk pdv pb Zp := by
  cases h with
  | off => exact .none
  | @on pd U =>
    have e : (pds U).isEmpty = U.isEmpty := by unfold pds; cases U <;> rfl
    rw [← e]
    exact .lst (.head _) (by have := sz24; simp [pds]; omega)
theorem PdOk.tru {pdv : Value} {Zp : List Cell} {U : List Dm} (h : PdOk pdv true Zp U) : ∃ pd, pdv = .ref pd ∧ Zp = [(pd, pList (pds U))] := by
  generalize hb : true = pb at h
  cases h with
  | off => cases hb
  | @on pd U => exact ⟨pd, rfl, rfl⟩
theorem uns_val {kvs : List (Str × Value)} {x : Str} {v w : Value} (h : asgd kvs x = false) (Ds : List Dm) : uns (stored kvs x v) Ds = uns (stored kvs x w) Ds := by
  unfold uns
  refine List.filter_congr fun D _ => ?_
  rw [asgd_stored h, asgd_stored h]
theorem pds_uns {kvs kvs' : List (Str × Value)} {Ds Ds' : List Dm} (h : PermDs kvs Ds Ds') : pds (uns kvs' Ds') = pds (uns kvs' Ds) := by
  induction h with
  | nil => rfl
  | @cons a b A B r t ih =>
    have e : b.nm = a.nm := r.nm
    have e2 : b.d = a.d := by rw [r.1]
    unfold uns at *
    rw [List.filter_cons, List.filter_cons, e]
    split
    · simp only [pds, List.map_cons, e2] at *; rw [ih]
    · exact ih
theorem split_sel {kvs : List (Str × Value)} {Ds : List Dm} {R L : List Cell} (h : Sel (dcl Ds ++ R) L) : Sel ((dcl (Ds.filter fun D => asgd kvs D.nm)) ++ (dcl (uns kvs Ds) ++ R)) L :=
  Sel.trans (Sel.perm (by rw [← List.append_assoc]; exact (dcl_split kvs Ds).append_right _)) h
theorem merge_sel {F O Do : List Dm} {R L : List Cell} (p : List.Perm (dcl Do) (dcl F ++ dcl O)) (h : Sel (dcl F ++ (dcl O ++ R)) L) : Sel (dcl Do ++ R) L :=
  Sel.trans (Sel.perm (by rw [← List.append_assoc]; exact p.symm.append_right _)) h
theorem pull_step {B L L' : List Cell} {f : Cell} (h : Sel L (B ++ L')) : Sel (f :: L) (B ++ (f :: L')) := by
  obtain ⟨Z, p⟩ := h
  exact ⟨Z, List.perm_middle.trans (p.cons f)⟩
theorem pull_Z {B L L' Y : List Cell} (h : Sel L (B ++ L')) : Sel (Y ++ L) (B ++ (Y ++ L')) := by
  obtain ⟨Z, p⟩ := h
  refine ⟨Z, ?_⟩
  rw [List.append_assoc]
  refine List.Perm.trans ?_ (p.append_left Y)
  rw [← List.append_assoc, ← List.append_assoc]
  exact List.Perm.append_right _ List.perm_append_comm
theorem TrC.join {c : Cx} {code : Code} {L : List Cell} {Qn : List Cell → Prop} {Q : Flow → List Cell → Prop} (J : List Cell → Prop) (hJ : ∀ L', J L' → Qn L') (h : TrC c code L (Nx J Q)) : TrC c code L (Nx Qn Q) := fun s H g o => codeAny_mono (h s H g o) fun r s' z => by
  cases r with
  | error e => exact z
  | ok f => obtain ⟨L', a, b, d, q⟩ := z; exact ⟨L', a, b, d, by cases f <;> first | exact hJ _ q | exact q⟩
def PushR (kvs : List (Str × Value)) (pb : Bool) (Ds Dp : List Dm) : Prop := (pb = false ∧ Dp = Ds) ∨ (pb = true ∧ All2 (fun D D' => (asgd kvs D.nm = true → D' = D) ∧ (asgd kvs D.nm = false → D' = { D with ss := D.ss ++ [(D.vs.length : Int)] })) Ds Dp)
def RelPb (kvs : List (Str × Value)) (pb : Bool) (Ds Dr : List Dm) : Prop := (pb = false ∧ PermDs kvs Ds Dr) ∨ (pb = true ∧ All2 (RelP kvs) Ds Dr)
structure Rw (u : Nat) (nvs : List Value) (kvs : List (Str × Value)) (Ds : List Dm) : Prop where
  wf : Wf nvs kvs Ds
  ndv : ∀ D ∈ Ds, D.vs.Nodup
  h3 : ∀ D ∈ Ds, D.vs.length ≤ 3
  hss : ∀ D ∈ Ds, D.ss.length + u ≤ 500
def Lesr (k : Nat) (D D' : Dm) : Prop := D'.nm = D.nm ∧ D'.f = D.f ∧ (∀ a ∈ D'.vs, a ∈ D.vs) ∧ D'.vs.length + D'.hs.length ≤ D.vs.length + D.hs.length ∧ (D.vs.Nodup → D'.vs.Nodup) ∧ D'.vs.length ≤ D.vs.length ∧ D'.ss.length ≤ D.ss.length + k
theorem Rw.step {u k : Nat} {nvs : List Value} {kvs : List (Str × Value)} {Ds Ds' : List Dm} (W : Rw (u + k) nvs kvs Ds) (h : All2 (Lesr k) Ds Ds') : Rw u nvs kvs Ds' := by
  have e : Ds'.map (·.nm) = Ds.map (·.nm) := All2.map (fun a b r => r.1) h
  refine ⟨⟨by rw [e]; exact W.wf.nm, by rw [e]; exact W.wf.nd, W.wf.kv, fun D m a q => ?_, fun D m => ?_, by rw [← h.len]; exact W.wf.len, fun D m => ?_, fun q => W.wf.ne ?_⟩, fun D m => ?_, fun D m => ?_, fun D m => ?_⟩
  · obtain ⟨E, hE, r⟩ := h.right D m
    refine W.wf.val E hE a ?_
    rcases q with q | q
    · exact .inl (by rw [← r.1]; exact q)
    · exact .inr (r.2.2.1 a q)
  · obtain ⟨E, hE, r⟩ := h.right D m
    rw [r.2.1]; exact W.wf.fac E hE
  · obtain ⟨E, hE, r⟩ := h.right D m
    have := W.wf.sz E hE; have := r.2.2.2.1; omega
  · have := h.len; rw [q] at this; exact List.length_eq_zero_iff.mp this
  · obtain ⟨E, hE, r⟩ := h.right D m
    exact r.2.2.2.2.1 (W.ndv E hE)
  · obtain ⟨E, hE, r⟩ := h.right D m
    have := W.h3 E hE; have := r.2.2.2.2.2.1; omega
  · obtain ⟨E, hE, r⟩ := h.right D m
    have := W.hss E hE; have := r.2.2.2.2.2.2; omega
theorem Lesr.refl (k : Nat) (D : Dm) : Lesr k D D := ⟨rfl, rfl, fun _ h => h, Nat.le_refl _, fun h => h, Nat.le_refl _, Nat.le_add_right _ _⟩
theorem PermD.lesr {kvs : List (Str × Value)} {D D' : Dm} (h : PermD kvs D D') (k : Nat) : Lesr k D D' := by
  refine ⟨by rw [h.1], by rw [h.1], fun a m => h.2.1.mem_iff.mpr m, ?_, fun n => h.2.1.nodup_iff.mp n, by rw [h.2.1.length_eq]; exact Nat.le_refl _, ?_⟩
  · rw [show D'.hs = D.hs by rw [h.1], h.2.1.length_eq]; exact Nat.le_refl _
  · rw [show D'.ss = D.ss by rw [h.1]]; exact Nat.le_add_right _ _
theorem Dst.lesr {D D' : Dm} (h : Dst D D') (k : Nat) : Lesr k D D' := by
  obtain ⟨a, lay, b, p⟩ := h
  have hl := p.length_eq
  rw [List.length_append] at hl
  refine ⟨by rw [a], by rw [a], fun x m => p.mem_iff.mpr (List.mem_append_left _ m), ?_, fun n => (List.nodup_append.mp (p.nodup_iff.mp n)).1, by omega, ?_⟩
  · rw [b, List.length_append]; omega
  · rw [show D'.ss = D.ss by rw [a]]; exact Nat.le_add_right _ _
theorem PushR.lesr {kvs : List (Str × Value)} {pb : Bool} {Ds Dp : List Dm} (h : PushR kvs pb Ds Dp) : All2 (Lesr 1) Ds Dp := by
  rcases h with ⟨_, rfl⟩ | ⟨_, h⟩
  · exact All2.refl (Lesr.refl 1) _
  · refine h.imp fun D D' r => ?_
    cases q : asgd kvs D.nm with
    | true => rw [r.1 q]; exact Lesr.refl 1 D
    | false => rw [r.2 q]; exact ⟨rfl, rfl, fun _ h => h, Nat.le_refl _, fun h => h, Nat.le_refl _, by simp⟩
theorem PushR.ext {kvs kvs' : List (Str × Value)} {pb : Bool} {Ds Dp : List Dm} (h : PushR kvs pb Ds Dp) {g : Str → Int} : Ext kvs' Dp g ↔ Ext kvs' Ds g := by
  rcases h with ⟨_, rfl⟩ | ⟨_, h⟩
  · exact Iff.rfl
  · have key : ∀ D D' : Dm, ((asgd kvs D.nm = true → D' = D) ∧ (asgd kvs D.nm = false → D' = { D with ss := D.ss ++ [(D.vs.length : Int)] })) → D'.nm = D.nm ∧ D'.vs = D.vs := fun D D' r => by
      cases q : asgd kvs D.nm with
      | true => rw [r.1 q]; exact ⟨rfl, rfl⟩
      | false => rw [r.2 q]; exact ⟨rfl, rfl⟩
    constructor
    · intro e D hD
      obtain ⟨D', hD', r⟩ := h.left D hD
      have := e D' hD'
      rw [(key _ _ r).1, (key _ _ r).2] at this
      exact this
    · intro e D' hD'
      obtain ⟨D, hD, r⟩ := h.right D' hD'
      have := e D hD
      rw [(key _ _ r).1, (key _ _ r).2]
      exact this
theorem PushR.maps {kvs : List (Str × Value)} {pb : Bool} {Ds Dp : List Dm} (h : PushR kvs pb Ds Dp) : All2 (fun D D' : Dm => D' = { D with vs := D'.vs, hs := D'.hs, ss := D'.ss }) Ds Dp := by
  rcases h with ⟨_, rfl⟩ | ⟨_, h⟩
  · exact All2.refl (R := fun D D' : Dm => D' = { D with vs := D'.vs, hs := D'.hs, ss := D'.ss }) (fun _ => rfl) _
  · refine h.imp fun D D' r => ?_
    cases q : asgd kvs D.nm with
    | true => rw [r.1 q]
    | false => rw [r.2 q]
theorem relPb_of {kvs : List (Str × Value)} {pb : Bool} {Ds Dp Dc Dr : List Dm} (h1 : PushR kvs pb Ds Dp) (h2 : All2 (fun D D' => Dst D D' ∧ (asgd kvs D.nm = true ∨ pb = false → D' = D)) Dp Dc) (h3 : PermDs kvs Dc Dr) : RelPb kvs pb Ds Dr := by
  rcases h1 with ⟨hb, rfl⟩ | ⟨hb, h1⟩
  · refine .inl ⟨hb, h2.trans (fun a b d r s => ?_) h3⟩
    have := r.2 (.inr hb)
    subst this
    exact s
  · refine .inr ⟨hb, h1.trans (T := RelP kvs) (fun a b d r s => ?_) (h2.trans (T := fun b d => (asgd kvs b.nm = true → d = b) ∧ d = { b with vs := d.vs, hs := d.hs } ∧ ∃ lay, d.hs = b.hs ++ lay ∧ List.Perm b.vs (d.vs ++ lay)) (fun x y z r s => ?_) h3)⟩
    · cases q : asgd kvs a.nm with
      | true =>
        have e := r.1 q
        subst e
        exact ⟨fun _ => s.1 q, fun z => absurd (q.symm.trans z) (by decide)⟩
      | false =>
        have e := r.2 q
        obtain ⟨s1, s2, lay, s3, s4⟩ := s
        refine ⟨fun z => absurd (q.symm.trans z) (by decide), fun _ => ⟨?_, lay, by rw [s3, e], by rw [e] at s4; exact s4⟩⟩
        rw [s2, e]
    · obtain ⟨⟨r1, lay, r2, r3⟩, r4⟩ := r
      obtain ⟨s1, s2, s3⟩ := s
      have en : y.nm = x.nm := by rw [r1]
      refine ⟨fun q => ?_, ?_, lay, ?_, r3.trans (s2.append_right _)⟩
      · have e := r4 (.inl q); rw [s3 (by rw [en]; exact q), e]
      · rw [s1, r1]
      · rw [s1]; exact r2
theorem Rw.kv {u : Nat} {nvs : List Value} {kvs : List (Str × Value)} {Ds : List Dm} (W : Rw u nvs kvs Ds) {D0 : Dm} (h0 : D0 ∈ Ds) (h : asgd kvs D0.nm = false) {v : Int} {t : Tok} (hv : v ∈ D0.vs) : Rw u nvs (stored kvs D0.nm (.int v t)) Ds := by
  refine ⟨⟨W.wf.nm, W.wf.nd, intKv_stored h W.wf.kv, fun D hD a q => ?_, W.wf.fac, W.wf.len, W.wf.sz, W.wf.ne⟩, W.ndv, W.h3, W.hss⟩
  rcases q with q | q
  · rw [av_stored h] at q
    by_cases e : D.nm = D0.nm
    · rw [if_pos e] at q; cases q; exact W.wf.val D0 h0 v (.inr hv)
    · rw [if_neg e] at q; exact W.wf.val D hD a (.inl q)
  · exact W.wf.val D hD a (.inr q)
theorem ext_sub {kvs : List (Str × Value)} {Ds Ds' : List Dm} (h : All2 (fun D D' => D'.nm = D.nm ∧ ∀ a ∈ D'.vs, a ∈ D.vs) Ds Ds') {g : Str → Int} (e : Ext kvs Ds' g) : Ext kvs Ds g := by
  intro D hD
  obtain ⟨D', hD', r⟩ := h.left D hD
  have := e D' hD'
  rw [r.1] at this
  cases q : av kvs D.nm with
  | some a => rw [q] at this; exact this
  | none => rw [q] at this; exact r.2 _ this
theorem uns_same {kvs : List (Str × Value)} {Ds Ds' : List Dm} (h : Ds'.map (·.nm) = Ds.map (·.nm)) : (uns kvs Ds').length = (uns kvs Ds).length := by
  have key : ∀ (l : List Dm), (uns kvs l).length = ((l.map (·.nm)).filter fun x => !asgd kvs x).length := fun l => by
    unfold uns; rw [List.filter_map, List.length_map]; rfl
  rw [key, key, h]
theorem missg_same {kvs : List (Str × Value)} {Ds Ds' : List Dm} (h : Ds'.map (·.nm) = Ds.map (·.nm)) : missg kvs Ds' = missg kvs Ds := by
  have key : ∀ (l : List Dm), missg kvs l = (l.map (·.nm)).any fun x => !asgd kvs x := fun l => by
    unfold missg; rw [List.any_map]; rfl
  rw [key, key, h]
def SameD (D D' : Dm) : Prop := D' = { D with vs := D'.vs, hs := D'.hs, ss := D'.ss }
theorem SameD.trans {D E F : Dm} (h : SameD D E) (k : SameD E F) : SameD D F := by
  unfold SameD at *; rw [k, h]
theorem same_dm {Ds Ds' : List Dm} (h : All2 SameD Ds Ds') : dmap Ds' = dmap Ds := All2.map (fun a b r => by rw [r]) h
theorem same_vm {Ds Ds' : List Dm} (h : All2 SameD Ds Ds') : (Ds'.map fun D => (D.nm, Value.ref D.vc)) = (Ds.map fun D => (D.nm, Value.ref D.vc)) := All2.map (fun a b r => by rw [r]) h
theorem same_fs {Ds Ds' : List Dm} (h : All2 SameD Ds Ds') : Ds'.map (·.f) = Ds.map (·.f) := All2.map (fun a b r => by rw [r]) h
theorem same_nms {Ds Ds' : List Dm} (h : All2 SameD Ds Ds') : Ds'.map (·.nm) = Ds.map (·.nm) := All2.map (fun a b r => by rw [r]) h
theorem same_fl {Ds Ds' : List Dm} (h : All2 SameD Ds Ds') (fl : Option Addr) : flC fl Ds' = flC fl Ds := by unfold flC; cases fl with | none => rfl | some a => rw [same_fs h]
theorem same_sat {Ds Ds' : List Dm} (h : All2 SameD Ds Ds') {kind : Nat} {M : Int} {g : Str → Int} : SatK kind M Ds' g ↔ SatK kind M Ds g := SatK_congr (h.imp fun D D' r => ⟨by rw [r], by rw [r]⟩)
theorem PermDs.same {kvs : List (Str × Value)} {Ds Ds' : List Dm} (h : PermDs kvs Ds Ds') : All2 SameD Ds Ds' := h.imp fun D D' r => by unfold SameD; rw [r.1]
theorem shape_sameD {kvs : List (Str × Value)} {pb : Bool} {Ds Ds' : List Dm} (h : All2 (fun D D' => Dst D D' ∧ (asgd kvs D.nm = true ∨ pb = false → D' = D)) Ds Ds') : All2 SameD Ds Ds' := h.imp fun D D' r => by unfold SameD; rw [r.1.1]
def scs (c : Cx) (new : List (Addr × List (Str × Value))) : List Cell := new.map fun p => (p.1, pDict c p.2)
def srefs (new : List (Addr × List (Str × Value))) : List Value := new.map fun p => .ref p.1
def rowOf (nms : List Str) (kv : List (Str × Value)) : List Int := nms.map fun x => (av kv x).getD 0
structure IsSolsP (Ok : (Str → Int) → Prop) (nms : List Str) (new : List (Addr × List (Str × Value))) : Prop where
  vals : ∀ p ∈ new, ∀ x ∈ nms, ∃ i t, valueAt p.2 x = some (.int i t)
  nodup : (new.map fun p => rowOf nms p.2).Nodup
  mem : ∀ r, r ∈ (new.map fun p => rowOf nms p.2) ↔ ∃ g, Ok g ∧ r = nms.map g
theorem IsSolsP.nil {nms : List Str} {Ok : (Str → Int) → Prop} (h : ∀ g, ¬ Ok g) : IsSolsP Ok nms [] := ⟨fun _ m => (nomatch m), List.nodup_nil, fun r => ⟨fun m => (nomatch m), fun ⟨g, a, _⟩ => (h g a).elim⟩⟩
theorem IsSolsP.congr {nms : List Str} {Ok Ok' : (Str → Int) → Prop} {new} (h : IsSolsP Ok nms new) (e : ∀ g, Ok' g ↔ Ok g) : IsSolsP Ok' nms new := ⟨h.vals, h.nodup, fun r => (h.mem r).trans ⟨fun ⟨g, a, b⟩ => ⟨g, (e g).mpr a, b⟩, fun ⟨g, a, b⟩ => ⟨g, (e g).mp a, b⟩⟩⟩
theorem IsSolsP.app {nms : List Str} {Ok Ok' : (Str → Int) → Prop} {new new'} (h : IsSolsP Ok nms new) (h' : IsSolsP Ok' nms new') (ap : ∀ g g', Ok g → Ok' g' → nms.map g ≠ nms.map g') : IsSolsP (fun g => Ok g ∨ Ok' g) nms (new ++ new') := by
  refine ⟨fun p m => ?_, ?_, fun r => ?_⟩
  · rcases List.mem_append.mp m with m | m
    · exact h.vals p m
    · exact h'.vals p m
  · rw [List.map_append]
    refine List.nodup_append.mpr ⟨h.nodup, h'.nodup, fun x hx y hy e => ?_⟩
    obtain ⟨g, a, b⟩ := (h.mem x).mp hx
    obtain ⟨g', a', b'⟩ := (h'.mem y).mp hy
    exact ap g g' a a' (by rw [← b, ← b', e])
  · rw [List.map_append, List.mem_append, h.mem, h'.mem]
    constructor
    · rintro (⟨g, a, b⟩ | ⟨g, a, b⟩)
      · exact ⟨g, .inl a, b⟩
      · exact ⟨g, .inr a, b⟩
    · rintro ⟨g, a | a, b⟩
      · exact .inl ⟨g, a, b⟩
      · exact .inr ⟨g, a, b⟩
theorem srefs_app (a b : List (Addr × List (Str × Value))) : srefs (a ++ b) = srefs a ++ srefs b := by simp [srefs]
theorem scs_app (c : Cx) (a b : List (Addr × List (Str × Value))) : scs c (a ++ b) = scs c a ++ scs c b := by simp [scs]
theorem IsSolsP.one {kvs : List (Str × Value)} {Ds : List Dm} {Sat : (Str → Int) → Prop} (hk : IntKv kvs) (hm : missg kvs Ds = false) (hS : ∀ g, Ext kvs Ds g → Sat g) (a : Addr) : IsSolsP (fun g => Ext kvs Ds g ∧ Sat g) (Ds.map (·.nm)) [(a, kvs)] := by
  have hall : ∀ D ∈ Ds, asgd kvs D.nm = true := fun D hD => by
    cases q : asgd kvs D.nm with
    | true => rfl
    | false => rw [show missg kvs Ds = true from List.any_eq_true.mpr ⟨D, hD, by rw [q]; rfl⟩] at hm; cases hm
  refine ⟨fun p m x hx => ?_, by simp, fun r => ?_⟩
  · rw [List.mem_singleton.mp m]
    obtain ⟨D, hD, rfl⟩ := List.mem_map.mp hx
    obtain ⟨i, t, e, _⟩ := hk.some (hall D hD)
    exact ⟨i, t, e⟩
  · rw [List.map_singleton, List.mem_singleton]
    have he : ∀ g, Ext kvs Ds g → rowOf (Ds.map (·.nm)) kvs = (Ds.map (·.nm)).map g := fun g e => by
      unfold rowOf
      refine List.map_congr_left fun x hx => ?_
      obtain ⟨D, hD, rfl⟩ := List.mem_map.mp hx
      obtain ⟨i, hi⟩ := asgd_av hk (hall D hD)
      have := e D hD
      rw [hi] at this ⊢
      exact this.symm
    constructor
    · rintro rfl
      refine ⟨fun x => (av kvs x).getD 0, ⟨?_, ?_⟩, rfl⟩
      · intro D hD
        obtain ⟨i, hi⟩ := asgd_av hk (hall D hD)
        rw [hi]
        first | rfl | (show (av kvs D.nm).getD 0 = i; rw [hi]; rfl)
      · refine hS _ fun D hD => ?_
        obtain ⟨i, hi⟩ := asgd_av hk (hall D hD)
        rw [hi]
        first | rfl | (show (av kvs D.nm).getD 0 = i; rw [hi]; rfl)
    · rintro ⟨g, ⟨e, _⟩, rfl⟩
      exact (he g e).symm
theorem con_find (P : Params) {kind : Nat} (h : kind < 3) : findIn (hd.heap_39 P) (.ref (clsOf kind)) "__call__" = some (some (.ref (callOf kind))) := by
  have : kind = 0 ∨ kind = 1 ∨ kind = 2 := by omega
  rcases this with rfl | rfl | rfl
  · show findIn _ (.ref 410) _ = some (some (.ref 407)); k_is
  · show findIn _ (.ref 473) _ = some (some (.ref 470)); k_is
  · show findIn _ (.ref 445) _ = some (some (.ref 442)); k_is
theorem con_isFn (P : Params) {kind : Nat} (h : kind < 3) : isFn (hd.heap_39 P) (.ref (callOf kind)) = true ∧ fnIn (hd.heap_39 P) (callOf kind) = true := by
  have : kind = 0 ∨ kind = 1 ∨ kind = 2 := by omega
  rcases this with rfl | rfl | rfl
  · exact ⟨show isFn _ (.ref 407) = true by k_is, show fnIn _ 407 = true by k_is⟩
  · exact ⟨show isFn _ (.ref 470) = true by k_is, show fnIn _ 470 = true by k_is⟩
  · exact ⟨show isFn _ (.ref 442) = true by k_is, show fnIn _ 442 = true by k_is⟩
end
end Mine
namespace Mine
set_option maxHeartbeats 4000000
local macro_rules | `(tactic| k_extra "mem") => `(tactic| first | exact List.Mem.head _ | (refine List.Mem.tail _ ?_; k_extra "mem") | exact List.mem_append_left _ (by assumption) | (refine List.mem_append_right _ ?_; k_extra "mem"))
local macro_rules | `(tactic| k_extra "upd") => `(tactic| first | exact Upd1.head | (apply Upd1.tail; k_extra "upd") | (apply Upd1.skip; k_extra "upd"))
local macro_rules | `(tactic| k_extra "rem") => `(tactic| first | exact Rem1.head | (apply Rem1.tail; k_extra "rem") | (apply Rem1.skip; k_extra "rem"))
local macro_rules | `(tactic| k_extra "remb") => `(tactic| first | exact RemB.head | (apply RemB.tail; k_extra "remb") | (apply RemB.skip; k_extra "remb"))
local macro_rules | `(tactic| k_extra "sel") => `(tactic| first | exact Sel.refl | exact Sel.nil | (apply Sel.cons; k_extra "rem"; k_extra "sel") | (apply Sel.block; k_extra "remb"; k_extra "sel") | (apply Sel.drop; k_extra "sel") | (apply Sel.dropB; k_extra "sel"))
local macro_rules | `(tactic| k_extra "hv") => `(tactic| first | exact rfl | (refine (if_neg (by decide)).trans ?_; k_extra "hv") | (refine' FrHas.get ?f ?g; (case f => assumption); (case g => k_extra "mem")))
local macro_rules | `(tactic| k_extra "fr") => `(tactic| first | assumption | with_reducible exact FrHas.nil | ((with_reducible refine FrHas.cons ?hv ?_); (case hv => k_extra "hv"); k_extra "fr"))
local macro_rules | `(tactic| k_extra "B") => `(tactic| first | assumption | exact Bs.deeper (by assumption) _ | exact Bs.wA (by assumption) _ | exact Bs.deeper (Bs.wA (by assumption) _) _)
local macro_rules | `(tactic| k_extra "R") => `(tactic| first | assumption | exact Rm.deeper (Rm.le (by assumption)) _ | exact Rm.le (by assumption) | exact Rm.le (Rm.deeper (Rm.le (by assumption)) _))
local macro_rules | `(tactic| k_extra "getok") => `(tactic| first | (refine' GetOk.obj ?a ?b; (case a => k_is); (case b => k_is)) | (refine' GetOk.lst ?a ?b ?c; (case a => k_is); (case b => k_is); (case c => k_is)))
local macro_rules | `(tactic| k_extra "isinst") => `(tactic| first | exact pDomL_is | exact pInst_is | exact pSub_is)
local macro_rules | `(tactic| k_extra "len") => `(tactic| first | assumption | (simp only [List.length_append, List.length_cons, List.length_nil] at *; have := sz24; omega) | (have := sz24; omega))
local macro_rules | `(tactic| k_extra "enter") => `(tactic| (
  (case ho => k_is)
  (case hcd => k_is)
  (case hb => exact fun _ _ => BindsTo.of_eq rfl)
  (case hloc => exact locs rfl)
  (case c1 => decide)
  (case c2 => exact rfl)
  (case c3 => exact rfl)
  (case c4 => exact rfl)))
local macro_rules | `(tactic| k_extra "enterD") => `(tactic| (
  (case ho => k_is)
  (case hcd => k_is)
  (case hb => exact fun _ X => binds_K X rfl (by k_is) rfl rfl rfl)
  (case hloc => exact locs rfl)
  (case c1 => decide)
  (case c2 => exact rfl)
  (case c3 => exact rfl)
  (case c4 => exact rfl)))
local macro_rules | `(tactic| k_extra "all") => `(tactic| (intro x hx; repeat (first | exact List.mem_append_left _ hx | refine List.Mem.tail _ ?_ | refine List.mem_append_right _ ?_)))
local macro_rules | `(tactic| k_extra "focus") => `(tactic| first | exact focus_base | (apply focus_step; k_extra "focus") | (apply focus_Z; k_extra "focus"))
local macro_rules | `(tactic| k_extra "unfocus") => `(tactic| first | exact unfocus | (apply unfocus_step; k_extra "unfocus") | (apply unfocus_Z; k_extra "unfocus"))
local macro_rules | `(tactic| k_extra "back") => `(tactic| (refine' Sel.trans ?u ?v; (case u => k_extra "unfocus"); (case v => k_extra "sel")))
local macro_rules | `(tactic| k_extra "pull") => `(tactic| first | exact Sel.refl | (apply pull_step; k_extra "pull") | (apply pull_Z; k_extra "pull"))
local macro_rules | `(tactic| k_extra "pull1") => `(tactic| (apply pull_step; k_extra "pull"))
local macro_rules | `(tactic| k_extra "name") => `(tactic| first
     | (refine' tr_local ?hm ?hv ?_ ?a ?b ?c; (case a => exact rfl); (case b => exact rfl); (case hm => k_extra "mem"); (case hv => k_extra "hv"); (case c => decide))
     | (refine' tr_global ?B ?he ?_ ?g ?a ?b ?c; (case B => k_extra "B"); (case a => exact rfl); (case b => exact rfl); (case he => k_is); (case g => exact rfl); (case c => decide))
     | (refine' tr_builtin ?B ?he ?hv ?_ ?n ?g ?g2 ?a ?b ?c; (case B => k_extra "B"); (case a => exact rfl); (case b => exact rfl); (case he => k_is); (case hv => boot_fast); (case n => decide); (case g => exact rfl); (case g2 => exact rfl); (case c => decide))
     | (refine' tr_cell ?hc ?hm ?_ ?a ?b ?c; (case a => exact rfl); (case b => exact rfl); (case hc => exact rfl); (case hm => k_extra "mem"); (case c => decide))
     | (refine' tr_free ?hc ?hm ?_ ?a ?b ?c ?d; (case a => exact rfl); (case b => exact rfl); (case hc => exact rfl); (case hm => k_extra "mem"); (case c => decide); (case d => decide)))
local macro_rules | `(tactic| k_extra "methu") => `(tactic| first
     | (refine' tr_getMethod ?B ?hx ?hP ?hd ?hg ?hf ?ht ?hv ?_; (case B => k_extra "B"); (case hx => k_extra "mem"); (case hP => k_extra "isinst"); (case hd => k_extra "mem"); (case hf => k_is); (case ht => k_is); (case hv => exact rfl); (case hg => k_extra "getok"))
     | (refine' tr_getMethodB ?B ?hx ?hP ?hd ?hg ?hf ?ht ?hv ?_; (case B => k_extra "B"); (case hx => k_extra "mem"); (case hP => k_extra "isinst"); (case hd => k_extra "mem"); (case hf => k_is); (case ht => first | with_reducible exact PySem.F.type_list_extend | with_reducible exact PySem.F.type_list_remove | with_reducible exact type_list_append); (case hv => exact rfl); (case hg => k_extra "getok")))
local macro_rules | `(tactic| k_extra "meth") => `(tactic| first
     | ((with_reducible show Tr _ (getMethod _ (PySem.Str.ofString "append") _) _ _); first
        | (refine' tr_getMethodL ?hl slot_list_append type_list_append ?_; (case hl => k_extra "mem"))
        | (refine' tr_getMethodI ?hl slot_list_append type_list_append ?_; (case hl => k_extra "mem"))
        | k_extra "methu")
     | ((with_reducible show Tr _ (getMethod _ (PySem.Str.ofString "pop") _) _ _); first
        | (refine' tr_getMethodI ?hl PySem.F.slot_list_pop PySem.F.type_list_pop ?_; (case hl => k_extra "mem"))
        | (refine' tr_getMethodL ?hl PySem.F.slot_list_pop PySem.F.type_list_pop ?_; (case hl => k_extra "mem")))
     | ((with_reducible show Tr _ (getMethod _ (PySem.Str.ofString "sort") _) _ _); (refine' tr_getMethodL ?hl PySem.F.slot_list_sort PySem.F.type_list_sort ?_; (case hl => k_extra "mem")))
     | ((with_reducible show Tr _ (getMethod _ (PySem.Str.ofString "copy") _) _ _); (refine' tr_getMethodD ?hl PySem.F.slot_dict_copy PySem.F.type_dict_copy ?_; (case hl => k_extra "mem")))
     | k_extra "methu")
local macro_rules | `(tactic| k_extra "callb") => `(tactic| first
  | ((with_reducible show Tr _ (call (Value.builtin "len") [Value.ref _] []) _ _); first
     | (refine' tr_lenList ?hl ?hz ?_; (case hl => k_extra "mem"); (case hz => k_extra "len"); intro _)
     | (refine' tr_lenInts ?hl ?hz ?_; (case hl => k_extra "mem"); (case hz => k_extra "len"); intro _)
     | (refine' tr_lenDom ?B ?S ?hx ?hz ?_; (case B => k_extra "B"); (case hx => k_extra "mem"); (case S => exact dsub _); (case hz => k_extra "len"); intro _))
  | ((with_reducible show Tr _ (call (Value.builtin "list.append") [Value.ref _, _] []) _ _); first
     | (refine' tr_appendI ?U ?hz ?_; (case U => k_extra "upd"); (case hz => k_extra "len"))
     | (refine' tr_append ?U ?_ ?hz; (case U => k_extra "upd"); (case hz => k_extra "len")))
  | ((with_reducible show Tr _ (call (Value.builtin "list.remove") [Value.ref _, _] []) _ _); refine' tr_remove ?B ?S ?U ?hi ?hz ?_; (case B => k_extra "B"); (case S => exact dsub _); (case U => k_extra "upd"); (case hi => assumption); (case hz => k_extra "len"))
  | ((with_reducible show Tr _ (call (Value.builtin "list.extend") [Value.ref _, _] []) _ _); refine' tr_extend ?B ?S ?U ?hb ?hz ?_; (case B => k_extra "B"); (case S => exact dsub _); (case U => k_extra "upd"); (case hb => k_extra "mem"); (case hz => k_extra "len"))
  | ((with_reducible show Tr _ (call (Value.builtin "list.pop") [Value.ref _] []) _ _); first
     | (refine' tr_popI ?U ?hz ?_; (case U => k_extra "upd"); (case hz => k_extra "len"); intro _)
     | (refine' tr_pop ?U ?hz ?_; (case U => k_extra "upd"); (case hz => k_extra "len")))
  | ((with_reducible show Tr _ (call (Value.builtin "dict.copy") [Value.ref _] []) _ _); refine' tr_dictCopy ?hd ?hz ?_; (case hd => k_extra "mem"); (case hz => k_extra "len"); intro _))
local macro_rules | `(tactic| k_extra "truthy") => `(tactic| first
  | with_reducible refine tr_truthy_bool ?_
  | with_reducible refine tr_truthyNone ?_
  | with_reducible refine tr_truthyInt ?_
  | (refine' tr_truthyInts ?hl ?hz ?_; (case hl => k_extra "mem"); (case hz => k_extra "len"))
  | (refine' tr_truthyList ?hl ?hz ?_; (case hl => k_extra "mem"); (case hz => k_extra "len"))
  | (refine' tr_truthyDom ?B ?S ?hx ?hz ?_; (case B => k_extra "B"); (case hx => k_extra "mem"); (case S => exact dsub _); (case hz => k_extra "len")))
local macro_rules | `(tactic| k_extra "cmp") => `(tactic| first
  | with_reducible refine tr_gt ?_ | with_reducible refine tr_lt ?_ | with_reducible refine tr_le ?_ | with_reducible refine tr_ge ?_ | with_reducible refine tr_eq ?_ | with_reducible refine tr_ne ?_
  | ((with_reducible show Tr _ (compareOp CmpOp.Is (Value.type _) (Value.type _)) _ _); (refine' tr_isTypes ?hp ?_; (case hp => exact rfl)))
  | (refine' tr_dictIn ?hd ?hP ?_; (case hd => k_extra "mem"); (case hP => first | exact pDict_refl | exact pDictE_dict))
  | (refine' tr_dictNotIn ?hd ?hP ?_; (case hd => k_extra "mem"); (case hP => first | exact pDict_refl | exact pDictE_dict)))
local macro_rules | `(tactic| k_extra "sub") => `(tactic| first
  | ((with_reducible show Tr _ (subscriptTail _ _ (Value.ref _) (Value.int _ _)) _ _); (refine' tr_itemTup ?ht ?a ?b ?hj ?hx ?_ ?hs; (case ht => k_extra "mem"); (case a => decide); (case b => decide); (case hj => exact rfl); (case hx => exact rfl); (case hs => exact rfl)))
  | ((with_reducible show Tr _ (subscriptTail _ (Expr.Slice none none none _) (Value.ref _) (Value.ref _)) _ _); first
     | (refine' tr_copyDom ?B ?S ?hq ?hx ?hs ?hz ?_; (case B => k_extra "B"); (case S => exact dsub _); (case hx => k_extra "mem"); (case hq => k_is); (case hs => k_extra "mem"); (case hz => k_extra "len"); intro _)
     | (refine' tr_copyList ?hx ?hs ?hz ?_; (case hx => k_extra "mem"); (case hs => k_extra "mem"); (case hz => k_extra "len"); intro _))
  | ((with_reducible show Tr _ (subscriptTail _ _ (Value.ref _) (Value.str _ _)) _ _); (refine' tr_itemDict ?hd ?hP ?hv ?_ ?hs; (case hd => k_extra "mem"); (case hs => exact rfl); (case hP => first | exact pDict_refl | exact pDictE_dict); (case hv => first | assumption | exact rfl))))
local macro_rules | `(tactic| k_extra "store") => `(tactic| first
  | (refine' tr_store ?U ?_ ?hk ?hl; (case hk => exact rfl); (case hl => exact rfl); (case U => k_extra "upd"))
  | (refine' tr_storeCell ?hc ?U ?_ ?hk ?hl; (case hk => exact rfl); (case hl => exact rfl); (case hc => exact rfl); (case U => k_extra "upd")))
local macro_rules | `(tactic| k_extra "st") => `(tactic| first
  | with_reducible refine tr_execs_cons ?_
  | with_reducible refine tr_execs_nil ?_
  | with_reducible refine Nx.next ?_
  | with_reducible refine Nx.ret ?_
  | with_reducible refine Nx.brk ?_
  | ((with_reducible show Tr _ (exec _ _) _ _); first
     | ((with_reducible show Tr _ (exec (Stmt.Expr _ _) _) _ _); refine tr_Expr ?_)
     | ((with_reducible show Tr _ (exec (Stmt.Return (some _) _) _) _ _); refine tr_Return ?_)
     | ((with_reducible show Tr _ (exec (Stmt.Return none _) _) _ _); refine tr_Return_none ?_)
     | ((with_reducible show Tr _ (exec (Stmt.If _ _ _ _) _) _ _); refine tr_If ?_)
     | ((with_reducible show Tr _ (exec (Stmt.For _ _ _ _ _) _) _ _); refine tr_For ?_)
     | ((with_reducible show Tr _ (exec (Stmt.While _ _ _ _) _) _ _); refine tr_While ?_)
     | ((with_reducible show Tr _ (exec (Stmt.Assign [Expr.Name _ _] _ _) _) _ _); refine tr_AssignName ?_)
     | ((with_reducible show Tr _ (exec (Stmt.Assign [Expr.Attribute _ _ _] _ _) _) _ _); refine tr_AssignAttr ?_)
     | ((with_reducible show Tr _ (exec (Stmt.Assign [Expr.Subscript _ _ _] _ _) _) _ _); refine tr_AssignItem ?_)
     | ((with_reducible show Tr _ (exec (Stmt.AugAssign (Expr.Name _ _) _ _ _) _) _ _); refine tr_AugAssign ?_)
     | ((with_reducible show Tr _ (exec (Stmt.Delete _ _) _) _ _); refine tr_Delete ?_)
     | ((with_reducible show Tr _ (exec (Stmt.Break _) _) _ _); refine tr_Break ?_)
     | ((with_reducible show Tr _ (exec (Stmt.Pass _) _) _ _); refine tr_Pass ?_))
  | ((with_reducible show Tr _ (eval _ _) _ _); first
     | ((with_reducible show Tr _ (eval (Expr.Name _ _) _) _ _); k_extra "name")
     | ((with_reducible show Tr _ (eval (Expr.Constant (Const.int _) _ _) _) _ _); refine tr_int fun _ => ?_)
     | ((with_reducible show Tr _ (eval (Expr.Constant (Const.bool _) _ _) _) _ _); refine tr_bool ?_)
     | ((with_reducible show Tr _ (eval (Expr.Constant Const.none _ _) _) _ _); refine tr_none ?_)
     | ((with_reducible show Tr _ (eval (Expr.Constant (Const.str _) _ _) _) _ _); refine tr_str fun _ => ?_)
     | ((with_reducible show Tr _ (eval (Expr.Call (Expr.Attribute _ _ _) _ _ _) _) _ _); refine tr_MethodCall ?_)
     | ((with_reducible show Tr _ (eval (Expr.Call _ _ _ _) _) _ _); refine tr_Call ?_)
     | ((with_reducible show Tr _ (eval (Expr.Attribute _ _ _) _) _ _); refine tr_Attribute ?_)
     | ((with_reducible show Tr _ (eval (Expr.Subscript _ _ _) _) _ _); refine tr_Subscript ?_)
     | ((with_reducible show Tr _ (eval (Expr.Slice none none none _) _) _ _); refine tr_sliceAll fun _ => ?_)
     | ((with_reducible show Tr _ (eval (Expr.Slice (some _) none none _) _) _ _); refine tr_sliceFrom ?_)
     | ((with_reducible show Tr _ (eval (Expr.BinOp _ _ _ _) _) _ _); refine tr_BinOp ?_)
     | ((with_reducible show Tr _ (eval (Expr.UnaryOp _ _ _) _) _ _); refine tr_UnaryOp ?_)
     | ((with_reducible show Tr _ (eval (Expr.Compare _ _ _ _) _) _ _); refine tr_Compare ?_)
     | ((with_reducible show Tr _ (eval (Expr.IfExp _ _ _ _) _) _ _); refine tr_IfExp ?_)
     | ((with_reducible show Tr _ (eval (Expr.BoolOp BoolOp.Or (_ :: _ :: _) _) _) _ _); refine tr_BoolOr ?_)
     | ((with_reducible show Tr _ (eval (Expr.BoolOp _ [_] _) _) _ _); refine tr_BoolOne ?_)
     | ((with_reducible show Tr _ (eval (Expr.List [] _) _) _ _); refine tr_List0 fun _ => ?_)
     | ((with_reducible show Tr _ (eval (Expr.List _ _) _) _ _); refine tr_List ?_)
     | ((with_reducible show Tr _ (eval (Expr.Tuple _ _ _) _) _ _); refine tr_Tuple ?_)
     | ((with_reducible show Tr _ (eval (Expr.Dict [] [] _) _) _ _); refine tr_Dict fun _ => ?_))
  | ((with_reducible show Tr _ (isTrue _ _ _) _ _); first
     | ((with_reducible show Tr _ (isTrue (Expr.Compare _ _ _ _) _ _) _ _); refine tr_isTrue_Compare ?_)
     | ((with_reducible show Tr _ (isTrue (Expr.UnaryOp UnaryOp.Not _ _) _ _) _ _); refine tr_isTrue_Not ?_)
     | ((with_reducible show Tr _ (isTrue (Expr.BoolOp _ _ _) _ _) _ _); refine tr_isTrue_BoolOp ?_)
     | refine tr_isTrue_value ?_)
  | ((with_reducible show Tr _ (callWith _ (Value.builtin _) _ _ _) _ _); first | refine tr_callBuiltin0 ?_ | refine tr_callBuiltin1 ?_)
  | ((with_reducible show Tr _ (callWith _ (Value.ref _) _ _ _) _ _); first
     | (refine' tr_callFn0 ?B ?hf ?_ ?p; (case B => k_extra "B"); (case hf => k_is); (case p => exact rfl))
     | (refine' tr_callFn1 ?B ?hf ?_ ?p; (case B => k_extra "B"); (case hf => k_is); (case p => exact rfl))
     | (refine' tr_callCls ?B ?hf ?_ ?p; (case B => k_extra "B"); (case hf => k_is); (case p => exact rfl)))
  | with_reducible refine tr_args_nil ?_
  | with_reducible refine noref_none ?_
  | ((with_reducible show ∀ _ : Addr, Tr _ _ _ _); intro _)
  | ((with_reducible show Tr _ (spliced (backTo _ (starEach (_ :: _) _))) _ _); refine tr_args_cons ?_)
  | ((with_reducible show Tr _ (getAttr (Value.ref _) _ _) _ _); refine' tr_getAttr ?B ?hx ?hP ?hd ?hg ?hh ?ha ?hn ?hv ?_ ?hi; (case B => k_extra "B"); (case hx => k_extra "mem"); (case hP => k_extra "isinst"); (case hd => k_extra "mem"); (case hg => k_extra "getok"); (case hh => k_is); (case ha => k_is); (case hn => k_is); (case hv => exact rfl); (case hi => exact rfl))
  | ((with_reducible show Tr _ (setAttr (Value.ref _) _ _) _ _); refine' tr_setAttr ?B ?hx ?hP ?U ?hs ?hp ?ht ?hh ?_ ?hz; (case B => k_extra "B"); (case hx => k_extra "mem"); (case hP => k_extra "isinst"); (case U => k_extra "upd"); (case hs => k_is); (case hp => k_is); (case ht => k_is); (case hh => k_is); (case hz => decide))
  | ((with_reducible show Tr _ (getMethod (Value.ref _) _ _) _ _); k_extra "meth")
  | ((with_reducible show Tr _ (call (Value.builtin _) _ _) _ _); k_extra "callb")
  | ((with_reducible show Tr _ (storeName _ _ _) _ _); k_extra "store")
  | ((with_reducible show Tr _ (loadName _ _) _ _); refine' tr_ldlocal ?hm ?hv ?_ ?a ?b; (case a => exact rfl); (case b => exact rfl); (case hm => k_extra "mem"); (case hv => k_extra "hv"))
  | ((with_reducible show Tr _ (truthy _) _ _); k_extra "truthy")
  | ((with_reducible show Tr _ (compareOp _ _ _) _ _); k_extra "cmp")
  | ((with_reducible show Tr _ (setItem (Value.ref _) (Value.str _ _) _) _ _); (refine' tr_dictSet ?U ?hz ?_; (case U => k_extra "upd"); (case hz => k_extra "len")))
  | with_reducible refine tr_add fun _ => ?_
  | with_reducible refine tr_iadd fun _ => ?_
  | with_reducible refine tr_sub fun _ => ?_
  | with_reducible refine tr_neg fun _ => ?_
  | with_reducible refine tr_not ?_
  | ((with_reducible show Tr _ (subscriptTail _ _ _ _) _ _); k_extra "sub")
  | ((with_reducible show Tr _ (delete (Expr.Subscript _ _ _) _) _ _); refine tr_delSubscript ?_)
  | ((with_reducible show Tr _ (letOwnedTupleGo (Expr.Name _ _) _ _) _ _); refine tr_letGoName ?_)
  | ((with_reducible show Tr _ (assign (Expr.Name _ _) _ _) _ _); refine tr_assignName ?_)
  | ((with_reducible show Tr _ (callWith _ (Value.type _) _ _ _) _ _); refine tr_callType ?_)
  | ((with_reducible show Tr _ (call (Value.type "zip") _ _) _ _); (refine' tr_zipNew ?h1 ?h2 ?_; (case h1 => k_extra "mem"); (case h2 => k_extra "mem"); intro _ _ _ _ _))
  | ((with_reducible show Tr _ (call (Value.type "type") [Value.int _ _] _) _ _); refine tr_typeInt ?_)
  | ((with_reducible show Tr _ (pyIter _) _ _); first
     | with_reducible refine tr_iterZip ?_
     | (refine' tr_iterInts ?hl ?_; (case hl => k_extra "mem"); intro _)
     | (refine' tr_iterList ?hl ?_; (case hl => k_extra "mem"); intro _)
     | (refine' tr_iterDom ?B ?S ?hx ?_; (case B => k_extra "B"); (case S => exact dsub _); (case hx => k_extra "mem"); intro _)))
section
def solA (b : Bool) : Str → Option Value := fun y => if y = Str.ofString "_forwardcheck" then some (.bool b) else none
def vmap (Ds : List Dm) : List (Str × Value) := Ds.map fun D => (D.nm, .ref D.vc)
theorem dmap_len (Ds : List Dm) : (dmap Ds).length = Ds.length := by simp [dmap]
theorem vmap_find {Ds : List Dm} (nd : (Ds.map (·.nm)).Nodup) {D : Dm} (m : D ∈ Ds) : valueAt (vmap Ds) D.nm = some (.ref D.vc) := by
  have := dmap_find (Ds := Ds.map fun D => { D with d := D.vc }) (D := { D with d := D.vc }) (by simpa [Function.comp_def] using nd) (List.mem_map.mpr ⟨D, m, rfl⟩)
  simpa [dmap, vmap, Function.comp_def] using this
theorem refs_snoc (ts : List (Addr × List Value)) (p : Addr × List Value) : refs (ts ++ [p]) = refs ts ++ [.ref p.1] := by simp [refs]
theorem vmap_len (Ds : List Dm) : (vmap Ds).length = Ds.length := by simp [vmap]
section
variable {mg mb : Str → Option Value}
theorem rec_spec (u : Nat) : ∀ {c : Cx} {X V : List Cell} {fwc : Bool} {k : Cn} {self sd sol vl dm vcd asg : Addr} {nvs : List Value} {Ds : List Dm} {kvs : List (Str × Value)} {ep : Nat} {sols : List Value} {Q : Value → List Cell → Prop}
    (B : Bs (hd.heap_39 c.w.params) c mg mb) (R : Rm (u + 20) c.A) (W : Rw u nvs kvs Ds) (hun : (uns kvs Ds).length = u) (hk : k.kind < 3) (hf1 : k.fl = none → ∀ D ∈ Ds, D.f = 1)
    (hV : ∀ D ∈ Ds, (D.vc, pList [.ref D.tp]) ∈ V ∧ (D.tp, pTup [.ref k.con, .ref vl]) ∈ V) (hkl : kvs.length + u ≤ 100) (hsl : sols.length + 3 ^ u ≤ 10000)
    (hS : missg kvs Ds = false → ∀ g, Ext kvs Ds g → SatK k.kind k.M Ds g)
    (h : ∀ new Ds', IsSolsP (fun g => Ext kvs Ds g ∧ SatK k.kind k.M Ds g) (Ds.map (·.nm)) new → new.length ≤ 3 ^ u → PermDs kvs Ds Ds' → Q (.ref sol) (scs c new ++ ((self, pInst 225 sd) :: (sd, pAttr 1 (solA fwc)) :: (sol, pList (sols ++ srefs new)) :: (k.con, pInst (clsOf k.kind) k.cd) :: (k.cd, pAttr 2 (conA (attrOf k.kind) k.M k.tM (mulV k.fl))) :: (vl, pList nvs) :: (dm, pDictE c ep (dmap Ds)) :: (vcd, pDict c (vmap Ds)) :: (asg, pDict c (kvs)) :: (flC k.fl Ds ++ (V ++ (dcl (Ds') ++ X)))))),
    TrF c (.ref 208) [.ref self, .ref sol, .ref dm, .ref vcd, .ref asg, .bool false] ((self, pInst 225 sd) :: (sd, pAttr 1 (solA fwc)) :: (sol, pList (sols)) :: (k.con, pInst (clsOf k.kind) k.cd) :: (k.cd, pAttr 2 (conA (attrOf k.kind) k.M k.tM (mulV k.fl))) :: (vl, pList nvs) :: (dm, pDictE c ep (dmap Ds)) :: (vcd, pDict c (vmap Ds)) :: (asg, pDict c (kvs)) :: (flC k.fl Ds ++ (V ++ (dcl (Ds) ++ X)))) Q := by
  induction u using Nat.strongRecOn with | _ u ih => ?_
  intro c X V fwc k self sd sol vl dm vcd asg nvs Ds kvs ep sols Q B R W hun hk hf1 hV hkl hsl hS h
  have h3u : 1 ≤ 3 ^ u := Nat.one_le_pow _ _ (by decide)
  have hz24 := sz24
  refine' tr_callC (binds := [(Str.ofString "self", .ref self), (Str.ofString "solutions", .ref sol), (Str.ofString "domains", .ref dm), (Str.ofString "vconstraints", .ref vcd), (Str.ofString "assignments", .ref asg), (Str.ofString "single", .bool false)])
    (cs := fun n => [(Str.ofString "assignments", n + 3), (Str.ofString "vconstraints", n + 2), (Str.ofString "domains", n + 1)])
    (mL := fun y => if y = Str.ofString "single" then some (.bool false) else if y = Str.ofString "solutions" then some (.ref sol) else if y = Str.ofString "self" then some (.ref self) else none)
    (cm := fun y => if y = Str.ofString "assignments" then some (.ref asg) else if y = Str.ofString "vconstraints" then some (.ref vcd) else if y = Str.ofString "domains" then some (.ref dm) else none) B R ?ho ?hcd ?hb ?hcs ?hnd ?hloc ?hL ?hC ?_ ?c2 ?c3 ?c4
  (case ho => k_is)
  (case hcd => k_is)
  (case hb => exact rfl)
  (case hcs => intro _; rfl)
  (case hnd => intro m p hp; simp only [List.mem_cons, List.not_mem_nil, or_false] at hp; rcases hp with rfl | rfl | rfl <;> rfl)
  (case hloc => intro m x hx; simp only [List.mem_cons, List.not_mem_nil, or_false] at hx; rcases hx with rfl | rfl | rfl | rfl | rfl | rfl <;> first | exact .inl rfl | exact .inr ⟨rfl, rfl⟩)
  (case c2 => exact rfl)
  (case c3 => exact rfl)
  (case c4 => exact rfl)
  (case hL => exact rfl)
  (case hC => exact rfl)
  intro Lf
  generalize Lf + 1 = a1
  generalize Lf + 2 = a2
  generalize Lf + 3 = a3
  refine Tr.sel (L' := (Lf, pNs _) :: (a3, pCel (some (.ref asg))) :: (a2, pCel (some (.ref vcd))) :: (a1, pCel (some (.ref dm))) :: (self, pInst 225 sd) :: (sd, pAttr 1 (solA fwc)) :: (sol, pList (sols)) :: (k.con, pInst (clsOf k.kind) k.cd) :: (k.cd, pAttr 2 (conA (attrOf k.kind) k.M k.tM (mulV k.fl))) :: (vl, pList nvs) :: (dm, pDictE c ep (dmap Ds)) :: (vcd, pDict c (vmap Ds)) :: (asg, pDict c (kvs)) :: (flC k.fl Ds ++ (V ++ (dcl (Ds) ++ X)))) Sel.refl ?_
  repeat k_extra "st"
  refine' tr_AssignComp ?hsw ?hclos ?hcell ?hkind ?hnames ?hs ?_
  (case hsw => with_unfolding_all rfl)
  (case hclos => with_unfolding_all rfl)
  (case hcell => decide)
  (case hkind => exact rfl)
  (case hnames => decide)
  (case hs => intro _; rfl)
  repeat k_extra "st"
  refine tr_iterDict (by k_extra "mem") fun it => ⟨it, rfl, .key (.head _), fun C Dl => ?_⟩
  refine tr_compLoop (fun n L' => ∃ A Bs ts m, Ds = A ++ Bs ∧ n = Bs.length ∧ Sel ((C, pNs m) :: (Dl, pList (refs ts.reverse)) :: (it, pKIter dm A.length (dmap Ds).length ep) :: (tcs ts ++ ((Lf, pNs fun y => if y = Str.ofString "single" then some (.bool false) else if y = Str.ofString "solutions" then some (.ref sol) else if y = Str.ofString "self" then some (.ref self) else none) :: (a3, pCel (some (.ref asg))) :: (a2, pCel (some (.ref vcd))) :: (a1, pCel (some (.ref dm))) :: (self, pInst 225 sd) :: (sd, pAttr 1 (solA fwc)) :: (sol, pList (sols)) :: (k.con, pInst (clsOf k.kind) k.cd) :: (k.cd, pAttr 2 (conA (attrOf k.kind) k.M k.tM (mulV k.fl))) :: (vl, pList nvs) :: (dm, pDictE c ep (dmap Ds)) :: (vcd, pDict c (vmap Ds)) :: (asg, pDict c (kvs)) :: (flC k.fl Ds ++ (V ++ (dcl (Ds) ++ X)))))) L' ∧
    All2 (fun D p => ∃ i1 i2 t1 t2 t3, p.2 = [.int i1 t1, .int i2 t2, .str D.nm t3]) A ts.reverse) ?_ Ds.length ⟨[], Ds, [], _, rfl, rfl, by k_extra "sel", .nil⟩
  intro n L' hI
  obtain ⟨A, Bs, ts, m, hD, rfl, hsel, hA⟩ := hI
  refine Tr.sel hsel ?_
  clear hsel
  cases Bs with
  | cons D Bs =>
    have hdl := dmap_len Ds
    subst hD
    have hDm : D ∈ A ++ D :: Bs := by simp
    have hdv := dmap_find W.wf.nd hDm
    have hvv := vmap_find W.wf.nd hDm
    have hv1 := (hV D hDm).1
    have hsz := W.wf.sz D hDm
    have hts : refs ts.reverse = refs ts.reverse := rfl
    have htl : (refs ts.reverse).length ≤ sizeLine := by have := hA.len; have := W.wf.len; simp [refs] at *; omega
    refine tr_nextKey (k := D.nm) (v := .ref D.d) (by k_extra "upd") (by k_extra "mem") rfl (by simp [dmap]) fun t => ?_
    dsimp only
    refine Tr.sel (by k_extra "focus") ?_
    repeat k_extra "st"
    refine tr_tests_nil ⟨fun _ => ?_, fun q => (nomatch q)⟩
    repeat k_extra "st"
    refine ⟨by have := sz24; simp only [List.length_cons, List.length_nil]; omega, fun T => ?_⟩
    repeat k_extra "st"
    rename_i t1 t2
    refine' ⟨Bs.length, _, by simp, Sel.refl, A ++ [D], Bs, (T, _) :: ts, _, by simp, rfl, ?hs, ?hf⟩
    (case hs => rw [List.reverse_cons, refs_snoc, List.length_append, List.length_singleton]; k_extra "back")
    (case hf => rw [List.reverse_cons]; exact hA.app (.cons ⟨_, _, _, _, _, rfl⟩ .nil))
  | nil =>
    rw [List.append_nil] at hD
    refine tr_nextKeyEnd (R.deeper _) (by k_extra "rem") (by k_extra "mem") rfl (by rw [hD]; simp [dmap]) ?_
    dsimp only
    repeat k_extra "st"
    refine ⟨m, _, by k_extra "sel", ?_⟩
    have hA := hD ▸ hA
    have hAl := hA.len
    have hts : All2 (fun D p => ∃ i1 i2 t1 t2 t3, p.2 = [.int i1 t1, .int i2 t2, .str D.nm t3]) Ds ts.reverse := hA
    repeat k_extra "st"
    refine' tr_sort (rows := ts.reverse.map (·.2)) (ks := [0, 1]) ?U ?U2 ?hT ?hk ?hks ?h64 ?_
    (case U => k_extra "upd")
    (case U2 => k_extra "upd")
    (case hT => exact tupsIn_of fun p hm => by have hm := mem_tcs (List.mem_reverse.mp hm); k_extra "mem")
    (case hk => intro r hr; obtain ⟨p, hp, rfl⟩ := List.mem_map.mp hr; obtain ⟨D, _, i1, i2, t1, t2, t3, e⟩ := hts.right p hp; rw [e]; rfl)
    (case hks => intro x hx; simp at hx; omega)
    (case h64 => have := W.wf.len; simp [refs] at *; omega)
    obtain ⟨ts', hperm, he⟩ := srt_refs (lts (ts.reverse.map (·.2))) ts.reverse
    rw [he]
    repeat k_extra "st"
    rename_i it2
    clear hA hAl he
    refine tr_forLoop (fun n L' => ∃ P S m, ts' = P ++ S ∧ n = S.length ∧ Sel ((it2, pLIter Dl P.length) :: (Dl, pList (refs ts')) :: (tcs ts ++ ((Lf, pNs m) :: (a3, pCel (some (.ref asg))) :: (a2, pCel (some (.ref vcd))) :: (a1, pCel (some (.ref dm))) :: (self, pInst 225 sd) :: (sd, pAttr 1 (solA fwc)) :: (sol, pList (sols)) :: (k.con, pInst (clsOf k.kind) k.cd) :: (k.cd, pAttr 2 (conA (attrOf k.kind) k.M k.tM (mulV k.fl))) :: (vl, pList nvs) :: (dm, pDictE c ep (dmap Ds)) :: (vcd, pDict c (vmap Ds)) :: (asg, pDict c (kvs)) :: (flC k.fl Ds ++ (V ++ (dcl (Ds) ++ X)))))) L' ∧
      FrHas m [(Str.ofString "self", .ref self), (Str.ofString "solutions", .ref sol), (Str.ofString "single", .bool false)] ∧ ∀ p ∈ P, ∀ D ∈ Ds, ∀ i1 i2 t1 t2 t3, p.2 = [.int i1 t1, .int i2 t2, .str D.nm t3] → asgd kvs D.nm = true) ?_ ts'.length ?init
    rotate_left
    · refine' ⟨[], ts', _, rfl, rfl, ?hs, ?hf, fun p hp => nomatch hp⟩
      (case hs => k_extra "sel")
      (case hf => k_extra "fr")
    intro n L' hI
    obtain ⟨P, S, m, hT', rfl, hsel, hF, hP⟩ := hI
    refine Tr.sel hsel ?_
    clear hsel
    cases S with
    | nil =>
      rw [List.append_nil] at hT'
      subst hT'
      have hm : missg kvs Ds = false := by
        cases q : missg kvs Ds with
        | false => rfl
        | true =>
          obtain ⟨D, hD, hq⟩ := List.any_eq_true.mp q
          obtain ⟨p, hp, i1, i2, t1, t2, t3, e⟩ := hts.left D hD
          have := hP p (hperm.mem_iff.mpr hp) D hD _ _ _ _ _ e
          rw [this] at hq; cases hq
      refine tr_nextEnd (R.deeper _) (by k_extra "rem") (by k_extra "mem") pList_seq (by simp [refs]) ?_
      dsimp only
      repeat k_extra "st"
      rename_i cp
      refine ⟨_, ?_, h [(cp, kvs)] Ds (.one W.wf.kv hm (hS hm) cp) h3u (All2.refl PermD.refl _)⟩
      show Sel ((cp, pDict c kvs) :: _) _
      k_extra "sel"
    | cons p S =>
      have hpm : p ∈ ts.reverse := hperm.mem_iff.mp (by rw [hT']; simp)
      obtain ⟨D0, hD0, i1, i2, t1, t2, t3, e⟩ := hts.right p hpm
      have hm := mem_tcs (List.mem_reverse.mp hpm)
      rw [e] at hm
      refine tr_nextItem (by k_extra "upd") (by k_extra "mem") pList_seq (v := .ref p.1) (by rw [hT']; simp [refs]) ?_
      dsimp only
      repeat k_extra "st"
      refine ⟨fun hu => ?_, fun hu => ?_⟩
      rotate_left
      · have hu' : asgd kvs D0.nm = true := by simpa [asgd] using hu
        repeat k_extra "st"
        refine' ⟨S.length, _, by simp, Sel.refl, P ++ [p], S, _, by simp [hT'], rfl, ?hs, ?hf, ?hq⟩
        (case hs => rw [List.length_append, List.length_singleton]; k_extra "sel")
        (case hf => k_extra "fr")
        (case hq => intro q hq D hD j1 j2 s1 s2 s3 e'; rcases List.mem_append.mp hq with hq | hq; exact hP q hq D hD _ _ _ _ _ e'; rw [List.mem_singleton.mp hq, e] at e'; simp at e'; rw [← e'.2.2.1]; exact hu')
      have hu' : asgd kvs D0.nm = false := by simpa [asgd] using hu
      repeat k_extra "st"
      clear hP
      have hnm0 := hu'
      have hdv0 := dmap_find W.wf.nd hD0
      have hvv0 := vmap_find W.wf.nd hD0
      have hv1 := (hV D0 hD0).1
      have hv2 := (hV D0 hD0).2
      have hUl : (uns (stored kvs D0.nm .none) Ds).length ≤ 1000 := by have := List.length_filter_le (fun D => !asgd (stored kvs D0.nm .none) D.nm) Ds; have := W.wf.len; unfold uns; omega
      have hkl1 : (stored kvs D0.nm .none).length ≤ sizeLine := by rw [stored_len hu']; omega
      refine join2 (J := fun L' => ∃ m pdv pb Zp, PdOk pdv pb Zp (uns (stored kvs D0.nm .none) Ds) ∧ Sel (Zp ++ ((Lf, pNs m) :: (a3, pCel (some (.ref asg))) :: (a2, pCel (some (.ref vcd))) :: (a1, pCel (some (.ref dm))) :: (self, pInst 225 sd) :: (sd, pAttr 1 (solA fwc)) :: (sol, pList (sols)) :: (k.con, pInst (clsOf k.kind) k.cd) :: (k.cd, pAttr 2 (conA (attrOf k.kind) k.M k.tM (mulV k.fl))) :: (vl, pList nvs) :: (dm, pDictE c ep (dmap Ds)) :: (vcd, pDict c (vmap Ds)) :: (asg, pDict c (stored kvs D0.nm .none)) :: (flC k.fl Ds ++ (V ++ (dcl (Ds) ++ X))))) L' ∧ FrHas m [(Str.ofString "variable", .str D0.nm t3), (Str.ofString "pushdomains", pdv), (Str.ofString "self", .ref self), (Str.ofString "solutions", .ref sol), (Str.ofString "single", .bool false)]) ?_ ?_ ?_
      rotate_left
      · -- forward check: the domains of what is not assigned
        intro hfc
        repeat k_extra "st"
        refine' tr_AssignComp ?hsw ?hclos ?hcell ?hkind ?hnames ?hs ?_
        (case hsw => with_unfolding_all rfl)
        (case hclos => with_unfolding_all rfl)
        (case hcell => decide)
        (case hkind => exact rfl)
        (case hnames => decide)
        (case hs => intro _; rfl)
        repeat k_extra "st"
        refine tr_iterDict (by k_extra "mem") fun it3 => ⟨it3, rfl, .key (.head _), fun C2 Dl2 => ?_⟩
        refine tr_compLoop (fun n L' => ∃ A Bs m mm, Ds = A ++ Bs ∧ n = Bs.length ∧ Sel ((C2, pNs m) :: (Dl2, pList (pds (uns (stored kvs D0.nm .none) A))) :: (it3, pKIter dm A.length (dmap Ds).length ep) :: (Lf, pNs mm) :: (a3, pCel (some (.ref asg))) :: (a2, pCel (some (.ref vcd))) :: (a1, pCel (some (.ref dm))) :: (self, pInst 225 sd) :: (sd, pAttr 1 (solA fwc)) :: (sol, pList (sols)) :: (k.con, pInst (clsOf k.kind) k.cd) :: (k.cd, pAttr 2 (conA (attrOf k.kind) k.M k.tM (mulV k.fl))) :: (vl, pList nvs) :: (dm, pDictE c ep (dmap Ds)) :: (vcd, pDict c (vmap Ds)) :: (asg, pDict c (stored kvs D0.nm .none)) :: (flC k.fl Ds ++ (V ++ (dcl (Ds) ++ X)))) L' ∧ FrHas mm [(Str.ofString "variable", .str D0.nm t3), (Str.ofString "self", .ref self), (Str.ofString "solutions", .ref sol), (Str.ofString "single", .bool false)]) ?_ Ds.length ?init2
        rotate_left
        · refine' ⟨[], Ds, _, _, rfl, rfl, ?hs, ?hf⟩
          (case hs => k_extra "sel")
          (case hf => k_extra "fr")
        intro n L' hI
        obtain ⟨A, Bs, m, mm, hD, rfl, hsel, hF2⟩ := hI
        refine Tr.sel hsel ?_
        clear hsel
        cases Bs with
        | cons D Bs =>
          have hDm : D ∈ Ds := by simp [hD]
          have hdv := dmap_find W.wf.nd hDm
          have hpl : (pds (uns (stored kvs D0.nm .none) A)).length ≤ sizeLine := by have := List.length_filter_le (fun D => !asgd (stored kvs D0.nm .none) D.nm) A; have := W.wf.len; rw [hD] at this; simp [pds, uns] at *; omega
          refine tr_nextKey (k := D.nm) (v := .ref D.d) (by k_extra "upd") (by k_extra "mem") rfl (by rw [hD]; simp [dmap]) fun t => ?_
          dsimp only
          repeat k_extra "st"
          refine tr_tests_one ?_
          repeat k_extra "st"
          refine ⟨fun ha => ?_, fun ha => ?_⟩
          · have ha' : asgd (stored kvs D0.nm .none) D.nm = false := by simpa [asgd] using ha
            repeat k_extra "st"
            refine' ⟨Bs.length, _, by simp, Sel.refl, A ++ [D], Bs, _, _, by simp [hD], rfl, ?hs, hF2⟩
            (case hs => rw [List.length_append, List.length_singleton, show pds (uns (stored kvs D0.nm .none) (A ++ [D])) = pds (uns (stored kvs D0.nm .none) A) ++ [.ref D.d] by simp [pds, uns, ha']]; k_extra "sel")
          · have ha' : asgd (stored kvs D0.nm .none) D.nm = true := by simpa [asgd] using ha
            refine' ⟨Bs.length, _, by simp, Sel.refl, A ++ [D], Bs, _, _, by simp [hD], rfl, ?hs, hF2⟩
            (case hs => rw [List.length_append, List.length_singleton, show pds (uns (stored kvs D0.nm .none) (A ++ [D])) = pds (uns (stored kvs D0.nm .none) A) by simp [pds, uns, ha']]; k_extra "sel")
        | nil =>
          rw [List.append_nil] at hD
          refine tr_nextKeyEnd (R.deeper _) (by k_extra "rem") (by k_extra "mem") rfl (by rw [hD]; simp [dmap]) ?_
          dsimp only
          repeat k_extra "st"
          rw [← hD]
          refine ⟨m, _, by k_extra "sel", ?_⟩
          repeat k_extra "st"
          refine' ⟨_, .ref Dl2, _, _, .on, ?hs, ?hf⟩
          (case hs => k_extra "sel")
          (case hf => k_extra "fr")
      · intro hfc
        repeat k_extra "st"
        refine' ⟨_, .none, _, _, .off, ?hs, ?hf⟩
        (case hs => k_extra "sel")
        (case hf => k_extra "fr")
      rintro L' ⟨m, pdv, pb, Zp, hpd, hsel, hF⟩
      refine Tr.sel hsel ?_
      clear hsel
      repeat k_extra "st"
      obtain ⟨A0, B0, hDs⟩ := List.append_of_mem hD0
      rw [show dcl Ds = dcl (A0 ++ D0 :: B0) from by rw [← hDs]]
      refine Tr.sel (by k_extra "focus") ?_
      repeat k_extra "st"
      rename_i it3
      have hndup := W.ndv D0 hD0
      have hV3 := W.h3 D0 hD0
      have hupos : 0 < u := by
        rw [← hun]; exact List.length_pos_of_mem (List.mem_filter.mpr ⟨hD0, by rw [hu']; rfl⟩)
      have h3s : 3 ^ u = 3 * 3 ^ (u - 1) := by
        obtain ⟨u', rfl⟩ : ∃ u', u = u' + 1 := ⟨u - 1, by omega⟩
        rw [Nat.add_sub_cancel, Nat.pow_succ]; omega
      have hasg1 : ∀ x w w', asgd (stored kvs D0.nm w) x = asgd (stored kvs D0.nm w') x := fun x w w' => by rw [asgd_stored hu', asgd_stored hu']
      have hasg0 : ∀ w, asgd (stored kvs D0.nm w) D0.nm = true := fun w => by rw [asgd_stored hu']; simp
      have hasg2 : ∀ x w, asgd kvs x = true → asgd (stored kvs D0.nm w) x = true := fun x w q => by rw [asgd_stored hu', q]; simp
      refine tr_forLoop (fun n L' => ∃ p q new Dsj m w, D0.vs = p ++ q ∧ n = q.length ∧ PermDs (stored kvs D0.nm .none) Ds Dsj ∧ IsSolsP (fun g => Ext kvs Ds g ∧ g D0.nm ∈ p ∧ SatK k.kind k.M Ds g) (Ds.map (·.nm)) new ∧ new.length ≤ p.length * 3 ^ (u - 1) ∧
        Sel ((it3, pLIter D0.d p.length) :: (Zp ++ ((Lf, pNs m) :: (scs c new ++ ((a3, pCel (some (.ref asg))) :: (a2, pCel (some (.ref vcd))) :: (a1, pCel (some (.ref dm))) :: (self, pInst 225 sd) :: (sd, pAttr 1 (solA fwc)) :: (sol, pList (sols ++ srefs new)) :: (k.con, pInst (clsOf k.kind) k.cd) :: (k.cd, pAttr 2 (conA (attrOf k.kind) k.M k.tM (mulV k.fl))) :: (vl, pList nvs) :: (dm, pDictE c ep (dmap Ds)) :: (vcd, pDict c (vmap Ds)) :: (asg, pDict c (stored kvs D0.nm w)) :: (flC k.fl Ds ++ (V ++ (dcl (Dsj) ++ X)))))))) L' ∧ FrHas m [(Str.ofString "variable", .str D0.nm t3), (Str.ofString "pushdomains", pdv), (Str.ofString "self", .ref self), (Str.ofString "solutions", .ref sol), (Str.ofString "single", .bool false)]) ?_ D0.vs.length ?init3
      rotate_left
      · refine' ⟨[], D0.vs, [], Ds, _, .none, rfl, rfl, All2.refl PermD.refl _, .nil (fun g a => nomatch a.2.1), by simp, ?hs, ?hf⟩
        (case hs => rw [show srefs [] = [] from rfl, List.append_nil, show dcl Ds = dcl (A0 ++ D0 :: B0) from by rw [← hDs]]; show Sel ((it3, _) :: (Zp ++ ((Lf, _) :: _))) _; k_extra "back")
        (case hf => k_extra "fr")
      clear hF
      intro n L' hI
      obtain ⟨p', q, new, Dsj, m, w, hv, rfl, hPj, hSol, hcnt, hsel, hF⟩ := hI
      refine Tr.sel hsel ?_
      clear hsel
      obtain ⟨A', D0', B', hDsj, hA', hD0', hB'⟩ := All2.mid (hDs ▸ hPj)
      have hD0e : D0' = D0 := hD0'.2.2 (hasg0 _)
      subst hD0e
      rw [show dcl Dsj = dcl (A' ++ D0' :: B') from by rw [← hDsj]]
      refine Tr.sel (by k_extra "focus") ?_
      have hklw : (stored kvs D0'.nm w).length ≤ sizeLine := by rw [stored_len hu']; omega
      cases q with
      | nil =>
        refine tr_nextIntEnd (R.deeper _) (by k_extra "rem") (by k_extra "mem") pDomL_seq (by rw [hv]; simp) ?_
        dsimp only
        repeat k_extra "st"
        refine' tr_dictDel ?U ?hz ?hk ?_
        (case U => k_extra "upd")
        (case hz => rw [stored_len hu']; omega)
        (case hk => exact hasg0 w)
        rw [without_stored hu']
        repeat k_extra "st"
        rw [List.append_nil] at hv
        refine ⟨_, ?_, h new Dsj (hSol.congr fun g => ⟨fun ⟨e, s⟩ => ⟨e, by
          have := e _ hD0
          rw [av_of_not hu'] at this
          rw [← hv]; exact this, s⟩, fun ⟨e, _, s⟩ => ⟨e, s⟩⟩) (Nat.le_trans hcnt (by rw [h3s, ← hv]; exact Nat.mul_le_mul_right _ hV3)) (hPj.imp fun D D' r => r.mono fun x q => hasg2 x _ q)⟩
        rw [show dcl Dsj = dcl (A' ++ D0' :: B') from by rw [← hDsj]]
        k_extra "back"
      | cons v q =>
        refine tr_nextInt (by k_extra "upd") (by k_extra "mem") pDomL_seq (v := v) (by rw [hv]; simp) fun tv => ?_
        dsimp only
        repeat k_extra "st"
        rw [stored_stored hu']
        have hvm : v ∈ D0'.vs := by rw [hv]; simp
        have hvp : v ∉ p' := by
          intro hm; rw [hv] at hndup
          exact (List.nodup_append.mp hndup).2.2 v hm v (.head _) rfl
        have hW2 : Rw u nvs (stored kvs D0'.nm (.int v tv)) Ds := W.kv hD0 hu' hvm
        have hPj2 : PermDs (stored kvs D0'.nm (.int v tv)) Ds Dsj := hPj.imp fun D D' r => r.mono fun x q => by rw [hasg1 x _ .none] at q; exact q
        have hWj : Rw u nvs (stored kvs D0'.nm (.int v tv)) Dsj := Rw.step (k := 0) hW2 (hPj2.imp fun D D' r => r.lesr 0)
        have hkl2 : (stored kvs D0'.nm (.int v tv)).length ≤ sizeLine := by rw [stored_len hu']; omega
        have hEx : ∀ g, Ext (stored kvs D0'.nm (.int v tv)) Dsj g ↔ Ext kvs Ds g ∧ g D0'.nm = v := fun g => hPj.ext.trans (Ext_stored W.wf.nd hD0 hu' hvm)
        refine Tr.sel (L' := (it3, pLIter D0'.d (p'.length + 1)) :: (Zp ++ ((Lf, pNs _) :: (scs c new ++ ((a3, pCel (some (.ref asg))) :: (a2, pCel (some (.ref vcd))) :: (a1, pCel (some (.ref dm))) :: (self, pInst 225 sd) :: (sd, pAttr 1 (solA fwc)) :: (sol, pList (sols ++ srefs new)) :: (k.con, pInst (clsOf k.kind) k.cd) :: (k.cd, pAttr 2 (conA (attrOf k.kind) k.M k.tM (mulV k.fl))) :: (vl, pList nvs) :: (dm, pDictE c ep (dmap Ds)) :: (vcd, pDict c (vmap Ds)) :: (asg, pDict c (stored kvs D0'.nm (.int v tv))) :: (flC k.fl Ds ++ (V ++ (dcl (Dsj) ++ X)))))))) (by rw [show dcl Dsj = dcl (A' ++ D0' :: B') from by rw [← hDsj]]; k_extra "back") ?_
        refine tr_truthyFw (hpd.fw hUl) (by k_extra "all") ?_
        refine join2 (J := fun L' => ∃ m Dp, PushR (stored kvs D0'.nm (.int v tv)) pb Dsj Dp ∧ Sel ((it3, pLIter D0'.d (p'.length + 1)) :: (Zp ++ ((Lf, pNs m) :: (scs c new ++ ((a3, pCel (some (.ref asg))) :: (a2, pCel (some (.ref vcd))) :: (a1, pCel (some (.ref dm))) :: (self, pInst 225 sd) :: (sd, pAttr 1 (solA fwc)) :: (sol, pList (sols ++ srefs new)) :: (k.con, pInst (clsOf k.kind) k.cd) :: (k.cd, pAttr 2 (conA (attrOf k.kind) k.M k.tM (mulV k.fl))) :: (vl, pList nvs) :: (dm, pDictE c ep (dmap Ds)) :: (vcd, pDict c (vmap Ds)) :: (asg, pDict c (stored kvs D0'.nm (.int v tv))) :: (flC k.fl Ds ++ (V ++ (dcl (Dp) ++ X)))))))) L' ∧ FrHas m [(Str.ofString "variable", .str D0'.nm t3), (Str.ofString "pushdomains", pdv), (Str.ofString "self", .ref self), (Str.ofString "solutions", .ref sol), (Str.ofString "single", .bool false)]) ?_ ?_ ?_
        rotate_left
        · -- push
          intro hb
          subst hb
          obtain ⟨pd, rfl, rfl⟩ := hpd.tru
          have hpds : pds (uns (stored kvs D0'.nm .none) Ds) = pds (uns (stored kvs D0'.nm (.int v tv)) Dsj) := by rw [pds_uns hPj2, uns_val hu']
          have hUz : (pds (uns (stored kvs D0'.nm (.int v tv)) Dsj)).length ≤ sizeLine := by rw [← hpds]; simp [pds]; omega
          have hsz : ∀ D ∈ uns (stored kvs D0'.nm (.int v tv)) Dsj, D.vs.length + D.hs.length ≤ 1000 ∧ D.ss.length ≤ 1000 := fun D hD => by
            have hD' := (List.mem_filter.mp hD).1
            exact ⟨hWj.wf.sz D hD', by have := hWj.hss D hD'; omega⟩
          rw [hpds]
          repeat k_extra "st"
          rename_i it4
          refine TrC.sel (split_sel (kvs := stored kvs D0'.nm (.int v tv)) (Ds := Dsj) (by k_extra "sel")) ?_
          refine' TrC.sel ?hsl (push_loop (n := u + 16) (ctx := [(Str.ofString "variable", .str D0'.nm t3), (Str.ofString "pushdomains", .ref pd), (Str.ofString "self", .ref self), (Str.ofString "solutions", .ref sol), (Str.ofString "single", .bool false)]) (B.deeper _) (R.deeper _) ?hl1 ?hk1 ?hi1 ?hsw1 ?hmc1 ?hctx1 ?hF1 hsz ?hU1 ?_)
          (case hsl => k_extra "sel")
          (case hl1 => exact rfl)
          (case hk1 => exact rfl)
          (case hi1 => exact rfl)
          (case hsw1 => exact rfl)
          (case hmc1 => exact rfl)
          (case hctx1 => intro x hx; simp only [List.mem_cons, List.not_mem_nil, or_false] at hx; rcases hx with rfl | rfl | rfl | rfl | rfl <;> (dsimp only; decide))
          (case hF1 => k_extra "fr")
          (case hU1 => simpa [pds] using (show (pds (uns (stored kvs D0'.nm (.int v tv)) Dsj)).length ≤ 1000 by rw [← hpds]; simpa [pds] using hUl))
          intro m2 hF2
          repeat k_extra "st"
          obtain ⟨Dp, hDp, hperm⟩ := merge (kvs := stored kvs D0'.nm (.int v tv)) (R := fun D D' => D' = { D with ss := D.ss ++ [(D.vs.length : Int)] }) Dsj (All2.mapR _ _ fun D _ => rfl)
          refine ⟨m2, Dp, .inr ⟨rfl, hDp⟩, ?_, hF2⟩
          refine' Sel.trans ?u1 (merge_sel hperm ?v1)
          (case u1 => k_extra "pull1")
          (case v1 => k_extra "sel")
        · intro hb
          repeat k_extra "st"
          refine' ⟨_, Dsj, .inl ⟨hb, rfl⟩, Sel.refl, ?hf⟩
          (case hf => k_extra "fr")
        clear hF
        rintro L' ⟨m, Dp, hPR, hsel, hF⟩
        refine Tr.sel hsel ?_
        clear hsel
        repeat k_extra "st"
        rename_i it5
        clear hasg1
        have hWp : Rw (u - 1) nvs (stored kvs D0'.nm (.int v tv)) Dp := Rw.step (k := 1) (by rw [Nat.sub_add_cancel hupos]; exact hWj) hPR.lesr
        have hSp : All2 SameD Ds Dp := All2.trans (R := SameD) (S := SameD) (T := SameD) (fun a b d r s => SameD.trans r s) hPj2.same hPR.maps
        have hExp : ∀ g, Ext (stored kvs D0'.nm (.int v tv)) Dp g ↔ Ext kvs Ds g ∧ g D0'.nm = v := fun g => hPR.ext.trans (hEx g)
        have hunp : (uns (stored kvs D0'.nm (.int v tv)) Ds).length = u - 1 := by have := uns_stored (v := .int v tv) W.wf.nd hD0 hu'; rw [hun] at this; omega
        have hOkv : ∀ g, (Ext kvs Ds g ∧ g D0'.nm ∈ p' ++ [v] ∧ SatK k.kind k.M Ds g) ↔ ((Ext kvs Ds g ∧ g D0'.nm ∈ p' ∧ SatK k.kind k.M Ds g) ∨ (Ext (stored kvs D0'.nm (.int v tv)) Dp g ∧ SatK k.kind k.M Ds g)) := fun g => by
          rw [hExp, List.mem_append, List.mem_singleton]
          constructor
          · rintro ⟨a, b | b, d⟩
            · exact .inl ⟨a, b, d⟩
            · exact .inr ⟨⟨a, b⟩, d⟩
          · rintro (⟨a, b, d⟩ | ⟨⟨a, b⟩, d⟩)
            · exact ⟨a, .inl b, d⟩
            · exact ⟨a, .inr b, d⟩
        refine TrC.join (J := fun L' => ∃ m new2 Dr, RelPb (stored kvs D0'.nm (.int v tv)) pb Dsj Dr ∧ IsSolsP (fun g => Ext kvs Ds g ∧ g D0'.nm ∈ p' ++ [v] ∧ SatK k.kind k.M Ds g) (Ds.map (·.nm)) (new ++ new2) ∧ new2.length ≤ 3 ^ (u - 1) ∧
          Sel ((it3, pLIter D0'.d (p'.length + 1)) :: (Zp ++ ((Lf, pNs m) :: (scs c (new ++ new2) ++ ((a3, pCel (some (.ref asg))) :: (a2, pCel (some (.ref vcd))) :: (a1, pCel (some (.ref dm))) :: (self, pInst 225 sd) :: (sd, pAttr 1 (solA fwc)) :: (sol, pList (sols ++ srefs (new ++ new2))) :: (k.con, pInst (clsOf k.kind) k.cd) :: (k.cd, pAttr 2 (conA (attrOf k.kind) k.M k.tM (mulV k.fl))) :: (vl, pList nvs) :: (dm, pDictE c ep (dmap Ds)) :: (vcd, pDict c (vmap Ds)) :: (asg, pDict c (stored kvs D0'.nm (.int v tv))) :: (flC k.fl Ds ++ (V ++ (dcl (Dr) ++ X)))))))) L' ∧ FrHas m [(Str.ofString "variable", .str D0'.nm t3), (Str.ofString "pushdomains", pdv), (Str.ofString "self", .ref self), (Str.ofString "solutions", .ref sol), (Str.ofString "single", .bool false)]) ?_ ?_
        rotate_left
        · refine tr_forLoop (fun n L' => (n = 1 ∧ ∃ m, Sel ((it5, pLIter D0'.vc 0) :: (it3, pLIter D0'.d (p'.length + 1)) :: (Zp ++ ((Lf, pNs m) :: (scs c new ++ ((a3, pCel (some (.ref asg))) :: (a2, pCel (some (.ref vcd))) :: (a1, pCel (some (.ref dm))) :: (self, pInst 225 sd) :: (sd, pAttr 1 (solA fwc)) :: (sol, pList (sols ++ srefs new)) :: (k.con, pInst (clsOf k.kind) k.cd) :: (k.cd, pAttr 2 (conA (attrOf k.kind) k.M k.tM (mulV k.fl))) :: (vl, pList nvs) :: (dm, pDictE c ep (dmap Ds)) :: (vcd, pDict c (vmap Ds)) :: (asg, pDict c (stored kvs D0'.nm (.int v tv))) :: (flC k.fl Ds ++ (V ++ (dcl (Dp) ++ X)))))))) L' ∧ FrHas m [(Str.ofString "variable", .str D0'.nm t3), (Str.ofString "pushdomains", pdv), (Str.ofString "self", .ref self), (Str.ofString "solutions", .ref sol), (Str.ofString "single", .bool false)]) ∨
            (n = 0 ∧ ∃ m Dc, CRes (SatK k.kind k.M Dp) (stored kvs D0'.nm (.int v tv)) pb Dp true Dc ∧ Sel ((it5, pLIter D0'.vc 1) :: (it3, pLIter D0'.d (p'.length + 1)) :: (Zp ++ ((Lf, pNs m) :: (scs c new ++ ((a3, pCel (some (.ref asg))) :: (a2, pCel (some (.ref vcd))) :: (a1, pCel (some (.ref dm))) :: (self, pInst 225 sd) :: (sd, pAttr 1 (solA fwc)) :: (sol, pList (sols ++ srefs new)) :: (k.con, pInst (clsOf k.kind) k.cd) :: (k.cd, pAttr 2 (conA (attrOf k.kind) k.M k.tM (mulV k.fl))) :: (vl, pList nvs) :: (dm, pDictE c ep (dmap Ds)) :: (vcd, pDict c (vmap Ds)) :: (asg, pDict c (stored kvs D0'.nm (.int v tv))) :: (flC k.fl Ds ++ (V ++ (dcl (Dc) ++ X)))))))) L' ∧ FrHas m [(Str.ofString "variable", .str D0'.nm t3), (Str.ofString "pushdomains", pdv), (Str.ofString "self", .ref self), (Str.ofString "solutions", .ref sol), (Str.ofString "single", .bool false)])) ?_ 1 (.inl ⟨rfl, m, Sel.refl, hF⟩)
          clear hF
          intro n L' hI
          rcases hI with ⟨rfl, m, hsel, hF⟩ | ⟨rfl, m, Dc, hC, hsel, hF⟩
          · refine Tr.sel hsel ?_
            clear hsel
            refine tr_nextItem (by k_extra "upd") (by k_extra "mem") pList_seq (v := .ref D0'.tp) rfl ?_
            dsimp only
            refine tr_letGoTup (by k_extra "mem") ?_
            refine tr_Tup2 (R.deeper _) (by k_extra "mem") ?_
            repeat k_extra "st"
            refine tr_callInst (k := 2) (B.deeper _) (by k_extra "mem") (by k_extra "mem") (con_find _ hk) (con_isFn _ hk).1 (con_isFn _ hk).2 ?_
            repeat k_extra "st"
            refine ⟨⟨by k_extra "mem", by k_extra "mem"⟩, ?_⟩
            rw [← same_dm hSp, ← same_fl hSp]
            refine TrF.sel (by k_extra "sel") (con_call (B.deeper _) ((R.deeper _).le (by omega)) (hpd.fw hUl) hWp.wf hk (fun q D hD => by obtain ⟨E, hE, r⟩ := hSp.right D hD; rw [show D.f = E.f by rw [r]]; exact hf1 q E hE) ?_)
            rw [same_dm hSp, same_fl hSp]
            intro b Dc hC
            repeat k_extra "st"
            refine ⟨fun hb => ?_, fun hb => ?_⟩
            · have hb' : b = false := by simpa using hb
              subst hb'
              repeat k_extra "st"
              refine' ⟨_, [], Dc, relPb_of hPR hC.shape (All2.refl PermD.refl _), ?hi, by simp, ?hs, ?hf⟩
              (case hi => rw [List.append_nil]; exact hSol.congr fun g => (hOkv g).trans ⟨fun q => q.resolve_right fun z => hC.no rfl g z.1 ((same_sat hSp).mpr z.2), .inl⟩)
              (case hs => rw [List.append_nil]; k_extra "sel")
              (case hf => k_extra "fr")
            · have hb' : b = true := by simpa using hb
              subst hb'
              repeat k_extra "st"
              refine' ⟨0, _, by decide, Sel.refl, .inr ⟨rfl, _, Dc, hC, ?hs, ?hf⟩⟩
              (case hs => k_extra "sel")
              (case hf => k_extra "fr")
          · refine Tr.sel hsel ?_
            clear hsel
            refine tr_nextEnd (R.deeper _) (by k_extra "rem") (by k_extra "mem") pList_seq rfl ?_
            dsimp only
            repeat k_extra "st"
            have hSc : All2 SameD Ds Dc := All2.trans (R := SameD) (S := SameD) (T := SameD) (fun a b d r s => SameD.trans r s) hSp (shape_sameD hC.shape)
            have hvm' : vmap Dc = vmap Ds := same_vm hSc
            have hWc : Rw (u - 1) nvs (stored kvs D0'.nm (.int v tv)) Dc := Rw.step (k := 0) hWp (hC.shape.imp fun D D' r => r.1.lesr 0)
            have hp3 : p'.length ≤ 2 := by rw [hv, List.length_append, List.length_cons] at hV3; omega
            have hcb : new.length + 3 ^ (u - 1) ≤ 3 ^ u := by
              rw [h3s]
              have := Nat.mul_le_mul_right (3 ^ (u - 1)) hp3
              omega
            have hsub : ∀ g, Ext (stored kvs D0'.nm (.int v tv)) Dc g → Ext (stored kvs D0'.nm (.int v tv)) Dp g := fun g => ext_sub (hC.shape.imp fun D D' r => ⟨by rw [r.1.1], by obtain ⟨_, lay, _, pp⟩ := r.1; exact fun x m => pp.mem_iff.mpr (List.mem_append_left _ m)⟩)
            rw [← same_dm hSc, ← same_fl hSc, ← hvm']
            refine Tr.sel (by k_extra "sel") (ih (u - 1) (by omega) (V := V) (B.deeper _) ((R.deeper _).le (by omega)) hWc ((uns_same (same_nms hSc)).trans hunp) hk
              (fun q D hD => by obtain ⟨E, hE, r⟩ := hSc.right D hD; rw [show D.f = E.f by rw [r]]; exact hf1 q E hE)
              (fun D hD => by obtain ⟨E, hE, r⟩ := hSc.right D hD; rw [show D.vc = E.vc by rw [r], show D.tp = E.tp by rw [r]]; exact hV E hE)
              (by rw [stored_len hu']; omega) (by rw [List.length_append]; simp only [srefs, List.length_map]; omega)
              (fun hm g e => (same_sat (hC.shape.imp fun D D' r => by unfold SameD; rw [r.1.1])).mpr (hC.all rfl (by rw [← hm]; exact (missg_same (by rw [same_nms hSc, same_nms hSp])).symm) g (hsub g e))) ?_).tr
            intro new2 Dr hs2 hc2 hp2
            rw [same_dm hSc, same_fl hSc, hvm']
            have hlen2 : (sols ++ srefs new ++ srefs new2).length ≤ sizeLine := by
              rw [List.length_append, List.length_append]; simp only [srefs, List.length_map]; omega
            have hs2' : IsSolsP (fun g => Ext (stored kvs D0'.nm (.int v tv)) Dp g ∧ SatK k.kind k.M Ds g) (Ds.map (·.nm)) new2 := by
              rw [same_nms hSc] at hs2
              exact hs2.congr fun g => ⟨fun z => ⟨hC.yes rfl g z.1 ((same_sat hSp).mpr z.2), (same_sat hSc).mpr z.2⟩, fun z => ⟨hsub g z.1, (same_sat hSc).mp z.2⟩⟩
            have hi : IsSolsP (fun g => Ext kvs Ds g ∧ g D0'.nm ∈ p' ++ [v] ∧ SatK k.kind k.M Ds g) (Ds.map (·.nm)) (new ++ new2) := (hSol.app hs2' fun g g' z z' e => by
              have := List.map_inj_left.mp e D0'.nm (List.mem_map.mpr ⟨D0', hD0, rfl⟩)
              rw [((hExp g').mp z'.1).2] at this
              exact hvp (this ▸ z.2.1)).congr hOkv
            have hrel := relPb_of hPR hC.shape hp2
            repeat k_extra "st"
            refine tr_And_cons ?_
            repeat k_extra "st"
            refine ⟨fun _ => ⟨fun q => (nomatch q), fun _ => ?_⟩, fun _ => ?_⟩
            · repeat k_extra "st"
              refine' ⟨_, new2, Dr, hrel, hi, hc2, ?hs, ?hf⟩
              (case hs => rw [srefs_app, ← List.append_assoc sols, scs_app, List.append_assoc (scs c new)]; k_extra "sel")
              (case hf => k_extra "fr")
            · refine tr_And_cons ?_
              repeat k_extra "st"
              refine ⟨fun _ => ⟨fun q => (nomatch q), fun _ => ?_⟩, fun q => (nomatch q)⟩
              repeat k_extra "st"
              refine' ⟨_, new2, Dr, hrel, hi, hc2, ?hs, ?hf⟩
              (case hs => rw [srefs_app, ← List.append_assoc sols, scs_app, List.append_assoc (scs c new)]; k_extra "sel")
              (case hf => k_extra "fr")
        clear hF
        rintro L' ⟨m, new2, Dr, hRel, hSol2, hcnt2, hsel, hF⟩
        refine Tr.sel hsel ?_
        clear hsel
        repeat k_extra "st"
        have hcnt3 : (new ++ new2).length ≤ (p' ++ [v]).length * 3 ^ (u - 1) := by
          rw [List.length_append, List.length_append, List.length_singleton, Nat.succ_mul]; omega
        refine tr_truthyFw (hpd.fw hUl) (by k_extra "all") ⟨fun hb => ?_, fun hb => ?_⟩
        · subst hb
          obtain ⟨pd, rfl, rfl⟩ := hpd.tru
          have hpds : pds (uns (stored kvs D0'.nm .none) Ds) = pds (uns (stored kvs D0'.nm (.int v tv)) Dsj) := by rw [pds_uns hPj2, uns_val hu']
          have hUz : (pds (uns (stored kvs D0'.nm (.int v tv)) Dsj)).length ≤ sizeLine := by rw [← hpds]; simp [pds]; omega
          have hsz : ∀ D ∈ uns (stored kvs D0'.nm (.int v tv)) Dsj, D.vs.length + D.hs.length ≤ 1000 ∧ D.ss.length ≤ 1000 := fun D hD => by
            have hD' := (List.mem_filter.mp hD).1
            exact ⟨hWj.wf.sz D hD', by have := hWj.hss D hD'; omega⟩
          have hRP : All2 (RelP (stored kvs D0'.nm (.int v tv))) Dsj Dr := by
            rcases hRel with ⟨z, _⟩ | ⟨_, z⟩
            · cases z
            · exact z
          obtain ⟨hFe, hUr⟩ := relP_split hRP
          rw [hpds]
          repeat k_extra "st"
          rename_i it4
          refine TrC.sel (split_sel (kvs := stored kvs D0'.nm (.int v tv)) (Ds := Dr) (by k_extra "sel")) ?_
          rw [hFe]
          refine' TrC.sel ?hsl2 (pop_loop (n := u + 16) (ctx := [(Str.ofString "variable", .str D0'.nm t3), (Str.ofString "pushdomains", .ref pd), (Str.ofString "self", .ref self), (Str.ofString "solutions", .ref sol), (Str.ofString "single", .bool false)]) (B.deeper _) (R.deeper _) ?hl2 ?hk2 ?hi2 ?hsw2 ?hmc2 ?hctx2 ?hF2 hsz ?hU2 hUr ?_)
          (case hsl2 => k_extra "sel")
          (case hl2 => exact rfl)
          (case hk2 => exact rfl)
          (case hi2 => exact rfl)
          (case hsw2 => exact rfl)
          (case hmc2 => exact rfl)
          (case hctx2 => intro x hx; simp only [List.mem_cons, List.not_mem_nil, or_false] at hx; rcases hx with rfl | rfl | rfl | rfl | rfl <;> (dsimp only; decide))
          (case hF2 => k_extra "fr")
          (case hU2 => simpa [pds] using (show (pds (uns (stored kvs D0'.nm (.int v tv)) Dsj)).length ≤ 1000 by rw [← hpds]; simpa [pds] using hUl))
          intro m2 O hF2 hO
          repeat k_extra "st"
          obtain ⟨Do, hDo, hperm⟩ := merge Dsj hO
          have hPo : PermDs (stored kvs D0'.nm (.int v tv)) Dsj Do := hDo.imp fun D D' r => by
            cases z : asgd (stored kvs D0'.nm (.int v tv)) D.nm with
            | true => rw [r.1 z]; exact PermD.refl D
            | false => exact ⟨(r.2 z).1, (r.2 z).2, fun y => absurd (z.symm.trans y) (by decide)⟩
          refine' ⟨q.length, _, by simp, Sel.refl, p' ++ [v], q, new ++ new2, Do, m2, .int v tv, by rw [hv]; simp, rfl, ?hp, hSol2, hcnt3, ?hs, hF2⟩
          (case hp => exact All2.trans (T := PermD (stored kvs D0'.nm .none)) (fun a b d r s => PermD.trans r (s.mono fun x y => by rw [asgd_stored hu'] at y ⊢; exact y)) hPj hPo)
          (case hs => rw [List.length_append, List.length_singleton]; refine' Sel.trans ?u2 (merge_sel hperm ?v2); (case u2 => k_extra "pull1"); (case v2 => k_extra "sel"))
        · have hPo : PermDs (stored kvs D0'.nm (.int v tv)) Dsj Dr := by
            rcases hRel with ⟨_, z⟩ | ⟨z, _⟩
            · exact z
            · rw [hb] at z; cases z
          repeat k_extra "st"
          refine' ⟨q.length, _, by simp, Sel.refl, p' ++ [v], q, new ++ new2, Dr, _, .int v tv, by rw [hv]; simp, rfl, ?hp, hSol2, hcnt3, ?hs, ?hf⟩
          (case hp => exact All2.trans (T := PermD (stored kvs D0'.nm .none)) (fun a b d r s => PermD.trans r (s.mono fun x y => by rw [asgd_stored hu'] at y ⊢; exact y)) hPj hPo)
          (case hs => rw [List.length_append, List.length_singleton]; k_extra "sel")
          (case hf => k_extra "fr")
end
end
section
theorem asgd_nil (x : Str) : asgd [] x = false := rfl
theorem uns_nil (Ds : List Dm) : uns [] Ds = Ds := by unfold uns; exact List.filter_eq_self.mpr fun D _ => by rw [asgd_nil]; rfl
theorem missg_nil {Ds : List Dm} (h : Ds ≠ []) : missg [] Ds = true := by
  cases Ds with
  | nil => exact absurd rfl h
  | cons D r => rfl
section
variable {mg mb : Str → Option Value} {c : Cx} {X V : List Cell}
theorem rec_solve {fwc : Bool} {k : Cn} {self sd vl dm vcd : Addr} {cons : Value} {nvs : List Value} {Ds : List Dm} {ep : Nat} {Q : Value → List Cell → Prop}
    (B : Bs (hd.heap_39 c.w.params) c mg mb) (R : Rm 40 c.A) (W : Rw Ds.length nvs [] Ds) (h3 : Ds.length ≤ 3) (hk : k.kind < 3) (hf1 : k.fl = none → ∀ D ∈ Ds, D.f = 1)
    (hV : ∀ D ∈ Ds, (D.vc, pList [.ref D.tp]) ∈ V ∧ (D.tp, pTup [.ref k.con, .ref vl]) ∈ V)
    (h : ∀ sol new Ds', IsSolsP (fun g => Ext [] Ds g ∧ SatK k.kind k.M Ds g) (Ds.map (·.nm)) new → new.length ≤ 27 → PermDs [] Ds Ds' → Q (.ref sol) ((sol, pList (srefs new)) :: (scs c new ++ ((self, pInst 225 sd) :: (sd, pAttr 1 (solA fwc)) :: (k.con, pInst (clsOf k.kind) k.cd) :: (k.cd, pAttr 2 (conA (attrOf k.kind) k.M k.tM (mulV k.fl))) :: (vl, pList nvs) :: (dm, pDictE c ep (dmap Ds)) :: (vcd, pDict c (vmap Ds)) :: (flC k.fl Ds ++ (V ++ (dcl Ds' ++ X))))))) :
    TrF c (.ref 222) [.ref self, .ref dm, cons, .ref vcd] ((self, pInst 225 sd) :: (sd, pAttr 1 (solA fwc)) :: (k.con, pInst (clsOf k.kind) k.cd) :: (k.cd, pAttr 2 (conA (attrOf k.kind) k.M k.tM (mulV k.fl))) :: (vl, pList nvs) :: (dm, pDictE c ep (dmap Ds)) :: (vcd, pDict c (vmap Ds)) :: (flC k.fl Ds ++ (V ++ (dcl Ds ++ X)))) Q := by
  refine' tr_callF (binds := [(Str.ofString "self", .ref self), (Str.ofString "domains", .ref dm), (Str.ofString "constraints", cons), (Str.ofString "vconstraints", .ref vcd)]) B R ?ho ?hcd ?hb ?hloc ?_ ?c1 ?c2 ?c3 ?c4
  k_extra "enter"
  intro Lf
  repeat k_extra "st"
  rename_i sol asg
  have h27 : 3 ^ Ds.length ≤ 27 := Nat.le_trans (Nat.pow_le_pow_right (by decide) h3) (by decide)
  refine Tr.sel (by k_extra "sel") (rec_spec Ds.length (V := V) (sols := []) (kvs := []) (B.deeper _) ((R.deeper _).le (by omega)) W (by rw [uns_nil]) hk hf1 hV (by simp; omega) (by simp; omega) (fun q => absurd ((missg_nil W.wf.ne).symm.trans q) (by decide)) ?_).tr
  intro new Ds' hs hn hp
  repeat k_extra "st"
  exact ⟨_, by k_extra "sel", h sol new Ds' hs (Nat.le_trans hn h27) hp⟩
end
end
end Mine
namespace Mine
def Cx.mk' (c : Cx) (C : Addr) (args : List Value) : Cx := { c with A := c.A.under (.builtin "type.__call__" ⟨.ref C :: args, []⟩) }
theorem Rm.mk' {n : Nat} {c : Cx} (R : Rm (n + 1) c.A) (C : Addr) (args : List Value) : Rm n (c.mk' C args).A := by
  obtain ⟨a, b, d⟩ := R
  have e1 : (c.mk' C args).A.depth = c.A.depth + 1 := rfl
  have e2 : (c.mk' C args).A.units ≤ c.A.units + 8 := by
    show c.A.units + _ ≤ _
    refine Nat.add_le_add_left ?_ _
    show (Code.builtin "type.__call__" ⟨.ref C :: args, []⟩).cUnits ≤ 8
    have : (Code.builtin "type.__call__" ⟨.ref C :: args, []⟩).cUnits = 1 ∨ (Code.builtin "type.__call__" ⟨.ref C :: args, []⟩).cUnits = 4 := by first | exact .inl rfl | exact .inr rfl
    omega
  exact ⟨a, by omega, by omega⟩
theorem Bs.mk' {K : Frag} {c : Cx} {mg mb : Str → Option Value} (B : Bs K c mg mb) (C : Addr) (args : List Value) : Bs K (c.mk' C args) mg mb := ⟨B.X, B.g, B.b, B.bi⟩
section
variable {K : Frag} {mg mb : Str → Option Value} {c : Cx} {L : List Cell} {env : Env} {n : Nat} {pos : Pos}
theorem tr_make {C fI : Addr} {args : List Value} {Q : Value → List Cell → Prop} (B : Bs K c mg mb) (hm : makesIn K C = true) (hi : findIn K (.ref C) "__init__" = some (some (.ref fI))) (hf : isFn K (.ref fI) = true)
    (h : ∀ x dx, TrF (c.mk' C args) (.ref fI) (.ref x :: args) ((x, pInst C dx) :: (dx, pAttr 0 fun _ => Option.none) :: L) fun v L' => v = .none ∧ Q (.ref x) L') : TrF c (.ref C) args L Q := by
  intro s H g o
  obtain ⟨hh, gg, d, t, os⟩ := s
  have X := B.X.keeps H.keep
  have H1 := H.push (o := emptyDict) (P := pAttr 0 fun _ => Option.none) ⟨#[], 0, rfl, fun e he => (by simp at he), fun _ => rfl, Nat.le_refl _⟩ rfl
  have H2 := H1.push (o := instObj C hh.objs.size) (P := pInst C hh.objs.size) rfl rfl
  rw [Heap.size_push] at H2
  refine make_core (makes_of X hm) (looks_findIn X hi) (fun self => bind_fn X self (beq_iff_eq.mp hf)) (.inl rfl) ?_
  refine codeAny_mono (h (hh.objs.size + 1) hh.objs.size ⟨(hh.push emptyDict).push (instObj C hh.objs.size), gg, d, t, os⟩ H2 g o) fun r s' z => ?_
  cases r with
  | error e => exact z.elim
  | ok fl => cases fl with
    | ret v => obtain ⟨L', a, b, e, q1, q2⟩ := z; exact ⟨q1, L', a, b, e, q2⟩
    | _ => exact z.elim
theorem tr_callCls {C : Addr} {args : List Expr} {Q : Value → List Cell → Prop} (B : Bs K c mg mb) (hk : keepIn K (.ref C) = true)
    (h : Tr c (spliced (backTo pos (starEach args env))) L fun vs L1 => Tr c (call (.ref C) vs []) L1 Q)
    (hp : (backTo pos (starEach args env)).any (·.1) = false := by rfl) : Tr c (callWith pos (.ref C) [] (backTo pos (starEach args env)) []) L Q := fun s H g o =>
  callWith_of (P := fun h => K.In h) (by rw [hp]; rfl) (keeps_K hk) ((tr_evalArgs (Q := fun a L1 => a.kw = [] ∧ Tr c (call (.ref C) a.pos []) L1 Q) (h.mono fun _ _ q => ⟨rfl, q⟩) hp).use H g o fun a s1 L1 H1 g1 o1 q => ⟨B.X.keeps H1.keep, by rw [q.1]; exact q.2 _ H1 g1 o1⟩)
theorem tr_getMethodT {T : String} {name : Str} {v : Value} {pl : Sem Bool} {Q : Value × List Value → List Cell → Prop} (B : Bs K c mg mb) (ht : typeOf (.type T) = pure (.type "type")) (hs : Manifest.isStub T = false)
    (e : findCls K (.type T) (.type "type") name = some (.val v)) (hh : handedIn v = true) (h : Q (v, []) L) : Tr c (getMethod (.type T) name pl) L Q := fun s H g o => by
  have X := B.X.keeps H.keep
  have hstub : opaqueClassAbove (.type T) = pure none := by unfold opaqueClassAbove; dsimp only; rw [hs]; rfl
  have L0 : Looks (model c.prog c.w) s.heap (typeOf (.type T)) (.type "type") := Looks.of_pure ht
  have hg : findIn K (.type "type") "__getattribute__" = some (some (.builtin "type.__getattribute__")) := type_tga
  unfold getMethod specialOf
  refine wpAny_bind (wpAny_bind (L0.here ((looks_findIn X hg).here ?_)))
  dsimp only
  rw [if_pos canon_tga]
  refine wpAny_bind (wpAny_mono (Q := fun v s' => ∃ L', Own c.h₀ s'.heap L' ∧ c.G s'.gens ∧ s'.os = c.O ∧ Q (v, []) L') (E := fun _ _ => False) ?_ (fun _ _ z => wpAny_pure z) fun _ _ z => z)
  have LO : Looks (model c.prog c.w) s.heap (opaqueClassAbove (.type T)) none := Looks.of_pure hstub
  refine cls_open X LO L0 hg (looks_hook X (r := none) (by rfl)) (by show subIn K _ _ = _; rfl) e
    (wpAny_pure (by show wpAny _ _ (handedOut v) _ _ _; rw [handedOut_of hh]; exact wpAny_pure ⟨L, H, g, o, h⟩))
theorem tr_getMethodC {C f : Addr} {name : Str} {pl : Sem Bool} {mc : Value} {Q : Value × List Value → List Cell → Prop} (B : Bs K c mg mb) (hg : specialIn K (.ref C) "__getattribute__" = some (some (.builtin "type.__getattribute__")))
    (hr : readsIn K C mc = true) (e : findCls K (.ref C) mc name = some (.val (.ref f))) (h : Q (.ref f, []) L) : Tr c (getMethod (.ref C) name pl) L Q := fun s H g o =>
  method_cls (B.X.keeps H.keep) hg (cls_value (B.X.keeps H.keep) hr e rfl ⟨L, H, g, o, h⟩)
end
end Mine
namespace Mine
section
variable {K : Frag} {mg mb : Str → Option Value} {c : Cx} {L : List Cell} {env : Env} {n : Nat} {pos : Pos}
theorem tr_BoolOr {e₁ e₂ : Expr} {rest : List Expr} {Q : Value → List Cell → Prop} (h : Tr c (eval e₁ env) L fun v L1 => Tr c (truthy v) L1 fun b L2 => (b = true → Q v L2) ∧ (b = false → Tr c (eval (.BoolOp .Or (e₂ :: rest) pos) env) L2 Q)) :
    Tr c (eval (.BoolOp .Or (e₁ :: e₂ :: rest) pos) env) L Q := fun s H g o =>
  BoolOp_or (h.use H g o fun v s1 L1 H1 g1 o1 q => q.use H1 g1 o1 fun b s2 L2 H2 g2 o2 q2 => by
    cases b with
    | true => exact ⟨L2, H2, g2, o2, q2.1 rfl⟩
    | false => exact q2.2 rfl _ H2 g2 o2)
theorem tr_mod {a b : Int} {t u : Tok} {Q : Value → List Cell → Prop} (hb : b ≠ 0) (h : ∀ k, Q (.int (a.fmod b) k) L) : Tr c (binaryOp .Mod (.int a t) (.int b u)) L Q := fun s H g o => PySem.AutoIntOps.mod_1 (by simpa using hb) ⟨L, H, g, o, h _⟩
theorem tr_BoolOne {op : BoolOp} {e : Expr} {Q : Value → List Cell → Prop} (h : Tr c (eval e env) L Q) : Tr c (eval (.BoolOp op [e] pos) env) L Q := fun s H g o => BoolOp_one (h s H g o)
theorem tr_truthyInst {k : Nat} {x C d : Addr} {m : Str → Option Value} {Q : Bool → List Cell → Prop} (B : Bs K c mg mb) (hx : (x, pInst C d) ∈ L) (hd : (d, pAttr k m) ∈ L) (hs : findIn K (.ref C) "__bool__" = some none) (hl : findIn K (.ref C) "__len__" = some none) (h : Q true L) : Tr c (truthy (.ref x)) L Q := by
  intro s H g o
  obtain ⟨ox, od, I, _⟩ := H.inst hx pInst_is hd
  have X := B.X.keeps H.keep
  unfold truthy
  refine wpAny_bind (m := callSpecial? (.ref x) (Str.ofString "__bool__")) (wpAny_bind (wpAny_bind (I.type.here ((looks_findIn X hs).here (wpAny_pure ?_)))))
  refine wpAny_bind (wpAny_bind (I.type.here ((looks_findIn X hl).here ?_)))
  exact wpAny_pure ⟨L, H, g, o, h⟩
end
end Mine
namespace Mine
def makesInL (K : Frag) (C : Addr) : Bool := match K.lookup C with
  | some ⟨_, _, .cls cd, sl⟩ => !cd.abstract && !cd.hasDel && (sl.toList[4]?).join == some (.builtin "list.__new__") && !cd.mro.isEmpty && cd.mro.contains (.ref C) && cd.mro.contains (.type "list") &&
      specialIn K (.ref C) "__call__" == some (some (.builtin "type.__call__")) && instIn K (.ref C) (.type "type") == some true
  | _ => false
structure MakesL (M : Model) (h : Heap) (C : Addr) : Prop where
  obj : ∃ oc od cd sl, h.get? C = some ⟨oc, od, .cls cd, sl⟩ ∧ cd.abstract = false ∧ cd.hasDel = false ∧ cd.mro.isEmpty = false
  made : Looks M h (Bind.madeBy (.ref C)) (some "list.__new__")
  base : Looks M h (Bind.staticBase (.ref C)) (.ref C)
  self : Looks M h (isSubtype (.ref C) (.ref C)) true
  top : Looks M h (isSubtype (.ref C) (.type "list")) true
  call : Looks M h (specialOf (.ref C) "__call__") (some (.builtin "type.__call__"))
  typ : Looks M h (isInstance (.ref C) (.type "type")) true
theorem makesL_of {K : Frag} {M : Model} {h : Heap} (X : K.In h) {C : Addr} (e : makesInL K C = true) : MakesL M h C := by
  unfold makesInL at e
  split at e
  · rename_i oc od cd sl ho
    simp only [Bool.and_eq_true, Bool.not_eq_true', beq_iff_eq] at e
    obtain ⟨⟨⟨⟨⟨⟨⟨e1, e2⟩, e3⟩, e4⟩, e5⟩, e6⟩, e7⟩, e8⟩ := e
    have hc : clsIn K C = some cd := by unfold clsIn; rw [ho]
    have hm : Looks M h (mroOf (.ref C)) cd.mro := (looks_clsIn X hc).andThen .now
    obtain ⟨c, l, hl⟩ : ∃ c l, cd.mro = c :: l := by cases q : cd.mro with | nil => rw [q] at e4; cases e4 | cons c l => exact ⟨c, l, rfl⟩
    have made : Looks M h (Bind.madeBy (.ref C)) (some "list.__new__") := by
      intro A Q E s k q
      unfold Bind.madeBy
      refine wpAny_bind (hm A _ E s k ?_)
      rw [hl, List.forIn_cons]
      refine wpAny_bind (wpAny_bind (wpAny_bind (wpAny_bind (wpAny_loadPart (k _ _ (X _ _ ho)) (wpAny_pure ?_)))))
      dsimp only
      rw [← Array.getElem?_toList, e3]
      exact wpAny_pure (wpAny_pure (wpAny_pure q))
    refine ⟨⟨oc, od, cd, sl, X _ _ ho, e1, e2, e4⟩, made, ?_, looks_mroIn X ?_, looks_mroIn X ?_, looks_specialIn X e7, looks_instIn X e8⟩
    · intro A Q E s k q
      unfold Bind.staticBase
      refine wpAny_bind (hm A _ E s k ?_)
      rw [hl, List.forIn_cons]
      exact wpAny_bind (wpAny_bind (wpAny_bind (made A _ E s k (wpAny_pure (wpAny_pure (wpAny_pure q))))))
    · unfold mroIn; rw [hc, Option.bind_some, if_neg (by rw [e4]; decide), e5]
    · unfold mroIn; rw [hc, Option.bind_some, if_neg (by rw [e4]; decide), e6]
  · cases e
abbrev lstObj (C dx : Addr) : Obj := { cls := .ref C, dict := some dx, data := .seq #[] }
theorem ln_kind : builtinKind "list.__new__" = some .builtinFn := by decide +kernel
theorem ln_split : splitId "list.__new__" = some ("list", "__new__") := by decide +kernel
section
variable {prog : Program} {w : World} {A : Around} {K : Frag} {C : Addr} {R : Result → Shared → Prop} {h : Heap} {g : Array GenState} {d : Drawn} {t : Nat} {os : OsState}
theorem new_L {a : Value} (Y : MakesL (model prog w) h C)
    (hq : R (.ok (.ret (.ref (h.objs.size + 1)))) ⟨(h.push emptyDict).push (lstObj C h.objs.size), g, d, t, os⟩) :
    codeAny (model prog w) A (.call (.builtin "list.__new__") ⟨[.ref C, a], []⟩) R ⟨h, g, d, t, os⟩ := by
  obtain ⟨⟨oc, od, cd, sl, hC, e1, e2, e4⟩, made, base, self, top, call, typ⟩ := Y
  refine codeAny_of_tree ?_
  show wpAny _ A.in1 (do checkBuiltinCall "list.__new__" ⟨[.ref C, a], []⟩; again (.builtin "list.__new__" ⟨[.ref C, a], []⟩)) _ _ _
  refine wpAny_bind ?_
  simp only [checkBuiltinCall, ln_kind, ln_split]
  repeat (first | simp only [bne_self_eq_false, Bool.false_eq_true, if_false, Bool.not_true, beq_self_eq_true, if_true] | lk)
  refine ⟨plainId_quiet PySem.F.plain_list_new _, codeAny_builtin_stack PySem.F.entry_list_new rfl fun p st => ?_⟩
  rw [Around.under_plainId PySem.F.plain_list_new _]
  have hown := PySem.owner_list_new
  dsimp only
  simp only [hown]
  repeat (first | simp only [bne_self_eq_false, Bool.false_eq_true, if_false, Bool.not_true, beq_self_eq_true, if_true] | lk)
  refine wpAny_load (Heap.get?_push_of_some _ (Heap.get?_push_of_some _ hC)) (wpAny_pure ?_)
  rw [e2, if_neg Bool.false_ne_true]
  refine wpAny_pure (wpAny_pure ?_)
  show R _ _
  rw [Heap.size_push]
  exact hq
theorem make_coreL {a : Value} {init : Value} (Y : MakesL (model prog w) h C) (hi : Looks (model prog w) h (typeLookup (.ref C) "__init__") (some init))
    (hb : ∀ self, Looks (model prog w) h (bindSpecial init self) (init, [self]))
    (hq : codeAny (model prog w) (A.under (.builtin "type.__call__" ⟨[.ref C, a], []⟩)) (.call init ⟨[.ref (h.objs.size + 1), a], []⟩) (InitBack (h.objs.size + 1) R) ⟨(h.push emptyDict).push (lstObj C h.objs.size), g, d, t, os⟩) :
    codeAny (model prog w) A (.call (.ref C) ⟨[a], []⟩) R ⟨h, g, d, t, os⟩ := by
  have Y' := Y
  obtain ⟨⟨oc, od, cd, sl, hC, e1, e2, e4⟩, made, base, self, top, call, typ⟩ := Y
  refine codeAny_of_tree ?_
  show wpAny _ _ (callAny (.ref C) _) _ _ _
  refine nd_load hC ?_
  show wpAny _ _ (callAny.viaDunder (.ref C) _) _ _ _
  unfold callAny.viaDunder
  refine wpAny_bind (call.at ?_)
  dsimp only
  rw [tc_bind]
  refine wpAny_bind (wpAny_pure (wpAny_bind (wpAny_pure ?_)))
  refine wpAny_pure (a := Fin.again (.call (.builtin "type.__call__") ⟨[.ref C, a], []⟩)) (And.intro rfl ?_)
  refine codeAny_call_builtin_at (Code.quiet_builtin _ (by decide +kernel)) entry_typeCall ?_
  refine' check_slot ?z1 ?z2 ?z3 ?z4 ?_
  (case z1 => exact tc_kind)
  (case z2 => exact tc_split)
  (case z3 => exact typ)
  (case z4 => exact tc_args _ _ _)
  unfold Builtin.«type.__call__»
  have hm : Looks (model prog w) h (mroOf (.ref C)) cd.mro := ((Looks.ld (part := none) hC).andThen .now).andThen .now
  repeat (first | simp only [e4, Bool.false_eq_true, if_false] | with_reducible refine wpAny_call ?_ | lk)
  refine new_L Y' ?_
  have k : ∀ b o, h.get? b = some o → ((h.push emptyDict).push (lstObj C h.objs.size)).get? b = some o := fun b o e => Heap.get?_push_of_some _ (Heap.get?_push_of_some _ e)
  have hx : ((h.push emptyDict).push (lstObj C h.objs.size)).get? (h.objs.size + 1) = some (lstObj C h.objs.size) := by
    have := Heap.get?_push_size (h.push emptyDict) (o := lstObj C h.objs.size) rfl
    rwa [Heap.size_push] at this
  have t1 : Looks (model prog w) ((h.push emptyDict).push (lstObj C h.objs.size)) (typeOf (.ref (h.objs.size + 1))) (.ref C) := (Looks.ld hx).andThen .now
  have s1 := self.keeps k
  have i1 := hi.keeps k
  have b1 := (hb (.ref (h.objs.size + 1))).keeps k
  unfold isInstance callSpecial? specialOf
  repeat (first | with_reducible refine wpAny_call ?_ | lk)
  refine codeAny_mono hq fun r s' z => ?_
  rcases r with e | (v | _ | _ | _) <;> first | exact z | exact z.elim | skip
  obtain ⟨rfl, z⟩ := z
  exact wpAny_pure (wpAny_pure z)
end
section
variable {K : Frag} {mg mb : Str → Option Value} {c : Cx} {L : List Cell} {env : Env} {n : Nat} {pos : Pos}
theorem tr_makeL {C fI : Addr} {a : Value} {Q : Value → List Cell → Prop} (B : Bs K c mg mb) (hm : makesInL K C = true) (hi : findIn K (.ref C) "__init__" = some (some (.ref fI))) (hf : isFn K (.ref fI) = true)
    (h : ∀ x dx, TrF (c.mk' C [a]) (.ref fI) [.ref x, a] ((x, pDomL C dx []) :: (dx, pAttr 0 fun _ => Option.none) :: L) fun v L' => v = .none ∧ Q (.ref x) L') : TrF c (.ref C) [a] L Q := by
  intro s H g o
  obtain ⟨hh, gg, d, t, os⟩ := s
  have X := B.X.keeps H.keep
  have H1 := H.push (o := emptyDict) (P := pAttr 0 fun _ => Option.none) ⟨#[], 0, rfl, fun e he => (by simp at he), fun _ => rfl, Nat.le_refl _⟩ rfl
  have H2 := H1.push (o := lstObj C hh.objs.size) (P := pDomL C hh.objs.size []) ⟨[], .nil, 0, rfl⟩ rfl
  rw [Heap.size_push] at H2
  refine make_coreL (makesL_of X hm) (looks_findIn X hi) (fun self => bind_fn X self (beq_iff_eq.mp hf)) ?_
  refine codeAny_mono (h (hh.objs.size + 1) hh.objs.size ⟨(hh.push emptyDict).push (lstObj C hh.objs.size), gg, d, t, os⟩ H2 g o) fun r s' z => ?_
  cases r with
  | error e => exact z.elim
  | ok fl => cases fl with
    | ret v => obtain ⟨L', a, b, e, q1, q2⟩ := z; exact ⟨q1, L', a, b, e, q2⟩
    | _ => exact z.elim
theorem tr_listInit {x C d b : Addr} {ns : List Int} {L' : List Cell} {Q : Value → List Cell → Prop} (B : Bs K c mg mb) (S : ListSub K C) (U : Upd1 x (pDomL C d []) (pDomL C d ns) L L') (hb : (b, pInts ns) ∈ L) (hz : ns.length ≤ sizeLine)
    (h : Q .none L') : Tr c (call (.builtin "list.__init__") [.ref x, .ref b] []) L Q := fun s H g o => by
  obtain ⟨vs0, k, hv, e⟩ := H.domL U.mem
  cases hv
  obtain ⟨us, k', hu, e'⟩ := H.ints hb
  have hne : b ≠ x := fun q => by subst q; rw [e'] at e; cases e
  refine call_sub (nm := "__init__") (B.X.keeps H.keep) e rfl S.mro (.inr (by decide +kernel)) (by decide +kernel) PySem.F.slot_list_init.plain PySem.F.entry_list_init ?_ (PySem.F.args_list_init_2 _ _)
  show wpAny _ c.A.in1 (do let old ← Builtin.List.listItems (.ref x); Builtin.List.listUpdate (.ref x) (fun _ => #[]); letGo old.toList.reverse; Builtin.List.listExtendWith (.ref x) (.ref b) .none) _ _ s
  refine wpAny_bind ?_
  unfold Builtin.List.listItems
  refine wpAny_bind (wpAny_seqItems e rfl (wpAny_pure ?_))
  show wpAny _ c.A.in1 (updateSeq x (fun _ => #[]) >>= fun _ => letGo (#[] : Array Value).toList.reverse >>= fun _ => Builtin.List.listExtendWith (.ref x) (.ref b) .none) _ _ s
  refine wpAny_bind (wpAny_updateSeq e rfl ?_)
  obtain ⟨k1, e1⟩ := mapSeq_is (cl := .ref C) (di := some d) (xs := (#[] : Array Value)) (k := k) (f := fun _ => (#[] : Array Value)) (vs := []) rfl
  have e2 : (s.heap.update x (Obj.mapSeq (fun _ => (#[] : Array Value)))).get? x = some { cls := .ref C, dict := some d, data := .seq (([] : List Value)).toArray k1, slots := #[] } := (Heap.get?_update_self _ e rfl).trans (congrArg some e1)
  refine wpAny_bind (wpAny_letGo ?_)
  have e3 : (s.heap.update x (Obj.mapSeq (fun _ => (#[] : Array Value)))).get? b = some { cls := .type "list", dict := Option.none, data := .seq us.toArray k', slots := #[] } := (Heap.get?_update_other _ _ (Ne.symm hne)).trans e'
  have key := extend_sub x { cls := .ref C, dict := some d, data := .seq (([] : List Value)).toArray k1, slots := #[] } (#[] : Array Value) k1 b us.toArray k' (by show 0 + us.toArray.size ≤ sizeLine; rw [List.size_toArray, ints_len hu]; omega) rfl
  refine key c.prog c.w c.A (wants (fun v s' => ∃ L', Own c.h₀ s'.heap L' ∧ c.G s'.gens ∧ s'.os = c.O ∧ Q v L') fun _ _ => False) { s with heap := s.heap.update x (Obj.mapSeq (fun _ => (#[] : Array Value))) } ⟨e2, e3, ?_⟩
  refine ⟨L', H.upd U ((Heap.SameBut.update ..).trans (Heap.SameBut.update ..)) (Heap.get?_update_self _ e2 rfl) ?_, g, o, h⟩
  exact ⟨us, hu, mapSeq_is (by simp)⟩
end
end Mine
namespace Mine
open PySem.Builtin PySem.Builtin.ObjectAttr
theorem makesInL_of {K : Frag} {C : Addr} {oc : Value} {od : Option Addr} {cd : ClassData} {sl : Array (Option Value)} (hl : K.lookup C = some ⟨oc, od, .cls cd, sl⟩)
    (h1 : (!cd.abstract && !cd.hasDel && (sl.toList[4]?).join == some (.builtin "list.__new__") && !cd.mro.isEmpty && cd.mro.contains (.ref C) && cd.mro.contains (.type "list")) = true)
    (h2 : specialIn K (.ref C) "__call__" = some (some (.builtin "type.__call__"))) (h3 : instIn K (.ref C) (.type "type") = some true) : makesInL K C = true := by
  unfold makesInL
  rw [hl]
  dsimp only
  rw [h1, h2, h3]
  rfl
theorem refuse_listL (self : Value) : refuseLoop self "__setattr__" [.type "list", .type "object"] = pure () := by kernel_rfl
section
variable {K : Frag} {prog : Program} {w : World} {A : Around} {s : Shared} {x C d : Addr}
theorem osa_openL {ox : Obj} {od : Option Obj} {name : Str} {tk : Tok} {v : Value} {r : Option Value} {cd : ClassData} {R : Result → Shared → Prop} (X : K.In s.heap) (I : InstAt s.heap x ox C od) (hc : clsIn K C = some cd) (ho : cd.mro = [.ref C, .type "list", .type "object"]) (ht : takerIn K C name = some r)
    (h : ∀ b, wpAny (model prog w) A.in1 (match r with | some a => setByDescriptor a (.ref x) v | none => storeInOwnDict (.ref x) (.ref C) (.str name tk) name v b)
      (fun fin s' => match fin with | .done f => R (.ok f) s' | .again c' => c'.quiet = true ∧ codeAny (model prog w) A c' R s') (fun e s' => R (.error e) s') s) :
    codeAny (model prog w) A (.call (.builtin "object.__setattr__") ⟨[.ref x, .str name tk, v], []⟩) R s := by
  have SF := PySem.F.store_object
  have ne : cd.mro.isEmpty = false := by rw [ho]; rfl
  have co : cd.mro.contains (.type "object") = true := by rw [ho]; simp
  have sub : Looks (model prog w) s.heap (isInstance (.ref x) (.type "object")) true := I.type.andThen (looks_mroIn X (by unfold mroIn; rw [hc, Option.bind_some, if_neg (by rw [ne]; decide), co]))
  refine codeAny_call_builtin SF.slot.plain SF.entry (@check_slot (model prog w) _ _ s "object.__setattr__" "object" "__setattr__" (.ref x) [.str name tk, v] [] _ SF.kind SF.split sub (SF.args (.ref x) (.str name tk) v) ?_)
  obtain ⟨attr, ha, hr⟩ := Option.bind_eq_some_iff.mp ht
  have hm : Looks (model prog w) s.heap (mroOf (.ref C)) cd.mro := (looks_clsIn X hc).andThen .now
  have L3 : Looks (model prog w) s.heap (storeTaker? attr) r := by
    cases attr with
    | none => cases hr; exact .now
    | some a =>
      obtain ⟨b, hb, rfl⟩ := Option.map_eq_some_iff.mp hr
      refine (looks_takesIn X hb).andThen ?_
      cases b <;> exact .now
  rw [osa_eq, refuse_eq]
  refine wpAny_bind (wpAny_bind (I.type.here (wpAny_bind (hm.here ?_))))
  rw [ho, refuseLoop_ref, refuse_listL]
  refine wpAny_pure (wpAny_bind (I.type.here (wpAny_bind ((looks_findIn X ha).here (wpAny_bind (L3.here ?_))))))
  exact h _
theorem osa_nsL {o ox : Obj} {od : Option Obj} {cd : ClassData} {k : Nat} {m : Str → Option Value} {name : Str} {tk : Tok} {v : Value} {R : Result → Shared → Prop} (X : K.In s.heap) (I : InstAt s.heap x ox C od) (hod : ox.dict = some d) (ho : s.heap.get? d = some o) (hp' : pAttr k m o) (hz : k ≤ 1000)
    (hc : clsIn K C = some cd) (hmr : cd.mro = [.ref C, .type "list", .type "object"]) (ht : takerIn K C name = some none) (hd' : cd.hasDict = true)
    (h : ∀ h' o', h'.get? d = some o' → pAttr (k + 1) (fun y => if y = name then some v else m y) o' → Heap.SameBut d s.heap h' → R (.ok (.ret .none)) { s with heap := h', toks := s.toks + 1 }) :
    codeAny (model prog w) A (.call (.builtin "object.__setattr__") ⟨[.ref x, .str name tk, v], []⟩) R s := by
  refine osa_openL X I hc hmr ht fun b => ?_
  obtain ⟨hx', hcl, hn', -⟩ := I
  obtain ⟨oc, odi, oda, osl⟩ := ox
  dsimp only at hcl hod
  subst hcl hod
  refine wpAny_bind (wpAny_pure (wpAny_bind (wpAny_bind (wpAny_loadPart hx' (wpAny_bind ((looks_clsIn X hc).here ?_))))))
  rw [hd']
  refine wpAny_pure (a := some d) (wpAny_bind (wpAny_pure (wpAny_bind ?_)))
  refine nsSet_sz ho hp' fun h' o' e' p' hs' => ?_
  obtain ⟨es, ep, hdt, _, _, hz'⟩ := id p'
  exact wpAny_bind (wpAny_lookBehind e' (by rw [hdt]; exact pastItsLine_dict (by rw [sizeLine_eq]; omega)) (wpAny_pure (h h' o' e' p' hs')))
end
section
variable {K : Frag} {mg mb : Str → Option Value} {c : Cx} {L : List Cell}
theorem tr_setAttrL {k : Nat} {x C d : Addr} {cd : ClassData} {P : Obj → Prop} {m : Str → Option Value} {name : Str} {v : Value} {L' : List Cell} {Q : Unit → List Cell → Prop} (B : Bs K c mg mb) (hx : (x, P) ∈ L)
    (hP : ∀ o, P o → o.cls = .ref C ∧ o.dict = some d ∧ notCls o = true) (U : Upd1 d (pAttr k m) (pAttr (k + 1) fun y => if y = name then some v else m y) L L')
    (hs : findIn K (.ref C) "__setattr__" = some (some (.builtin "object.__setattr__"))) (hc : clsIn K C = some cd) (hmr : cd.mro = [.ref C, .type "list", .type "object"]) (ht : takerIn K C name = some none) (hh : cd.hasDict = true)
    (h : Q () L') (hz : k ≤ 1000 := by decide) : Tr c (setAttr (.ref x) name v) L Q := by
  intro s H g o
  obtain ⟨ox, od, I, hl⟩ := H.inst hx hP U.mem
  obtain ⟨oa, ea, pa⟩ := H.at U.mem
  have X := B.X.keeps H.keep
  have hod : ox.dict = some d := by
    obtain ⟨o', e', p'⟩ := H.at hx
    have := I.at_
    rw [e'] at this
    cases this
    exact (hP _ p').2.1
  refine set_plain X I hs (osa_nsL (s := { s with toks := s.toks + 1 }) X I hod ea pa hz hc hmr ht hh fun h' o' e' p' hs' => ?_)
  exact ⟨L', H.upd U hs' e' p', g, o, h⟩
end
end Mine
namespace Mine
open PySem.Builtin PySem.Builtin.ObjectAttr
theorem kind_hasattr : builtinKind "hasattr" = none := by decide +kernel
theorem plain_hasattr : plainId "hasattr" = true := by decide +kernel
theorem entry_hasattr : entryFor table "hasattr" = some Builtin.«hasattr» := entryFor_of_tree (by kernel_rfl)
theorem args_hasattr_2 (a b : Value) : argsOk "hasattr" ⟨[a, b], []⟩ := by unfold argsOk; kernel_rfl
theorem slot_md_get : Slot "method_descriptor" "__get__" "method_descriptor.__get__" :=
  .of (owner := "method_descriptor") (n := "__get__") (by rw [typeLookup_type, builtinLookup_eq_fast]; kernel_rfl) (by decide +kernel) (by decide +kernel) (by decide +kernel)
    (by first | exact .inl (by decide +kernel) | exact .inr (by decide +kernel)) (by rw [isSubtype_type]; kernel_rfl)
theorem lk_md_set : typeLookup (.type "method_descriptor") "__set__" = pure none := by rw [typeLookup_type, builtinLookup_eq_fast]; kernel_rfl
theorem lk_md_delete : typeLookup (.type "method_descriptor") "__delete__" = pure none := by rw [typeLookup_type, builtinLookup_eq_fast]; kernel_rfl
theorem entry_md_get : entryFor table "method_descriptor.__get__" = some Builtin.«method_descriptor.__get__» := entryFor_of_tree (by kernel_rfl)
theorem args_md_get (a b c : Value) : argsOk "method_descriptor.__get__" ⟨[a, b, c], []⟩ := by unfold argsOk; kernel_rfl
theorem own_li : isSubtype (.type "list") (.type (".".intercalate ("list.__getitem__".cutAt '.').dropLast)) = pure true := by
  have e0 : ".".intercalate ("list.__getitem__".cutAt '.').dropLast = "list" := by
    have e0 : "list.__getitem__".cutAt '.' = ["list", "__getitem__"] := by first | rfl | decide +kernel
    rw [e0]; decide +kernel
  rw [e0, isSubtype_type]; kernel_rfl
def bmObj (a : Addr) : Obj := { cls := .type "builtin_function_or_method", data := .fields #[.builtin "list.__getitem__", .ref a] }
section
variable {prog : Program} {w : World} {A : Around} {E : Value → Shared → Prop} {h : Heap} {g : Array GenState} {d : Drawn} {t : Nat} {os : OsState} {a : Addr} {o : Obj} {its : Array Value} {n : Nat}
theorem gi_bind {R : Result → Shared → Prop} (hx : h.get? a = some o) (hc : o.cls = .type "list") (hq : R (.ok (.ret (.ref h.objs.size))) ⟨h.push (bmObj a), g, d, t, os⟩) :
    codeAny (model prog w) A (.call (.builtin "method_descriptor.__get__") ⟨[.builtin "list.__getitem__", .ref a, .type "list"], []⟩) R ⟨h, g, d, t, os⟩ := by
  have hT : (⟨h, g, d, t, os⟩ : Shared).TypeIs (.ref a) "list" := ⟨_, hx, hc⟩
  have hT5 : (⟨h, g, d, t, os⟩ : Shared).TypeIs (.builtin "list.__getitem__") "method_descriptor" := PySem.F.type_list_getitem
  have f8 := own_li
  refine codeAny_call_builtin slot_md_get.plain entry_md_get (slot_md_get.check _ _ _ _ _ _ _ _ hT5 (args_md_get _ _ _) ?_)
  repeat (any_goals (first | assumption | wp_step))
theorem gi_entry {tk : Tok} {Q : Fin → Shared → Prop} (hx : h.get? a = some { cls := .type "list", dict := none, data := .seq its n, slots := #[] }) (hq : Q (.done (.ret (.ref h.objs.size))) ⟨h.push (bmObj a), g, d, t, os⟩) :
    wpAny (model prog w) A (Builtin.«object.__getattribute__» ⟨[.ref a, .str "__getitem__" tk], []⟩) Q E ⟨h, g, d, t, os⟩ := by
  have hT : (⟨h, g, d, t, os⟩ : Shared).TypeIs (.ref a) "list" := ⟨_, hx, rfl⟩
  have hT5 : (⟨h, g, d, t, os⟩ : Shared).TypeIs (.builtin "list.__getitem__") "method_descriptor" := PySem.F.type_list_getitem
  have f4 := PySem.F.slot_list_getitem.lookup
  have f5 := PySem.F.type_list_getitem
  have f6 := slot_md_get.lookup
  have f7 := lk_md_set
  have f8 := lk_md_delete
  have f9 : copiedAttributeGuard (Str.ofString "__getitem__") (Value.ref a) = pure () := by first | rfl | kernel_rfl
  repeat (any_goals (first | assumption | wp_step))
  refine gi_bind hx rfl ?_
  repeat (any_goals (first | assumption | wp_step))
theorem gi_call {tk : Tok} {R : Result → Shared → Prop} (hx : h.get? a = some { cls := .type "list", dict := none, data := .seq its n, slots := #[] }) (hq : R (.ok (.ret (.ref h.objs.size))) ⟨h.push (bmObj a), g, d, t, os⟩) :
    codeAny (model prog w) A (.call (.builtin "list.__getattribute__") ⟨[.ref a, .str "__getitem__" tk], []⟩) R ⟨h, g, d, t, os⟩ :=
  codeAny_call_builtin F.slot_list_getattribute.plain F.entry_list_ga (F.slot_list_getattribute.check _ _ _ _ _ _ _ _ (show (⟨h, g, d, t, os⟩ : Shared).TypeIs (.ref a) "list" from ⟨_, hx, rfl⟩) (F.args_list_getattribute_2 _ _) (gi_entry hx hq))
theorem gi_by {tk : Tok} {Q : Value → Shared → Prop} (hx : h.get? a = some { cls := .type "list", dict := none, data := .seq its n, slots := #[] }) (hq : Q (.ref h.objs.size) ⟨h.push (bmObj a), g, d, t, os⟩) : wpAny (model prog w) A (getAttrBy (.ref a) (.str "__getitem__" tk) false) Q E ⟨h, g, d, t, os⟩ := by
  have hT : (⟨h, g, d, t, os⟩ : Shared).TypeIs (.ref a) "list" := ⟨_, hx, rfl⟩
  have f2 := F.slot_list_getattribute.lookup
  have f3 := F.slot_list_getattribute.bind (.ref a)
  repeat (any_goals (first | assumption | wp_step))
  refine gi_call hx ?_
  repeat (any_goals (first | assumption | wp_step))
theorem ha_entry {tk : Tok} {Q : Fin → Shared → Prop} (hx : h.get? a = some { cls := .type "list", dict := none, data := .seq its n, slots := #[] }) (hq : Q (.done (.ret (.bool true))) ⟨h.push (bmObj a), g, d, t, os⟩) :
    wpAny (model prog w) A (Builtin.«hasattr» ⟨[.ref a, .str "__getitem__" tk], []⟩) Q E ⟨h, g, d, t, os⟩ := by
  have hT : (⟨h, g, d, t, os⟩ : Shared).TypeIs (.ref a) "list" := ⟨_, hx, rfl⟩
  have f4 := PySem.F.slot_list_getitem.lookup
  have f10 := F.slot_list_getattribute.lookup
  have f11 : isSubtype (.type "list") (.type "module") = pure false := by rw [isSubtype_type]; kernel_rfl
  unfold Builtin.«hasattr»
  repeat (any_goals (first | assumption | with_reducible apply gi_by hx | wp_step))
end
section
variable {K : Frag} {mg mb : Str → Option Value} {c : Cx} {L : List Cell}
theorem tr_hasattrInts {a : Addr} {ns : List Int} {tk : Tok} {Q : Value → List Cell → Prop} (ha : (a, pInts ns) ∈ L) (h : Q (.bool true) L) : Tr c (call (.builtin "hasattr") [.ref a, .str "__getitem__" tk] []) L Q := fun s H g o => by
  obtain ⟨vs, k, hv, e⟩ := H.ints ha
  obtain ⟨hh, gg, d, t, os⟩ := s
  refine Calls.call_function_entry kind_hasattr plain_hasattr entry_hasattr (args_hasattr_2 _ _) ?_
  refine ha_entry e ⟨_, rfl, ?_⟩
  refine ⟨L, ?_, g, o, h⟩
  have H2 := H.push (o := bmObj a) (P := fun o => o = bmObj a) rfl rfl
  exact H2.sel ⟨[_], List.perm_append_comm (l₁ := [_])⟩
theorem tr_isinstance {x C D d : Addr} {Q : Value → List Cell → Prop} (B : Bs K c mg mb) (hx : (x, pInst C d) ∈ L) (hi : isIn K (.ref C) D = true) (h : Q (.bool true) L) : Tr c (call (.builtin "isinstance") [.ref x, .ref D] []) L Q := fun s H g o => by
  obtain ⟨ob, e, rfl⟩ := H.at hx
  exact isi_call (B.X.keeps H.keep) (t := .ref C) (fun M => (Looks.ld e).andThen .now) hi (by simp) ⟨L, H, g, o, h⟩
end
end Mine
namespace Mine
def pVView (d : Addr) (o : Obj) : Prop := o.cls = .type "dict_values" ∧ o.data = .fields #[.ref d]
def pVIter (d : Addr) (i n ep : Nat) (o : Obj) : Prop := o.cls = .type "dict_valueiterator" ∧ o.data = .fields #[.ref d, .int i 0, .int n 0, .int ep 0]
section
variable {K : Frag} {mg mb : Str → Option Value} {c : Cx} {L : List Cell} {env : Env} {n : Nat} {pos : Pos}
theorem tr_dictValues {d : Addr} {ep : Nat} {kvs : List (Str × Value)} {Q : Value → List Cell → Prop} (hd : (d, pDictE c ep kvs) ∈ L) (h : ∀ a, Q (.ref a) ((a, pVView d) :: L)) : Tr c (call (.builtin "dict.values") [.ref d] []) L Q := fun s H g o => by
  have hD := H.dictP hd pDictE_dict
  exact call_meetsIn PySem.F.slot_dict_values hD.typeIs PySem.F.entry_dict_values (PySem.F.args_dict_values_1 _) (meets_dict_values (PySem.strKind c.prog c.w) d (H.noSys hd)) ⟨⟨kvs, hD⟩, ⟨_, H.push (P := pVView d) ⟨rfl, rfl⟩ rfl, g, o, h _⟩⟩
theorem tr_iterVals {v d : Addr} {ep : Nat} {kvs : List (Str × Value)} {Q : Value → List Cell → Prop} (hv : (v, pVView d) ∈ L) (hd : (d, pDictE c ep kvs) ∈ L) (h : ∀ it, Q (.ref it) ((it, pVIter d 0 kvs.length ep) :: L)) : Tr c (pyIter (.ref v)) L Q := fun s H g o => by
  obtain ⟨ov, ev, p1, p2⟩ := H.at hv
  exact wpAny_pyIter_values (knd := PySem.strKind c.prog c.w) ⟨ov, ev, p1, p2⟩ (H.dictE hd) ⟨_, H.push (P := pVIter d 0 kvs.length ep) ⟨rfl, rfl⟩ rfl, g, o, h _⟩
theorem tr_nextVal {it d : Addr} {i ep m : Nat} {kvs : List (Str × Value)} {k : Str} {v : Value} {L' : List Cell} {Q : Option Value → List Cell → Prop} (U : Upd1 it (pVIter d i m ep) (pVIter d (i + 1) m ep) L L') (hd : (d, pDictE c ep kvs) ∈ L) (hm : m = kvs.length) (hx : kvs[i]? = some (k, v))
    (h : Q (some v) L') : Tr c (pyNext (.ref it)) L Q := fun s H g o => by
  subst hm
  obtain ⟨oi, ei, p1, p2⟩ := H.at U.mem
  refine wpAny_pyNext_values_item (knd := PySem.strKind c.prog c.w) ⟨oi, ei, p1, p2⟩ (H.dictE hd) hx fun h' hi hs => ?_
  obtain ⟨o', e', r1, r2⟩ := hi
  exact ⟨L', H.upd U hs e' ⟨r1, r2⟩, g, o, h⟩
theorem tr_nextValEnd {it d : Addr} {i ep m : Nat} {kvs : List (Str × Value)} {L' : List Cell} {Q : Option Value → List Cell → Prop} (R : Rm n c.A) (U : Rem1 it (pVIter d i m ep) L L') (hd : (d, pDictE c ep kvs) ∈ L) (hm : m = kvs.length) (hx : kvs[i]? = Option.none)
    (h : Q Option.none L') : Tr c (pyNext (.ref it)) L Q := fun s H g o => by
  subst hm
  obtain ⟨oi, ei, p1, p2⟩ := H.at U.mem
  exact wpAny_pyNext_values_end (knd := PySem.strKind c.prog c.w) R.hd ⟨oi, ei, p1, p2⟩ (H.dictE hd) hx fun h' hs => ⟨L', (H.perm U.perm).extBut hs, g, o, h⟩
theorem Own.grown {h₀ h h' : Heap} {L : List Cell} (H : Own h₀ h L) {o' : Obj} {P : Obj → Prop} (hk : ∀ b o, h.get? b = some o → h'.get? b = some o) (e' : h'.get? h.objs.size = some o') (p' : P o') : Own h₀ h' ((h.objs.size, P) :: L) := by
  refine ⟨fun b o e => hk b o (H.keep b o e), fun c' m' => ?_, fun c' m' => ?_, fun c' m' => ?_, ?_, H.lim⟩
  · rcases List.mem_cons.mp m' with rfl | m'
    · exact ⟨o', e', p'⟩
    · obtain ⟨o2, e2, p2⟩ := H.has c' m'
      exact ⟨o2, hk _ _ e2, p2⟩
  · rcases List.mem_cons.mp m' with rfl | m'
    · exact H.none
    · exact H.new c' m'
  · rcases List.mem_cons.mp m' with rfl | m'
    · exact H.two
    · exact H.hi c' m'
  · rw [List.map_cons, List.nodup_cons]
    refine ⟨fun hm => ?_, H.nd⟩
    obtain ⟨c', hc, e⟩ := List.mem_map.mp hm
    exact absurd (H.lt hc) (by rw [e]; exact Nat.lt_irrefl _)
theorem tr_listDict {d : Addr} {ep : Nat} {kvs : List (Str × Value)} {Q : Value → List Cell → Prop} (R : Rm n c.A) (hd : (d, pDictE c ep kvs) ∈ L) (hz : kvs.length ≤ sizeLine) (h : ∀ a vs, vs.length = kvs.length → Q (.ref a) ((a, pList vs) :: L)) : Tr c (call (.type "list") [.ref d] []) L Q := fun s H g o => by
  refine kdl_call (kdl_dict (knd := PySem.strKind c.prog c.w) (kvs := kvs) (ep := ep) (H.noSys hd)) R.hd (H.dictE hd) hz fun h' tk acc' c' hk hD hacc => ?_
  exact ⟨(s.heap.objs.size, pList acc'.toList) :: L, H.grown hk hD ⟨c', by rw [Array.toArray_toList]⟩, g, o, h _ _ (by rw [Array.length_toList]; exact hacc.1)⟩
end
end Mine
namespace Mine
def Cx.ov (c : Cx) (A : Around) (code : Code) (fs : List Frame) : Cx := { c with A := A.over code fs }
theorem Bs.ov {K : Frag} {c : Cx} {mg mb : Str → Option Value} (B : Bs K c mg mb) (A : Around) (code : Code) (fs : List Frame) : Bs K (c.ov A code fs) mg mb := ⟨B.X, B.g, B.b, B.bi⟩
def okC : Code → Bool
  | .func .. | .whileLoop .. | .forLoop .. | .block .. => true
  | _ => false
def okF : Frame → Bool
  | .ret _ none _ _ c _ _ => okC c
  | _ => false
theorem okC_weight {c : Code} (h : okC c = true) : c.weight ≤ 1 := by
  cases c <;> first | (cases h; done) | decide | (simp [Code.weight, Code.frames, Code.isFrame, Code.isCreation, Code.isGuard, Code.isCaller])
theorem okC_units {c : Code} (h : okC c = true) : c.cUnits ≤ 3 := by
  cases c <;> first | (cases h; done) | decide | (simp [Code.cUnits, Code.frames, Code.isFrame])
theorem okF_sum : ∀ {fs : List Frame}, fs.all okF = true → frameCount (fs.map Frame.where_) ≤ fs.length ∧ unitsOf (fs.map Frame.where_) ≤ 3 * fs.length ∧ ∀ x, marksOver fs x = x
  | [], _ => ⟨Nat.le_refl _, Nat.le_refl _, fun _ => rfl⟩
  | .ret k h g l c p kp :: fs, e => by
    rw [List.all_cons, Bool.and_eq_true] at e
    obtain ⟨a, b⟩ := e
    obtain ⟨i1, i2, i3⟩ := okF_sum b
    cases h with
    | some _ => cases a
    | none =>
      have hc : okC c = true := a
      have h1 := okC_weight hc
      have h2 := okC_units hc
      refine ⟨?_, ?_, fun x => ?_⟩
      · rw [List.map_cons, List.length_cons]; show frameCount ((c, p) :: _) ≤ _; rw [frameCount_cons]; omega
      · rw [List.map_cons, List.length_cons]; show unitsOf ((c, p) :: _) ≤ _; rw [unitsOf_cons]; omega
      · show Frame.marks (.ret k none g l c p kp) (marksOver fs x) = x; rw [i3]; rfl
  | .gen .. :: fs, e => by rw [List.all_cons, Bool.and_eq_true] at e; cases e.1
theorem Rm.over {n : Nat} {A : Around} {code : Code} {fs : List Frame} (hc : okC code = true) (hf : fs.all okF = true) (R : Rm (n + 1 + fs.length) A) : Rm n (A.over code fs) := by
  obtain ⟨i1, i2, i3⟩ := okF_sum hf
  have h1 := okC_weight hc
  have h2 := okC_units hc
  have r2 := R.dp
  have r3 := R.un
  refine ⟨?_, ?_, ?_⟩
  · show (marksOver fs (A.handled, A.handled)).1 = none; rw [i3]; exact R.hd
  · show A.depth + frameCount (fs.map Frame.where_) + code.weight + n ≤ 600; omega
  · show A.units + unitsOf (fs.map Frame.where_) + code.cUnits + 8 * n ≤ 8000; omega

def Sg (c : Cx) (A : Around) (R : GenEnd) (Y : Protocol) (n : Nat) (code : Code) (fs : List Frame) (t : Sem Fin) (L : List Cell) : Prop :=
  ∀ s₀ s : Shared, Own c.h₀ s.heap L → c.G s.gens → s.os = c.O → Seg (model c.prog c.w) A R Y n s₀ code t fs s
def bk (env : Env) (K : Flow → Sem Fin) (H : Value → Sem Fin) (gd : Bool → Bool) (lv : List Value → List Value) : Result → Sem Fin := fun r =>
  ((match r with | .ok f => (.pure f : Sem Flow) | .error e => .raise e).onRaise fun (x : Value) => do
    if (← field x 1) == Value.none then unsupported "frame.own-activation:exception-without-traceback"
    setFlight x env.frame).wrap K H gd lv
def wK (test : Expr) (body orelse : List Stmt) (env : Env) : Flow → Sem Fin
  | .next | .cont => .pure (.again (.whileLoop test body orelse env))
  | .brk => .pure (.done .next)
  | .ret v => .pure (.done (.ret v))
def lH (env : Env) : Value → Sem Fin := fun e => (do noteFrame e env; theTreesLotGoes e : Sem Unit).wrap (fun _ => .raise e) .raise id id
def fK : Flow → Sem Fin := fun f => .pure (.done (.ret (match f with | .ret v => v | _ => .none)))
def fH (env : Env) : Value → Sem Fin := fun e => (leaving env e).wrap (fun _ => .raise e) .raise id id
section
variable {c : Cx} {A : Around} {R : GenEnd} {Y : Protocol} {n : Nat} {code : Code} {fs : List Frame} {L : List Cell} {env : Env}
  {K : Flow → Sem Fin} {H : Value → Sem Fin} {gd : Bool → Bool} {lv : List Value → List Value}
theorem Sg.sel {t : Sem Fin} {L' : List Cell} (x : Sel L' L) (h : Sg c A R Y n code fs t L') : Sg c A R Y n code fs t L := fun s₀ s H g o => h s₀ s (H.sel x) g o
theorem sg_wrap {α : Type} {m : Sem α} {K : α → Sem Fin} {H : Value → Sem Fin} (h : Tr (c.ov A code fs) m L fun a L' => Sg c A R Y n code fs (K a) L') : Sg c A R Y n code fs (m.wrap K H gd lv) L :=
  fun s₀ s Hh g o => seg_wrap (wpAny_mono (h s Hh g o) (fun a s' ⟨L', H', g', o', q⟩ => q s₀ s' H' g' o') fun _ _ x => x.elim)
theorem bind_wrap {α β : Type} (m : Sem α) (f : α → Sem β) (K : β → Sem Fin) (H : Value → Sem Fin) : (m >>= f).wrap K H gd lv = m.wrap (fun a => (f a).wrap K H gd lv) H gd lv := by
  rw [Sem.bind_eq_wrap', Sem.wrap_wrap]; rfl
theorem sg_nil (h : Sg c A R Y n code fs (K .next) L) : Sg c A R Y n code fs ((execs [] env).wrap K H gd lv) L := h
theorem sg_cons {st : Stmt} {rest : List Stmt} (h : Tr (c.ov A code fs) (exec st env) L (Nx (fun L' => Sg c A R Y n code fs ((execs rest env).wrap K H gd lv) L') fun f L' => Sg c A R Y n code fs (K f) L')) :
    Sg c A R Y n code fs ((execs (st :: rest) env).wrap K H gd lv) L := by
  rw [PySem.execs_cons_wrap]; exact sg_wrap (h.mono fun f L' q => by cases f <;> exact q)
def hK (rest : List Stmt) (env : Env) (K : Flow → Sem Fin) (H : Value → Sem Fin) (gd : Bool → Bool) (lv : List Value → List Value) : Flow → Sem Fin
  | .next => (execs rest env).wrap K H gd lv
  | f => K f
theorem sg_head {st : Stmt} {rest : List Stmt} (h : Sg c A R Y n code fs ((exec st env).wrap (hK rest env K H gd lv) H gd lv) L) : Sg c A R Y n code fs ((execs (st :: rest) env).wrap K H gd lv) L := by
  rw [PySem.execs_cons_wrap]
  exact Eq.mpr (congrArg (fun t => Sg c A R Y n code fs t L) (Sem.wrap_congr (exec st env) (K' := hK rest env K H gd lv) (H' := H) gd lv (fun f => by cases f <;> rfl) fun _ => rfl)) h
theorem sg_While {test : Expr} {body orelse : List Stmt} {pos : Pos}
    (h : ∀ p, Sg c A R Y n (.whileLoop test body orelse env) (.ret (bk env K H gd lv) none (gd false) (lv []) code p [] :: fs) ((model c.prog c.w).den (.whileLoop test body orelse env)) L) :
    Sg c A R Y n code fs ((exec (.While test body orelse pos) env).wrap K H gd lv) L := fun s₀ s Hh g o => seg_While fun p => h p s₀ s Hh g o
theorem sg_pop {code₁ : Code} {p₁ : Pos} {g : Bool} {l : List Value} {f : Flow} (h : Sg c A R Y n code₁ fs (K f) L) : Sg c A R Y n code (.ret (bk env K H gd lv) none g l code₁ p₁ [] :: fs) (.pure (.done f)) L :=
  fun s₀ s Hh g o => seg_leaf (.ok f) (h s₀ s Hh g o)
theorem sg_again {c' : Code} (hq : c'.quiet = true) (h : Sg c A R Y n c' fs ((model c.prog c.w).den c') L) : Sg c A R Y n code fs (.pure (.again c')) L := fun s₀ s Hh g o => seg_again hq (h s₀ s Hh g o)
theorem sg_whileLoop {test : Expr} {body orelse : List Stmt} (I : Nat → List Cell → Prop)
    (turn : ∀ k n L, k ≤ n → I k L → (∀ m n' L', m < k → m ≤ n' → I m L' → Sg c A R Y n' (.whileLoop test body orelse env) fs (.pure (.again (.whileLoop test body orelse env))) L') →
      Tr (c.ov A (.whileLoop test body orelse env) fs) (isTrue test env (eval test env)) L fun b L1 =>
        (b = true → Sg c A R Y n (.whileLoop test body orelse env) fs ((execs body env).wrap (wK test body orelse env) (lH env) id id) L1) ∧
        (b = false → Sg c A R Y n (.whileLoop test body orelse env) fs ((execs orelse env).wrap (fun f => .pure (.done f)) (lH env) id id) L1))
    (hq : (Code.whileLoop test body orelse env).quiet = true := by rfl) :
    ∀ (k n : Nat) (L : List Cell), k ≤ n → I k L → Sg c A R Y n (.whileLoop test body orelse env) fs ((model c.prog c.w).den (.whileLoop test body orelse env)) L := by
  intro k
  induction k using Nat.strongRecOn with | _ k ih => ?_
  intro n L hkn hI s₀ s Hh g o
  refine seg_whileLoop (wpAny_mono (turn k n L hkn hI (fun m n' L' hm hn hI' => sg_again hq (ih m hm n' L' hn hI')) s Hh g o) (fun b s' ⟨L', H', g', o', q⟩ => ?_) fun _ _ x => x.elim)
  cases b with
  | true =>
    rw [if_pos rfl]
    have := q.1 rfl s₀ s' H' g' o'
    rw [show wK test body orelse env = (fun f => match f with
            | .next | .cont => .pure (.again (.whileLoop test body orelse env))
            | .brk => .pure (.done .next)
            | .ret v => .pure (.done (.ret v))) from funext fun f => by cases f <;> rfl] at this
    exact this
  | false => rw [if_neg Bool.false_ne_true]; exact q.2 rfl s₀ s' H' g' o'
theorem Tr.onRaise {c : Cx} {α : Type} {m : Sem α} {k : Value → Sem Unit} {L : List Cell} {Q : α → List Cell → Prop} (h : Tr c m L Q) : Tr c (m.onRaise k) L Q := fun s H g o =>
  wpAny_onRaise (wpAny_mono (h s H g o) (fun _ _ x => x) fun _ _ x => x.elim)
theorem sg_For {target iter : Expr} {body orelse : List Stmt} {pos : Pos}
    (h : Tr (c.ov A code fs) (eval iter env) L fun x L1 => Tr (c.ov A code fs) (pyIter x) L1 fun it L2 => ∀ p, Sg c A R Y n (.forLoop target it body orelse env) (.ret (bk env K H gd lv) none (gd false) (lv []) code p [] :: fs) ((model c.prog c.w).den (.forLoop target it body orelse env)) L2)
    (hs : ∀ x, foldedSetIterable iter env x = pure x := by intro _; rfl) :
    Sg c A R Y n code fs ((exec (.For target iter body orelse pos) env).wrap K H gd lv) L := by
  rw [exec_For, bind_wrap]
  refine sg_wrap (Tr.standAt ?_)
  rw [bind_wrap]
  refine sg_wrap (h.mono fun x L1 q => ?_)
  rw [hs x, bind_wrap]
  refine sg_wrap (Tr.pure' ?_)
  rw [bind_wrap]
  refine sg_wrap (Tr.standAt ?_)
  rw [bind_wrap]
  refine sg_wrap (Tr.holding (q.mono fun it L2 r => ?_))
  exact fun s₀ s Hh g o => seg_call fun p => r p s₀ s Hh g o
theorem sg_block {b : List Stmt} (h : Sg c A R Y n (.block b env) fs ((execs b env).wrap (fun f => .pure (.done f)) (lH env) id id) L) : Sg c A R Y n (.block b env) fs ((model c.prog c.w).den (.block b env)) L := by
  show Sg c A R Y n _ fs (((execs b env).onRaise (fun x => do noteFrame x env; theTreesLotGoes x)) >>= fun f => (pure (Fin.done f) : Sem Fin)) L
  rw [Sem.bind_eq_wrap', Sem.onRaise_eq_wrap, Sem.wrap_wrap]
  exact Eq.mpr (congrArg (fun t => Sg c A R Y n (.block b env) fs t L) (Sem.wrap_congr (execs b env) (K' := fun f => .pure (.done f)) (H' := lH env) _ _ (fun f => rfl) (fun e => by
    rw [Sem.bind_eq_wrap, Sem.wrap_wrap]; rfl))) h
theorem sg_forLoop {target : Expr} {it : Value} {body orelse : List Stmt} (I : Nat → List Cell → Prop)
    (turn : ∀ k L, I k L → Tr (c.ov A (.forLoop target it body orelse env) fs) (pyNext it) L fun r L1 => match r with
      | none => Sg c A R Y n (.block orelse env) fs ((execs orelse env).wrap (fun f => .pure (.done f)) (lH env) id id) L1
      | some v => Tr (c.ov A (.forLoop target it body orelse env) fs) (letOwnedTupleGo target it v) L1 fun _ L2 => Tr (c.ov A (.forLoop target it body orelse env) fs) (assign target env v) L2 fun _ L3 =>
          Tr (c.ov A (.forLoop target it body orelse env) fs) (execs body env) L3 fun f L4 => match f with
          | .next | .cont => ∃ m L5, m < k ∧ Sel L5 L4 ∧ I m L5
          | .brk => Sg c A R Y n (.forLoop target it body orelse env) fs (.pure (.done .next)) L4
          | .ret v => Sg c A R Y n (.forLoop target it body orelse env) fs (.pure (.done (.ret v))) L4)
    (hq : (Code.forLoop target it body orelse env).quiet = true := by rfl) (hq2 : (Code.block orelse env).quiet = true := by rfl) :
    ∀ (k : Nat) (L : List Cell), I k L → Sg c A R Y n (.forLoop target it body orelse env) fs ((model c.prog c.w).den (.forLoop target it body orelse env)) L := by
  intro k
  induction k using Nat.strongRecOn with | _ k ih => ?_
  intro L hI
  show Sg c A R Y n _ fs ((forTurn target it body orelse env).onRaise (fun x => do noteFrame x env; theTreesLotGoes x)) L
  rw [Sem.onRaise_eq_wrap]
  unfold forTurn
  rw [bind_wrap]
  refine sg_wrap (Tr.standAt ?_)
  rw [bind_wrap]
  refine sg_wrap (Tr.onRaise ((turn k L hI).mono fun r L1 q => ?_))
  cases r with
  | none => exact sg_again hq2 (sg_block q)
  | some v =>
    dsimp only at q ⊢
    rw [bind_wrap]
    refine sg_wrap (q.mono fun _ L2 q2 => ?_)
    rw [bind_wrap]
    refine sg_wrap (q2.mono fun _ L3 q3 => ?_)
    rw [bind_wrap]
    refine sg_wrap (q3.mono fun f L4 q4 => ?_)
    cases f with
    | next => obtain ⟨m, L5, hm, hs, hI'⟩ := q4; exact sg_again hq (Sg.sel hs (ih m hm L5 hI'))
    | cont => obtain ⟨m, L5, hm, hs, hI'⟩ := q4; exact sg_again hq (Sg.sel hs (ih m hm L5 hI'))
    | brk => exact q4
    | ret v => exact q4
theorem sg_func {body : List Stmt} (h : Sg c A R Y n (.func body env) fs ((execs body env).wrap fK (fH env) id id) L) : Sg c A R Y n (.func body env) fs ((model c.prog c.w).den (.func body env)) L :=
  fun s₀ s Hh g o => seg_func (h s₀ s Hh g o)

def pGen (g : Nat) (o : Obj) : Prop := ∃ nm qn, o.cls = .type "generator" ∧ o.data = .fields #[.int g 0, nm, qn] ∧ o.slots = #[]
def PY (c : Cx) (a : Addr) (g : Nat) (S : Addr) : Protocol := fun _ _ v s' kap => ∃ acc L, Own c.h₀ s'.heap ((S, pList acc) :: L) ∧ c.G s'.gens ∧ s'.os = c.O ∧ acc.length < 1000 ∧ (a, pGen g) ∈ L ∧
  ∀ s'', Own c.h₀ s''.heap ((S, pList (acc ++ [v])) :: L) → c.G s''.gens → s''.os = c.O → kap (.send .none) s''
def PR (c : Cx) (S : Addr) (Fi : List Value → List Cell → Prop) : GenEnd := fun _ _ r s' => r = .ok (.ret .none) ∧ ∃ acc L, Own c.h₀ s'.heap ((S, pList acc) :: L) ∧ c.G s'.gens ∧ s'.os = c.O ∧ Fi acc L
theorem sg_yield {S a : Addr} {g : Nat} {e : Expr} {ypos pos : Pos} (hfs : splitAtGen fs = none) (hgd : gd false = false) (hfg : fs.any Frame.guarded = false)
    (h : Tr (c.ov A code fs) (eval e env) L fun v L1 => ∃ acc L2, acc.length < 1000 ∧ (a, pGen g) ∈ L2 ∧ Sel ((S, pList acc) :: L2) L1 ∧ Sg c A R (PY c a g S) n code fs (K .next) ((S, pList (acc ++ [v])) :: L2))
    (hco : env.scope.isCoroutine = false := by rfl) (hi : interactive env = false := by rfl) :
    Sg c A R (PY c a g S) (n + 1) code fs ((exec (.Expr (.Yield (some e) ypos) pos) env).wrap K H gd lv) L := fun s₀ s Hh g' o =>
  seg_Expr_Yield hfs hgd hfg (wpAny_mono (h s Hh g' o) (fun v s' ⟨L1, H1, g1, o1, acc, L2, ha, hm, sl, q⟩ kap hk =>
    ⟨acc, L2, H1.sel sl, g1, o1, ha, hm, fun s'' H2 g2 o2 => hk .none s'' (q s'' s'' H2 g2 o2)⟩) fun _ _ x => x.elim) hco hi
theorem sg_end {S : Addr} {Fi : List Value → List Cell → Prop} {acc : List Value} {L2 : List Cell} (sl : Sel ((S, pList acc) :: L2) L) (h : Fi acc L2) :
    Sg c A (PR c S Fi) Y n code [] (.pure (.done (.ret .none))) L := fun s₀ s Hh g o => seg_end (.ok (.ret .none)) ⟨rfl, acc, L2, Hh.sel sl, g, o, h⟩
end
end Mine
namespace Mine
theorem Rm.in1 {n : Nat} {A : Around} (R : Rm (n + 1) A) : Rm n A.in1 := ⟨R.hd, Nat.le_trans (by show A.depth + n ≤ A.depth + (n + 1); omega) R.dp, Nat.le_trans (by show A.units + 1 + 8 * n ≤ A.units + 8 * (n + 1); omega) R.un⟩
theorem Own.callC {c : Cx} {L : List Cell} {s s₁ : Shared} {Lf : Addr} {binds : List (Str × Value)} {kind : Str → Option NameKind} {mL cm : Str → Option Value} {cs : List (Str × Addr)} (H : Own c.h₀ s.heap L) (hLf : Lf = s.heap.objs.size)
    (hnd : ∀ p ∈ cs, cs.lookup p.1 = some p.2) (hL : bindL kind binds (fun _ => Option.none) = mL) (hC : bindC kind binds (fun _ => Option.none) = cm)
    (hin : InCallC s Lf (bindL kind binds fun _ => Option.none) cs (bindC kind binds fun _ => Option.none) s₁) :
    Own c.h₀ s₁.heap ((Lf, pNs mL) :: (cs.map (fun p => (p.2, pCel (cm p.1))) ++ L)) ∧ s₁.gens = s.gens ∧ s₁.os = s.os := by
  subst hLf
  obtain ⟨⟨⟨h₁, tk, rfl⟩, hns, hkeep, hfresh⟩, hcell, hapart, habove⟩ := hin
  have hns' : h₁.Ns s.heap.objs.size mL := by rw [← hL]; exact hns
  have hcell' : ∀ p ∈ cs, ∃ o, h₁.get? p.2 = some o ∧ pCel (cm p.1) o := fun p hp => by
    rw [← hC]; exact hcell p.1 p.2 (hnd p hp)
  have big : ∀ a, s.heap.objs.size ≤ a → c.h₀.get? a = Option.none := fun a ha => by
    cases q : c.h₀.get? a with
    | none => rfl
    | some o => exact absurd (Heap.lt_size (H.keep _ _ q)) (Nat.not_lt.mpr ha)
  have hab : ∀ p ∈ cs, s.heap.objs.size < p.2 := fun p hp => habove p.1 p.2 hp
  have h2 := H.two
  refine ⟨⟨fun b o e => hkeep b o (H.keep b o e), fun c' m => ?_, fun c' m => ?_, fun c' m => ?_, ?_, H.lim⟩, rfl, rfl⟩
  · rcases List.mem_cons.mp m with rfl | m
    · exact of_ns hns'
    · rcases List.mem_append.mp m with m | m
      · obtain ⟨p, hp, rfl⟩ := List.mem_map.mp m; exact hcell' p hp
      · obtain ⟨o, e, q⟩ := H.has c' m; exact ⟨o, hkeep _ _ e, q⟩
  · rcases List.mem_cons.mp m with rfl | m
    · exact big _ (Nat.le_refl _)
    · rcases List.mem_append.mp m with m | m
      · obtain ⟨p, hp, rfl⟩ := List.mem_map.mp m; exact big _ (Nat.le_of_lt (hab p hp))
      · exact H.new c' m
  · rcases List.mem_cons.mp m with rfl | m
    · exact h2
    · rcases List.mem_append.mp m with m | m
      · obtain ⟨p, hp, rfl⟩ := List.mem_map.mp m; exact Nat.lt_trans h2 (hab p hp)
      · exact H.hi c' m
  · rw [List.map_cons, List.map_append, List.map_map, List.nodup_cons]
    refine ⟨fun hm => ?_, List.nodup_append.mpr ⟨?_, H.nd, fun x hx y hy q => ?_⟩⟩
    · rcases List.mem_append.mp hm with hm | hm
      · obtain ⟨p, hp, e⟩ := List.mem_map.mp hm
        have := hab p hp
        rw [show p.2 = s.heap.objs.size from e] at this
        exact Nat.lt_irrefl _ this
      · obtain ⟨c', hm, e⟩ := List.mem_map.mp hm
        have := H.lt hm
        rw [e] at this
        exact Nat.lt_irrefl _ this
    · show List.Pairwise _ _
      rw [List.pairwise_map]
      exact hapart
    · obtain ⟨p, hp, rfl⟩ := List.mem_map.mp hx
      obtain ⟨c', hm, rfl⟩ := List.mem_map.mp hy
      have a := H.lt hm
      have b := hab p hp
      rw [← show p.2 = c'.1 from q] at a
      exact Nat.lt_irrefl _ (Nat.lt_trans a b)
theorem Own.gen {h₀ h : Heap} {L : List Cell} (H : Own h₀ h L) {a : Addr} {g : Nat} (m : (a, pGen g) ∈ L) : h.IsGen a g := by
  obtain ⟨o, e, nm, qn, r⟩ := H.at m
  exact ⟨o, nm, qn, e, r⟩
section
variable {K : Frag} {mg mb : Str → Option Value} {c : Cx} {L : List Cell} {n : Nat}
theorem gen_make {name qual : Str} {params : Arguments} {body : List Stmt} {scope : Scope} {dV kV doc pm cdv ct oc : Value} {an od : Option Addr} {osl : Array (Option Value)} {f : Addr} {args : List Value} {binds : List (Str × Value)}
    {mL cm : Str → Option Value} {cs : Nat → List (Str × Addr)} {s : Shared} {Rr : Result → Shared → Prop} (H : Own c.h₀ s.heap L)
    (B : Bs K c mg mb) (R : Rm n c.A) (ho : K.lookup f = some ⟨oc, od, .func (fnOf name qual params body scope dV kV doc pm an cdv ct), osl⟩) (hcd : codeIn K cdv qual = true)
    (hbind : bindArgs (fnOf name qual params body scope dV kV doc pm an cdv ct) ⟨args, []⟩ = pure binds)
    (hcs : ∀ m, cellsFrom (m + 1) scope.names [] = cs m)
    (hnd : ∀ m, ∀ p ∈ cs m, (cs m).lookup p.1 = some p.2) (hloc : ∀ m, ∀ x ∈ binds, scope.names.lookup x.1 = some .local ∨ (scope.names.lookup x.1 = some .cell ∧ ((cs m).lookup x.1).isSome = true))
    (hL : bindL (fun y => scope.names.lookup y) binds (fun _ => Option.none) = mL) (hC : bindC (fun y => scope.names.lookup y) binds (fun _ => Option.none) = cm)
    (h : ∀ a Lf s', Own c.h₀ s'.heap ((a, pGen s.gens.size) :: (Lf, pNs mL) :: ((cs Lf).map (fun p => (p.2, pCel (cm p.1))) ++ L)) → s'.gens = s.gens.push (.fresh (.func body (envX qual scope Lf f cdv (cs Lf)))) → s'.os = s.os → Rr (.ok (.ret (.ref a))) s')
    (hco : scope.isCoroutine = false := by rfl) (hgen : scope.isGenerator = true := by rfl) (hk : scope.kind = .function := by rfl) : codeAny (model c.prog c.w) c.A (.call (.ref f) ⟨args, []⟩) Rr s := by
  refine codeAny_call_generator (fd := fnOf name qual params body scope dV kV doc pm an cdv ct) (body := body) R.room (H.keep _ _ (B.X _ _ ho)) rfl hco hgen rfl (codeRec_of (B.X.keeps H.keep) hcd) ?_
  rw [hbind]
  refine wpAny_pure (wpAny_newFunctionEnv_cells hk (fun x hx => by rw [show cellsFrom (s.heap.objs.size + 1) (fnOf name qual params body scope dV kV doc pm an cdv ct).scope.names [] = cs s.heap.objs.size from hcs _]; exact hloc _ x hx) fun env he s' x => ?_)
  have hE : env = envX qual scope s.heap.objs.size f cdv (cs s.heap.objs.size) := by rw [he, ← hcs]; rfl
  subst hE
  obtain ⟨H', hg, ho'⟩ := H.callC rfl (hnd _) hL hC x
  refine ⟨H.limit.keeps x.toInCall.keep, ?_⟩
  exact h _ _ _ (H'.push (P := pGen s.gens.size) ⟨_, _, rfl, by rw [hg], rfl⟩ rfl) (by show s'.gens.push _ = _; rw [hg]) ho'
end
end Mine
namespace Mine
def Cx.gen (c : Cx) (g : Nat) : Cx := { c with G := fun gens => AllBare gens ∧ g < gens.size }
def GoL (c : Cx) (A : Around) (a : Addr) (g : Nat) (S : Addr) (Fi : List Value → List Cell → Prop) (n : Nat) (gs : GenState) (L : List Cell) : Prop :=
  ∀ s : Shared, Own c.h₀ s.heap L → c.G s.gens → s.os = c.O → gs.Goes (model c.prog c.w) A (PR c S Fi) (PY c a g S) n (.send .none) s
theorem GoL.fresh {c : Cx} {A : Around} {a S : Addr} {g n : Nat} {Fi : List Value → List Cell → Prop} {code : Code} {L : List Cell} (h : Sg c A (PR c S Fi) (PY c a g S) n code [] ((model c.prog c.w).den code) L) :
    GoL c A a g S Fi n (.fresh code) L := fun s H G o => ⟨rfl, h s s H G o⟩
theorem AllBare.setGen {s : Shared} {g : Nat} {gs : GenState} (x : AllBare s.gens) (h : gs.bare = true) : AllBare (s.setGen g gs).gens := fun y hy => by
  show y.bare = true
  have hy : y ∈ s.gens.setIfInBounds g gs := hy
  rcases Array.mem_or_eq_of_mem_setIfInBounds hy with m | e
  · exact x y m
  · rw [e]; exact h
theorem setGen_size (s : Shared) (g : Nat) (gs : GenState) : (s.setGen g gs).gens.size = s.gens.size := by
  show (s.gens.setIfInBounds g gs).size = _; simp
theorem setGen_at (s : Shared) (g : Nat) (gs : GenState) (h : g < s.gens.size) : (s.setGen g gs).gens[g]? = some gs := by
  show (s.gens.setIfInBounds g gs)[g]? = _; simp [h]
section
variable {K : Frag} {mg mb : Str → Option Value} {c : Cx} {L : List Cell} {n : Nat}
def LJ (c : Cx) (A : Around) (a : Addr) (g : Nat) (S : Addr) (Fi : List Value → List Cell → Prop) (k : Nat) (acc : List Value) (s : Shared) : Prop :=
  ∃ L gs, Own c.h₀ s.heap ((S, pList acc) :: L) ∧ (a, pGen g) ∈ L ∧ s.gens[g]? = some gs ∧ AllBare s.gens ∧ s.os = c.O ∧ GoL (c.gen g) A a g S Fi k gs ((S, pList acc) :: L)
theorem next_gen {A : Around} {a S : Addr} {g k : Nat} {Fi : List Value → List Cell → Prop} {acc : List Value} {s : Shared} {Q : Option Value → Shared → Prop} {E : Value → Shared → Prop} (R : Rm 2 A) (J : LJ c A.in1 a g S Fi k acc s)
    (hN : ∀ s' acc' L', Own c.h₀ s'.heap ((S, pList acc') :: L') → AllBare s'.gens → s'.os = c.O → Fi acc' L' → Q none s')
    (hS : ∀ v s' acc' L' gs', Own c.h₀ s'.heap ((S, pList acc') :: L') → (a, pGen g) ∈ L' → s'.gens[g]? = some gs' → AllBare s'.gens → s'.os = c.O → acc'.length < 1000 →
      (∀ s'', Own c.h₀ s''.heap ((S, pList (acc' ++ [v])) :: L') → AllBare s''.gens → g < s''.gens.size → s''.os = c.O → ∃ m, k = m + 1 ∧ gs'.Goes (model c.prog c.w) A.in1 (PR (c.gen g) S Fi) (PY (c.gen g) a g S) m (.send .none) s'') → Q (some v) s') :
    wpAny (model c.prog c.w) A (pyNext (.ref a)) Q E s := by
  obtain ⟨L, gs, H, ha, hgs, hG, ho, hgo⟩ := J
  have hlt : g < s.gens.size := (Array.getElem?_eq_some_iff.mp hgs).1
  have hg := (H.gen (.tail _ ha))
  have hgo' := hgo (s.setGen g .running) H ⟨AllBare.setGen hG rfl, by rw [setGen_size]; exact hlt⟩ ho
  unfold pyNext
  refine wpAny_bind (wpAny_attempt (wpAny_callSpecial?_slot (name := Str.ofString "__next__") hg.typeIs slot_gen_next
    (wpAny_call_entry slot_gen_next hg.typeIs entry_gen_next ?_ (args_gen_next _))))
  show wpAny _ A.in1 (Builtin.Generator.genWake (.ref a) (.send .none)) _ _ s
  unfold Builtin.Generator.genWake
  refine wpAny_bind (wpAny_holding (wpAny_genNumber hg (wpAny_bind (wpAny_genState hgs ?_))))
  cases gs with
  | running => exact hgo'.elim
  | finished => exact hgo'.elim
  | _ =>
    refine wpAny_bind (wpAny_roomToWake H.limit R.room ?_)
    show wpAny _ A.in1 (.resume g (.send .none) [] _) _ _ s
    refine wpAny_resumeQ hgs hgo' (fun x s₁ hx => ?_) (fun v s₁ gs' hb hv => ?_)
    · obtain ⟨rfl, acc', L', H', G', o', hF⟩ := hx
      show wpAny _ A.in1 (newExc (.type "StopIteration") [] >>= _) _ _ _
      refine wpAny_bind ?_
      simp only [newExc, newTuple]
      refine wpAny_bind (wpAny_newObj_type ?_ (by size_fits))
      refine wpAny_bind (m := firstArgMember _ _) (wpAny_of_eq (a := Value.none) (by first | rfl | (simp only [firstArgMember]; rfl)) ?_)
      refine wpAny_newObj_type ?_ (by size_fits)
      simp only [raiseNew]
      refine wpAny_bind (wpAny_bind (wpAny_handled ?_))
      rw [show A.in1.handled = none from R.hd]
      refine wpAny_throw ?_
      refine wpAny_bind (wpAny_isInstance (T := "StopIteration") (b := true) ⟨_, Heap.get?_push_size _ rfl, rfl⟩ isSubtype_stop ?_)
      exact wpAny_pure (hN _ acc' L' (H'.ext fun b o hb => Heap.get?_push_of_some _ (Heap.get?_push_of_some _ hb)) (AllBare.setGen G'.1 rfl) o' hF)
    · obtain ⟨acc', L', H', G', o', hlen, ha', hk⟩ := hv
      refine wpAny_pure ⟨v, rfl, wpAny_pure (hS v _ acc' L' gs' H' ha' (setGen_at _ _ _ G'.2) (AllBare.setGen G'.1 hb) o' hlen fun s'' H'' G'' lt'' o'' => ?_)⟩
      have := hk s'' H'' ⟨G'', lt''⟩ o''
      cases k with
      | zero => exact this.elim
      | succ m => exact ⟨m, rfl, this⟩
theorem extend_loop {A : Around} {a S : Addr} {g : Nat} {Fi : List Value → List Cell → Prop} {res : Value} {Rr : Result → Shared → Prop} (R : Rm 3 A)
    (hR : ∀ s' acc' L', Own c.h₀ s'.heap ((S, pList acc') :: L') → AllBare s'.gens → s'.os = c.O → Fi acc' L' → Rr (.ok (.ret res)) s') :
    ∀ (k : Nat) (acc : List Value) (s : Shared), LJ c A.in1.in1 a g S Fi k acc s → codeAny (model c.prog c.w) A (.builtin "list.extend.loop" ⟨[.ref S, .ref a, res], []⟩) Rr s := by
  intro k
  induction k with
  | zero =>
    intro acc s J
    refine codeAny_builtin F.entry_extend_loop ?_
    rw [Around.under_plainId F.plain_extend_loop _]
    show wpAny _ A.in1 (pyNext (.ref a) >>= _) _ _ s
    refine wpAny_bind (next_gen R.in1 J (fun s' acc' L' H' G' o' hF => ?_) fun v s' acc' L' gs' H' ha' hgs' G' o' hlen hk => ?_)
    · exact wpAny_pure (hR s' acc' L' H' G' o' hF)
    · obtain ⟨o, e, nn, rfl⟩ := H'.at (List.mem_cons_self ..)
      have hs := Heap.get?_update_self (Obj.mapSeq (·.push v)) e rfl
      have H2 : Own c.h₀ (s'.heap.update S (Obj.mapSeq (·.push v))) ((S, pList (acc' ++ [v])) :: L') := H'.upd .head (Heap.SameBut.update ..) hs ⟨_, by simp [Obj.mapSeq]; rfl⟩
      obtain ⟨m, hm, _⟩ := hk { s' with heap := s'.heap.update S (Obj.mapSeq (·.push v)) } H2 G' (Array.getElem?_eq_some_iff.mp hgs').1 o'
      cases hm
  | succ k ih =>
    intro acc s J
    refine codeAny_builtin F.entry_extend_loop ?_
    rw [Around.under_plainId F.plain_extend_loop _]
    show wpAny _ A.in1 (pyNext (.ref a) >>= _) _ _ s
    refine wpAny_bind (next_gen R.in1 J (fun s' acc' L' H' G' o' hF => ?_) fun v s' acc' L' gs' H' ha' hgs' G' o' hlen hk => ?_)
    · exact wpAny_pure (hR s' acc' L' H' G' o' hF)
    · obtain ⟨o, e, nn, rfl⟩ := H'.at (List.mem_cons_self ..)
      have hs := Heap.get?_update_self (Obj.mapSeq (·.push v)) e rfl
      have H2 : Own c.h₀ (s'.heap.update S (Obj.mapSeq (·.push v))) ((S, pList (acc' ++ [v])) :: L') := H'.upd .head (Heap.SameBut.update ..) hs ⟨_, by simp [Obj.mapSeq]; rfl⟩
      show wpAny _ A.in1 (updateSeq S (·.push v) >>= _) _ _ _
      refine wpAny_bind ?_
      have hsl := sz24
      refine wpAny_updateSeq e rfl (wpAny_pure ⟨plainId_quiet F.plain_extend_loop _, ih (acc' ++ [v]) _ ⟨L', gs', H2, ha', hgs', G', o', fun s'' H'' G'' o'' => ?_⟩⟩) (by rw [List.size_toArray]; omega) (by rw [Array.size_push, List.size_toArray]; omega)
      obtain ⟨m, hm, q⟩ := hk s'' H'' G''.1 G''.2 o''
      cases hm
      exact q
end
end Mine
namespace Mine
section
variable {K : Frag} {mg mb : Str → Option Value} {c : Cx} {L : List Cell} {n : Nat} {env : Env} {pos : Pos}
theorem list_gen {a : Addr} {g N : Nat} {code : Code} {s : Shared} {Fi : List Value → List Cell → Prop} {Q : Value → Shared → Prop} {E : Value → Shared → Prop} (R : Rm 8 c.A) (H : Own c.h₀ s.heap L) (ha : (a, pGen g) ∈ L) (hgs : s.gens[g]? = some (.fresh code)) (hG : AllBare s.gens) (ho : s.os = c.O)
    (hseg : ∀ S, Sg (c.gen g) c.A.in1.in1.in1 (PR (c.gen g) S Fi) (PY (c.gen g) a g S) N code [] ((model c.prog c.w).den code) ((S, pList []) :: L))
    (hQ : ∀ S s' acc' L', Own c.h₀ s'.heap ((S, pList acc') :: L') → AllBare s'.gens → s'.os = c.O → Fi acc' L' → Q (.ref S) s') :
    wpAny (model c.prog c.w) c.A (call (.type "list") [.ref a]) Q E s := by
  refine callType_codes (Q₁ := fun obj s₁ => obj = .ref s.heap.objs.size ∧ s₁ = { s with heap := s.heap.push { cls := .type "list", data := .seq #[] } }) F.called_list (F.typeCall_list_1 _) F.entry_list_init
    (code_list_new _ ⟨rfl, rfl⟩) fun obj s₁ h₁ => ?_
  obtain ⟨rfl, rfl⟩ := h₁
  have H1 : Own c.h₀ (s.heap.push { cls := .type "list", data := .seq #[] }) ((s.heap.objs.size, pList []) :: L) := H.push (P := pList []) ⟨_, rfl⟩ rfl
  have hS : (s.heap.push { cls := .type "list", data := .seq #[] }).get? s.heap.objs.size = some { cls := .type "list", data := .seq #[] } := Heap.get?_push_size _ rfl
  have hSI : s.heap.objs.size ≠ a := fun e => Nat.lt_irrefl _ (by have := H.lt ha; rw [← e] at this; exact this)
  refine ⟨⟨_, hS, rfl⟩, F.args_list_init_2 _ _, ?_⟩
  generalize s.heap.objs.size = S at *
  have hg1 := H1.gen (.tail _ ha)
  show wpAny _ c.A.in1.in1 (do let old ← Builtin.List.listItems (.ref S); Builtin.List.listUpdate (.ref S) (fun _ => #[]); letGo old.toList.reverse; Builtin.List.listExtendWith (.ref S) (.ref a) .none) _ _ _
  refine wpAny_bind ?_
  unfold Builtin.List.listItems
  refine wpAny_bind (wpAny_seqItems hS rfl (wpAny_pure ?_))
  show wpAny _ c.A.in1.in1 (updateSeq S (fun _ => #[]) >>= fun _ => letGo (#[] : Array Value).toList.reverse >>= fun _ => Builtin.List.listExtendWith (.ref S) (.ref a) .none) _ _ _
  refine wpAny_bind (wpAny_updateSeq hS rfl ?_)
  have hS₂ := Heap.get?_update_self (Obj.mapSeq (fun _ => (#[] : Array Value))) hS rfl
  have H2 := H1.upd (.head (P' := pList [])) (Heap.SameBut.update ..) hS₂ ⟨_, rfl⟩
  refine wpAny_bind (wpAny_letGo ?_)
  have hg2 := H2.gen (.tail _ ha)
  unfold Builtin.List.listExtendWith
  refine wpAny_bind (wpAny_typeOf hg2.typeIs ?_)
  have h1 : Builtin.List.listSameRef (.ref S) (.ref a) = false := by simp [Builtin.List.listSameRef, hSI]
  have h2 : (Value.type "generator" == Value.type "list") = false := by decide
  have h3 : (Value.type "generator" == Value.type "tuple") = false := by decide
  simp only [h1, h2, h3, Bool.or_false, Bool.false_eq_true, if_false]
  refine wpAny_bind (wpAny_pyIter_gen hg2 ?_)
  refine wpAny_bind (wpAny_holding ?_)
  unfold Builtin.List.listLengthHint
  refine wpAny_bind (wpAny_specialOf hg2.typeIs F.gen_no_len ?_)
  show wpAny _ c.A.in1.in1 (specialOf (Value.ref a) (Str.ofString "__length_hint__") >>= _) _ _ _
  refine wpAny_bind (wpAny_specialOf hg2.typeIs F.gen_no_hint ?_)
  refine wpAny_pure ?_
  show wpAny _ c.A.in1.in1 (rule "list.extend.makes-room" >>= fun _ => Builtin.List.listTouch (.ref S) >>= fun _ =>
    again (.builtin "list.extend.loop" ⟨[.ref S, .ref a, .none], []⟩)) _ _ _
  refine wpAny_bind (wpAny_rule ?_)
  refine wpAny_bind ?_
  show wpAny _ c.A.in1.in1 (updateSeq S (·.push .none) >>= fun _ => updateSeq S (·.pop)) _ _ _
  refine wpAny_bind (wpAny_updateSeq hS₂ rfl ?_)
  have hS₃ := Heap.get?_update_self (Obj.mapSeq (·.push Value.none)) hS₂ rfl
  have H3 := H2.upd (.head (P' := pList [.none])) (Heap.SameBut.update ..) hS₃ ⟨_, rfl⟩
  refine wpAny_updateSeq (hz := by seq_fits) hS₃ rfl ?_
  have hS₄ := Heap.get?_update_self (Obj.mapSeq (·.pop)) hS₃ rfl
  have H4 := H3.upd (.head (P' := pList [])) (Heap.SameBut.update ..) hS₄ ⟨_, rfl⟩
  refine wpAny_pure ⟨plainId_quiet F.plain_extend_loop _, extend_loop (A := c.A.in1) (Fi := Fi) (g := g) (Rm.in1 (R.le (by omega))) (fun s' acc' L' H' G' o' hF => ?_) N [] _ ⟨L, .fresh code, H4, ha, hgs, hG, ho, .fresh (hseg S)⟩⟩
  exact ⟨rfl, hQ S s' acc' L' H' G' o' hF⟩
end
end Mine
namespace Mine
section
variable {K : Frag} {mg mb : Str → Option Value} {c : Cx} {L : List Cell} {n : Nat} {env : Env} {pos : Pos}
theorem w_evalArgs {M : Model} {A : Around} {s : Shared} {f : Value} {args : List Expr} {Q : Args → Shared → Prop} {E : Value → Shared → Prop} (hz : wpAny M A (spliced (backTo pos (starEach args env))) (fun vs s' => Q ⟨vs, []⟩ s') E s)
    (hp : (backTo pos (starEach args env)).any (·.1) = false := by rfl) : wpAny M A (evalArgs f true (backTo pos (starEach args env)) []) Q E s := by
  revert hp hz
  generalize backTo pos (starEach args env) = l
  intro hz hp
  match l, hp, hz with
  | [], _, hz =>
    unfold evalArgs
    show wpAny M A (spliced [] >>= _) _ _ s
    refine wpAny_bind (wpAny_mono hz (fun vs s' h' => ?_) fun _ _ x => x)
    refine wpAny_holding ?_
    exact wpAny_bind (wpAny_pure (wpAny_bind (wpAny_pure (wpAny_pure h'))))
  | (false, x) :: r, _, hz => exact evalArgs_plain hz
theorem tr_listOfGen {o : Expr} {name : Str} {apos p2 : Pos} {args : List Expr} {pl : Sem Bool} {f x : Addr} {oc : Value} {od : Option Addr} {fd : FuncData} {osl : Array (Option Value)} {Q : Value → List Cell → Prop} (B : Bs K c mg mb) (hf : K.lookup f = some ⟨oc, od, .func fd, osl⟩)
    (h : Tr c (eval o env) L fun ov L1 => Tr c (getMethod ov name pl) L1 fun fx L2 => fx = (.ref f, [.ref x]) ∧ Tr c (spliced (backTo p2 (starEach args env))) L2 fun vs L3 => ∀ s, Own c.h₀ s.heap L3 → c.G s.gens → s.os = c.O →
      wpAny (model c.prog c.w) c.A (call (.ref f) (.ref x :: vs) []) (fun v s' => wpAny (model c.prog c.w) c.A (call (.type "list") [v] []) (Post c Q) (fun _ _ => False) s') (fun _ _ => False) s)
    (he : eval (.Call (.Attribute o name apos) args [] p2) env = (do
      let ov ← eval o env
      standAt apos.atName
      let (f, first) ← holding [ov] (getMethod ov name pl)
      callWith p2 f first (backTo p2 (starEach args env)) []) := by rfl)
    (hp : (backTo p2 (starEach args env)).any (·.1) = false := by rfl)
    (hp2 : (backTo pos (starEach [.Call (.Attribute o name apos) args [] p2] env)).any (·.1) = false := by rfl)
    (hst : starEach [.Call (.Attribute o name apos) args [] p2] env = (false, eval (.Call (.Attribute o name apos) args [] p2) env) :: starEach [] env := by rfl) :
    Tr c (callWith pos (.type "list") [] (backTo pos (starEach [.Call (.Attribute o name apos) args [] p2] env)) []) L Q := fun s H g os => by
  refine PyProof.Rows.callWith_type hp2 (w_evalArgs (Q := fun (a : Args) s1 => wpAny (model c.prog c.w) c.A (call (.type "list") ([] ++ a.pos) a.kw) (Post c Q) (fun _ _ => False) s1) (args_cons ?_ hst) hp2)
  refine MethodCall_ (h.use H g os fun ov s1 L1 H1 g1 o1 q => q.use H1 g1 o1 fun fx s2 L2 H2 g2 o2 q2 => ?_) he
  obtain ⟨rfl, q2⟩ := q2
  refine callWith_function (w_evalArgs (q2.use H2 g2 o2 fun vs s3 L3 H3 g3 o3 q3 => ⟨⟨H3.keep _ _ (B.X _ _ hf), rfl⟩, ?_⟩) hp)
  exact wpAny_mono (q3 s3 H3 g3 o3) (fun v s4 h4 => args_nil h4) fun _ _ x => x
end
end Mine
namespace Mine
def pRange (n : Int) (o : Obj) : Prop := ∃ t u v, o = { cls := .type "range", dict := none, data := .fields #[.int 0 t, .int n u, .int 1 v], slots := #[] }
def pRIter (x left : Int) (o : Obj) : Prop := o = { cls := .type "range_iterator", dict := none, data := .fields #[rawInt x, rawInt left, rawInt 1], slots := #[] }
section
variable {K : Frag} {mg mb : Str → Option Value} {c : Cx} {L : List Cell} {env : Env} {n : Nat} {pos : Pos}
theorem tr_range {k : Int} {t : Tok} {Q : Value → List Cell → Prop} (h : ∀ r, Q (.ref r) ((r, pRange k) :: L)) : Tr c (call (.type "range") [.int k t] []) L Q := fun s H g o =>
  call_range_1 ⟨_, H.push (P := pRange k) ⟨_, _, _, rfl⟩ rfl, g, o, h _⟩
theorem tr_iterRange {r : Addr} {k : Nat} {Q : Value → List Cell → Prop} (hr : (r, pRange k) ∈ L) (hk : k < 1000) (h : ∀ it, Q (.ref it) ((it, pRIter 0 k) :: L)) : Tr c (pyIter (.ref r)) L Q := fun s H g o => by
  obtain ⟨ob, e, t, u, v, rfl⟩ := H.at hr
  have hz : Builtin.Range.rangeSize 0 k 1 = k := by
    unfold Builtin.Range.rangeSize
    rw [if_pos (by decide)]
    split <;> omega
  have hs : Builtin.Range.small 0 k 1 = true := by
    unfold Builtin.Range.small
    rw [hz]
    unfold Builtin.Range.rangeFitsLong
    simp
    omega
  refine wpAny_pyIter_range e hs ⟨_, H.push (P := pRIter 0 k) ?_ rfl, g, o, h _⟩
  rw [hz]; rfl
theorem tr_nextRange {it : Addr} {x left : Int} {L' : List Cell} {Q : Option Value → List Cell → Prop} (U : Upd1 it (pRIter x left) (pRIter (x + 1) (left - 1)) L L') (hl : 0 < left) (h : ∀ t, Q (some (.int x t)) L') : Tr c (pyNext (.ref it)) L Q := fun s H g o => by
  obtain ⟨ob, e, p⟩ := H.at U.mem
  unfold pRIter at p
  subst p
  exact wpAny_pyNext_range_item e hl fun h' a b => ⟨L', H.upd U b a rfl, g, o, h _⟩
theorem tr_nextRangeEnd {it : Addr} {x left : Int} {L' : List Cell} {Q : Option Value → List Cell → Prop} (R : Rm n c.A) (U : Rem1 it (pRIter x left) L L') (hl : left ≤ 0) (h : Q none L') : Tr c (pyNext (.ref it)) L Q := fun s H g o => by
  obtain ⟨ob, e, p⟩ := H.at U.mem
  unfold pRIter at p
  subst p
  exact wpAny_pyNext_range_end R.hd e hl fun h' a => ⟨L', (H.perm U.perm).extBut a, g, o, h⟩
def SelfG (c : Cx) (it : Addr) (L : List Cell) : Prop := ∀ (L' : List Cell) (P : Value → List Cell → Prop), (∀ p ∈ L, p ∈ L') → P (.ref it) L' → Tr c (pyIter (.ref it)) L' P
theorem SelfIt.g {it : Addr} (x : SelfIt it L) : SelfG c it L := fun L' P h p => x.tr h p
theorem selfRange {it : Addr} {x left : Int} (m : (it, pRIter x left) ∈ L) : SelfG c it L := fun L' P h p s H g o => by
  obtain ⟨ob, e, q⟩ := H.at (h _ m)
  unfold pRIter at q
  subst q
  exact wpAny_pyIter_rangeiter e ⟨L', H, g, o, p⟩
theorem wpAny_compEnv {scope : Scope} {cl : List (Str × Addr)} {M : Model} {A : Around} {E : Value → Shared → Prop} {s : Shared} {Q : Env → Shared → Prop}
    (h : Q { scope := scope, locals := s.heap.objs.size, globals := env.globals, cells := cellsFrom (s.heap.objs.size + 1) scope.names cl, qual := env.qual, func := none, code := env.code, frame := env.frame, builtins := env.builtins } { s with heap := pushCells (s.heap.push { cls := .type "dict", data := .dict #[] }) scope.names }) :
    wpAny M A (newFunctionEnv scope env.globals cl [] env.qual none .none (some env)) Q E s := by
  simp only [newFunctionEnv, Option.isSome_some, if_true]
  refine wpAny_bind (wpAny_alloc ?_)
  refine wpAny_bind (wpAny_layCells _ (fun name kind cells => by cases hkc : kind == NameKind.cell <;> simp [hkc]) _ _ _ _ ?_)
  rw [show ({ s with heap := s.heap.push { cls := .type "dict", data := .dict #[] } } : Shared).heap.objs.size = s.heap.objs.size + 1 from Heap.size_push ..]
  exact wpAny_bind (wpAny_pure (wpAny_pure h))
theorem tr_ListCompX {elt target iter : Expr} {ifs : List Expr} {rest : List Comprehension} {scope : Scope} {cl : List (Str × Addr)} {y : Str} {Q : Value → List Cell → Prop}
    (hclos : closureFor scope env = pure cl) (hcs : ∀ n, cellsFrom n scope.names cl = (y, n) :: cl) (hpc : ∀ h, pushCells h scope.names = h.push { cls := .type "cell", data := .cell none }) (hkind : scope.kind = .function) (hnames : ∀ y ∈ scope.names, y.2 = .local → scope.names.lookup y.1 = some .local) (hs : ∀ x, foldedSetIterable iter env x = pure x)
    (h : Tr c (eval iter env) L fun x L1 => Tr c (pyIter x) L1 fun iv L2 => ∃ it, iv = .ref it ∧ SelfG c it L2 ∧ ∀ C a D,
      TrC c (.compLoop (.ListComp elt (⟨target, iter, ifs, 0⟩ :: rest) scope pos) 0 (.ref it) (.ref D) (compEnvC scope ((y, a) :: cl) C env)) ((a, pCel none) :: (C, pNs fun _ => Option.none) :: (D, pList []) :: L2) fun _ L3 => ∃ m L4, Sel ((C, pNs m) :: L4) L3 ∧ Q (.ref D) L4) :
    Tr c (eval (.ListComp elt (⟨target, iter, ifs, 0⟩ :: rest) scope pos) env) L Q := fun s H g o => by
  rw [eval_ListComp]
  refine wpAny_comprehension_free (use := Option.none) rfl hs hclos hkind hnames (h.use H g o fun x s1 L1 H1 g1 o1 q1 => q1.use H1 g1 o1 fun iv s2 L2 H2 g2 o2 q2 => ?_)
  obtain ⟨it, rfl, hself, q⟩ := q2
  refine wpAny_newObj_type (wpAny_compEnv ?_)
  have H3 := H2.push (o := { cls := .type "list", dict := Option.none, data := .seq ([] : List Value).toArray }) (P := pList []) ⟨0, rfl⟩ rfl
  have H4 := H3.push (o := { cls := .type "dict", data := .dict #[] }) (P := pNs fun _ => Option.none) ⟨#[], 0, rfl, fun e he => (by simp at he), fun _ => rfl⟩ rfl
  have H5 := H4.push (o := { cls := .type "cell", data := .cell none }) (P := pCel none) rfl rfl
  dsimp only
  rw [hcs, hpc]
  rw [Heap.size_push] at H5
  have fin : ∀ {r : Result} {s' : Shared} {C D : Addr}, (match r with | .ok f => ∃ L', Own c.h₀ s'.heap L' ∧ c.G s'.gens ∧ s'.os = c.O ∧ ∃ m L4, Sel ((C, pNs m) :: L4) L' ∧ Q (.ref D) L4 | .error _ => False) →
      compPost (model c.prog c.w) c.A (fun _ _ => False) Option.none (fun v s' => ∃ L', Own c.h₀ s'.heap L' ∧ c.G s'.gens ∧ s'.os = c.O ∧ Q v L') (.ref D) C r s' := fun {r s' C D} z => by
    cases r with
    | error e => exact z.elim
    | ok f =>
      obtain ⟨L3, a4, b4, d4, m, L4, sl, qq⟩ := z
      have K4 := a4.sel sl
      exact ⟨m, K4.ns (.head _), fun h' hs' => ⟨L4, K4.extBut hs'.extBut, b4, d4, qq⟩⟩
  refine codeAny_compStart_list ?_ ?_
  · exact codeAny_mono (q _ _ _ { s2 with heap := _ } H5 g2 o2) fun r s' z => fin z
  · refine (hself _ (fun v L' => v = .ref it ∧ L' = _) (fun _ m => .tail _ (.tail _ (.tail _ m))) ⟨rfl, rfl⟩).use (s := { s2 with heap := _ }) H5 g2 o2 fun v s' L' H' g' o' q' => ?_
    obtain ⟨rfl, rfl⟩ := q'
    exact codeAny_mono (q _ _ _ _ H' g' o') fun r s' z => fin z
theorem tr_ListCompG {elt target iter : Expr} {ifs : List Expr} {rest : List Comprehension} {scope : Scope} {cl : List (Str × Addr)} {Q : Value → List Cell → Prop}
    (hclos : closureFor scope env = pure cl) (hcs : ∀ n, cellsFrom n scope.names cl = cl) (hpc : ∀ h, pushCells h scope.names = h) (hkind : scope.kind = .function) (hnames : ∀ y ∈ scope.names, y.2 = .local → scope.names.lookup y.1 = some .local) (hs : ∀ x, foldedSetIterable iter env x = pure x)
    (h : Tr c (eval iter env) L fun x L1 => Tr c (pyIter x) L1 fun iv L2 => ∃ it, iv = .ref it ∧ SelfG c it L2 ∧ ∀ C D,
      TrC c (.compLoop (.ListComp elt (⟨target, iter, ifs, 0⟩ :: rest) scope pos) 0 (.ref it) (.ref D) (compEnvC scope cl C env)) ((C, pNs fun _ => Option.none) :: (D, pList []) :: L2) fun _ L3 => ∃ m L4, Sel ((C, pNs m) :: L4) L3 ∧ Q (.ref D) L4) :
    Tr c (eval (.ListComp elt (⟨target, iter, ifs, 0⟩ :: rest) scope pos) env) L Q := fun s H g o => by
  rw [eval_ListComp]
  refine wpAny_comprehension_free (use := Option.none) rfl hs hclos hkind hnames (h.use H g o fun x s1 L1 H1 g1 o1 q1 => q1.use H1 g1 o1 fun iv s2 L2 H2 g2 o2 q2 => ?_)
  obtain ⟨it, rfl, hself, q⟩ := q2
  refine wpAny_newObj_type (wpAny_compEnv ?_)
  have H3 := H2.push (o := { cls := .type "list", dict := Option.none, data := .seq ([] : List Value).toArray }) (P := pList []) ⟨0, rfl⟩ rfl
  have H5 := H3.push (o := { cls := .type "dict", data := .dict #[] }) (P := pNs fun _ => Option.none) ⟨#[], 0, rfl, fun e he => (by simp at he), fun _ => rfl⟩ rfl
  dsimp only
  rw [hcs, hpc]
  have fin : ∀ {r : Result} {s' : Shared} {C D : Addr}, (match r with | .ok f => ∃ L', Own c.h₀ s'.heap L' ∧ c.G s'.gens ∧ s'.os = c.O ∧ ∃ m L4, Sel ((C, pNs m) :: L4) L' ∧ Q (.ref D) L4 | .error _ => False) →
      compPost (model c.prog c.w) c.A (fun _ _ => False) Option.none (fun v s' => ∃ L', Own c.h₀ s'.heap L' ∧ c.G s'.gens ∧ s'.os = c.O ∧ Q v L') (.ref D) C r s' := fun {r s' C D} z => by
    cases r with
    | error e => exact z.elim
    | ok f =>
      obtain ⟨L3, a4, b4, d4, m, L4, sl, qq⟩ := z
      have K4 := a4.sel sl
      exact ⟨m, K4.ns (.head _), fun h' hs' => ⟨L4, K4.extBut hs'.extBut, b4, d4, qq⟩⟩
  refine codeAny_compStart_list ?_ ?_
  · exact codeAny_mono (q _ _ { s2 with heap := _ } H5 g2 o2) fun r s' z => fin z
  · refine (hself _ (fun v L' => v = .ref it ∧ L' = _) (fun _ m => .tail _ (.tail _ m)) ⟨rfl, rfl⟩).use (s := { s2 with heap := _ }) H5 g2 o2 fun v s' L' H' g' o' q' => ?_
    obtain ⟨rfl, rfl⟩ := q'
    exact codeAny_mono (q _ _ _ H' g' o') fun r s' z => fin z
end
end Mine
namespace Mine
theorem compTurn_two0 (elt t0 i0 t1 i1 : Expr) (scope : Scope) (pos : Pos) (it acc : Value) (env : Env) :
    compTurn (.ListComp elt [⟨t0, i0, [], 0⟩, ⟨t1, i1, [], 0⟩] scope pos) 0 it acc env = (standAt i0.pos >>= fun _ => pyNext it >>= fun r => match r with
      | none => pure (.done .next)
      | some v => letOwnedTupleGo t0 it v >>= fun _ => assign t0 env v >>= fun _ =>
        (eval i1 env >>= fun x => standAt i1.pos >>= fun _ => foldedSetIterable i1 env x >>= fun x => holding [x] (pyIter x) >>= fun it1 =>
          runOwn (.compStart (.ListComp elt [⟨t0, i0, [], 0⟩, ⟨t1, i1, [], 0⟩] scope pos) 1 it1 acc env) env >>= fun _ =>
          again (.compLoop (.ListComp elt [⟨t0, i0, [], 0⟩, ⟨t1, i1, [], 0⟩] scope pos) 0 it acc env))) := by rfl
theorem compTurn_two1 (elt t0 i0 t1 i1 : Expr) (scope : Scope) (pos : Pos) (it acc : Value) (env : Env) :
    compTurn (.ListComp elt [⟨t0, i0, [], 0⟩, ⟨t1, i1, [], 0⟩] scope pos) 1 it acc env = (standAt i1.pos >>= fun _ => pyNext it >>= fun r => match r with
      | none => pure (.done .next)
      | some v => letOwnedTupleGo t1 it v >>= fun _ => assign t1 env v >>= fun _ =>
        (eval elt env >>= fun x => call (.builtin "list.append") [acc, x] >>= fun _ => pure ()) >>= fun _ =>
          again (.compLoop (.ListComp elt [⟨t0, i0, [], 0⟩, ⟨t1, i1, [], 0⟩] scope pos) 1 it acc env)) := by rfl
section
variable {K : Frag} {mg mb : Str → Option Value} {c : Cx} {L : List Cell} {env : Env} {n : Nat} {pos : Pos}
theorem tr_two1 {elt t0 i0 t1 i1 : Expr} {scope : Scope} {it acc : Value} {Q : Flow → List Cell → Prop} (I : Nat → List Cell → Prop)
    (turn : ∀ k L, I k L → Tr c (pyNext it) L fun r L1 => match r with
      | none => Q .next L1
      | some v => Tr c (assign t1 env v) L1 fun _ L3 => Tr c (eval elt env) L3 fun x L4 => Tr c (call (.builtin "list.append") [acc, x] []) L4 fun _ L5 => ∃ m L6, m < k ∧ Sel L6 L5 ∧ I m L6)
    (k : Nat) (h : I k L) (ht : ∀ v, letOwnedTupleGo t1 it v = pure () := by intro _; rfl) : TrC c (.compLoop (.ListComp elt [⟨t0, i0, [], 0⟩, ⟨t1, i1, [], 0⟩] scope pos) 1 it acc env) L Q := fun s H g o => by
  refine codeAny_loop rfl (fun k s => ∃ L, Own c.h₀ s.heap L ∧ c.G s.gens ∧ s.os = c.O ∧ I k L) (fun k s ⟨L, H, g, o, hI⟩ => ?_) k ⟨L, H, g, o, h⟩
  show wpAny _ c.A ((compTurn (.ListComp elt [⟨t0, i0, [], 0⟩, ⟨t1, i1, [], 0⟩] scope pos) 1 it acc env).onRaise (fun x => do noteFrame x env; theTreesLotGoes x)) _ _ s
  refine wpAny_noted ?_
  rw [compTurn_two1]
  refine wpAny_bind (wpAny_standAt (wpAny_bind ?_))
  refine (turn k L hI).use H g o fun r s1 L1 H1 g1 o1 q => ?_
  cases r with
  | none => exact wpAny_pure ⟨L1, H1, g1, o1, q⟩
  | some v =>
    refine wpAny_bind (wpAny_of_eq (ht v) ?_)
    refine wpAny_bind (q.use H1 g1 o1 fun _ s3 L3 H3 g3 o3 q3 => ?_)
    refine wpAny_bind (wpAny_bind (q3.use H3 g3 o3 fun x s4 L4 H4 g4 o4 q4 => ?_))
    refine wpAny_bind (q4.use H4 g4 o4 fun _ s5 L5 H5 g5 o5 q5 => ?_)
    obtain ⟨m, L6, hm, hs, hI'⟩ := q5
    exact wpAny_pure (wpAny_pure ⟨rfl, m, hm, L6, H5.sel hs, g5, o5, hI'⟩)
theorem tr_two0 {elt t0 i0 t1 i1 : Expr} {scope : Scope} {it acc : Value} {Q : Flow → List Cell → Prop} (I : Nat → List Cell → Prop)
    (turn : ∀ k L, I k L → Tr c (pyNext it) L fun r L1 => match r with
      | none => Q .next L1
      | some v => Tr c (assign t0 env v) L1 fun _ L2 => Tr c (eval i1 env) L2 fun x L3 => Tr c (pyIter x) L3 fun iv L4 => ∃ it1, iv = .ref it1 ∧ SelfG c it1 L4 ∧
          TrC c (.compLoop (.ListComp elt [⟨t0, i0, [], 0⟩, ⟨t1, i1, [], 0⟩] scope pos) 1 (.ref it1) acc env) L4 fun _ L5 => ∃ m L6, m < k ∧ Sel L6 L5 ∧ I m L6)
    (k : Nat) (h : I k L) (ht : ∀ v, letOwnedTupleGo t0 it v = pure () := by intro _; rfl) (hs : ∀ x, foldedSetIterable i1 env x = pure x := by intro _; rfl) : TrC c (.compLoop (.ListComp elt [⟨t0, i0, [], 0⟩, ⟨t1, i1, [], 0⟩] scope pos) 0 it acc env) L Q := fun s H g o => by
  refine codeAny_loop rfl (fun k s => ∃ L, Own c.h₀ s.heap L ∧ c.G s.gens ∧ s.os = c.O ∧ I k L) (fun k s ⟨L, H, g, o, hI⟩ => ?_) k ⟨L, H, g, o, h⟩
  show wpAny _ c.A ((compTurn (.ListComp elt [⟨t0, i0, [], 0⟩, ⟨t1, i1, [], 0⟩] scope pos) 0 it acc env).onRaise (fun x => do noteFrame x env; theTreesLotGoes x)) _ _ s
  refine wpAny_noted ?_
  rw [compTurn_two0]
  refine wpAny_bind (wpAny_standAt (wpAny_bind ?_))
  refine (turn k L hI).use H g o fun r s1 L1 H1 g1 o1 q => ?_
  cases r with
  | none => exact wpAny_pure ⟨L1, H1, g1, o1, q⟩
  | some v =>
    refine wpAny_bind (wpAny_of_eq (ht v) ?_)
    refine wpAny_bind (q.use H1 g1 o1 fun _ s2 L2 H2 g2 o2 q2 => ?_)
    refine wpAny_bind (q2.use H2 g2 o2 fun x s3 L3 H3 g3 o3 q3 => ?_)
    refine wpAny_bind (wpAny_standAt (wpAny_bind (wpAny_of_eq (hs x) (wpAny_bind (wpAny_holding ?_)))))
    refine q3.use H3 g3 o3 fun iv s4 L4 H4 g4 o4 q4 => ?_
    obtain ⟨it1, rfl, hself, hC⟩ := q4
    have fin : ∀ {s6 : Shared}, (∃ L', Own c.h₀ s6.heap L' ∧ c.G s6.gens ∧ s6.os = c.O ∧ ∃ m L6, m < k ∧ Sel L6 L' ∧ I m L6) →
        wpAny (model c.prog c.w) c.A (again (.compLoop (.ListComp elt [⟨t0, i0, [], 0⟩, ⟨t1, i1, [], 0⟩] scope pos) 0 it acc env)) (fun fin s' => match fin with
          | .done f => (match (Except.ok f : Result) with | .ok f => ∃ L', Own c.h₀ s'.heap L' ∧ c.G s'.gens ∧ s'.os = c.O ∧ Q f L' | .error _ => False)
          | .again c' => c' = .compLoop (.ListComp elt [⟨t0, i0, [], 0⟩, ⟨t1, i1, [], 0⟩] scope pos) 0 it acc env ∧ ∃ m, m < k ∧ ∃ L, Own c.h₀ s'.heap L ∧ c.G s'.gens ∧ s'.os = c.O ∧ I m L)
          (notedBy (model c.prog c.w) c.A env fun e s' => False) s6 := fun ⟨L', a1, a2, a3, m, L6, hm, sl, hI'⟩ => wpAny_pure ⟨rfl, m, hm, L6, a1.sel sl, a2, a3, hI'⟩
    refine wpAny_bind (wpAny_runOwn ?_)
    refine codeAny_of_tree ?_
    show wpAny _ c.A ((compStart (.ListComp elt [⟨t0, i0, [], 0⟩, ⟨t1, i1, [], 0⟩] scope pos) 1 (.ref it1) acc env).onRaise (fun x => do noteFrame x env; standAt theWindowsPlace)) _ _ s4
    refine wpAny_notedAt ?_
    unfold compStart
    show wpAny _ _ (ask >>= _) _ _ s4
    refine wpAny_bind (wpAny_askSetting (wpAny_ite ?_))
    split
    · refine wpAny_pure ⟨rfl, codeAny_mono (hC s4 H4 g4 o4) fun r s5 z => ?_⟩
      cases r with
      | error e => exact z.elim
      | ok f => exact fin z
    · refine wpAny_bind (wpAny_rule ?_)
      show wpAny _ _ (standAt i1.pos >>= _) _ _ s4
      refine wpAny_bind (wpAny_standAt (wpAny_bind ?_))
      refine (hself L4 (fun v L' => v = .ref it1 ∧ L' = L4) (fun _ m => m) ⟨rfl, rfl⟩).use H4 g4 o4 fun v s5 L5 H5 g5 o5 q5 => ?_
      obtain ⟨rfl, rfl⟩ := q5
      refine wpAny_pure ⟨rfl, codeAny_mono (hC s5 H5 g5 o5) fun r s6 z => ?_⟩
      cases r with
      | error e => exact z.elim
      | ok f => exact fin z
end
end Mine
namespace Mine
set_option maxHeartbeats 4000000
local macro_rules | `(tactic| k_extra "mem") => `(tactic| first | exact List.Mem.head _ | (refine List.Mem.tail _ ?_; k_extra "mem") | exact List.mem_append_left _ (by assumption) | (refine List.mem_append_right _ ?_; k_extra "mem"))
local macro_rules | `(tactic| k_extra "upd") => `(tactic| first | exact Upd1.head | (apply Upd1.tail; k_extra "upd") | (apply Upd1.skip; k_extra "upd"))
local macro_rules | `(tactic| k_extra "rem") => `(tactic| first | exact Rem1.head | (apply Rem1.tail; k_extra "rem") | (apply Rem1.skip; k_extra "rem"))
local macro_rules | `(tactic| k_extra "remb") => `(tactic| first | exact RemB.head | (apply RemB.tail; k_extra "remb") | (apply RemB.skip; k_extra "remb"))
local macro_rules | `(tactic| k_extra "sel") => `(tactic| first | exact Sel.refl | exact Sel.nil | (apply Sel.cons; k_extra "rem"; k_extra "sel") | (apply Sel.block; k_extra "remb"; k_extra "sel") | (apply Sel.drop; k_extra "sel") | (apply Sel.dropB; k_extra "sel"))
local macro_rules | `(tactic| k_extra "hv") => `(tactic| first | exact rfl | (refine (if_neg (by decide)).trans ?_; k_extra "hv") | (refine' FrHas.get ?f ?g; (case f => assumption); (case g => k_extra "mem")))
local macro_rules | `(tactic| k_extra "fr") => `(tactic| first | assumption | with_reducible exact FrHas.nil | ((with_reducible refine FrHas.cons ?hv ?_); (case hv => k_extra "hv"); k_extra "fr"))
local macro_rules | `(tactic| k_extra "B") => `(tactic| first | assumption | exact Bs.deeper (by assumption) _ | exact Bs.wA (by assumption) _ | exact Bs.deeper (Bs.wA (by assumption) _) _)
local macro_rules | `(tactic| k_extra "R") => `(tactic| first | assumption | exact Rm.deeper (Rm.le (by assumption)) _ | exact Rm.le (by assumption) | exact Rm.le (Rm.deeper (Rm.le (by assumption)) _))
local macro_rules | `(tactic| k_extra "getok") => `(tactic| first | (refine' GetOk.obj ?a ?b; (case a => k_is); (case b => k_is)) | (refine' GetOk.lst ?a ?b ?c; (case a => k_is); (case b => k_is); (case c => k_is)))
local macro_rules | `(tactic| k_extra "isinst") => `(tactic| first | exact pDomL_is | exact pInst_is | exact pSub_is)
local macro_rules | `(tactic| k_extra "len") => `(tactic| first | assumption | (simp only [List.length_append, List.length_cons, List.length_nil] at *; have := sz24; omega) | (have := sz24; omega))
local macro_rules | `(tactic| k_extra "enter") => `(tactic| (
  (case ho => k_is)
  (case hcd => k_is)
  (case hb => exact fun _ _ => BindsTo.of_eq rfl)
  (case hloc => exact locs rfl)
  (case c1 => decide)
  (case c2 => exact rfl)
  (case c3 => exact rfl)
  (case c4 => exact rfl)))
local macro_rules | `(tactic| k_extra "enterD") => `(tactic| (
  (case ho => k_is)
  (case hcd => k_is)
  (case hb => exact fun _ X => binds_K X rfl (by k_is) rfl rfl rfl)
  (case hloc => exact locs rfl)
  (case c1 => decide)
  (case c2 => exact rfl)
  (case c3 => exact rfl)
  (case c4 => exact rfl)))
local macro_rules | `(tactic| k_extra "all") => `(tactic| (intro x hx; repeat (first | exact List.mem_append_left _ hx | refine List.Mem.tail _ ?_ | refine List.mem_append_right _ ?_)))
local macro_rules | `(tactic| k_extra "focus") => `(tactic| first | exact focus_base | (apply focus_step; k_extra "focus") | (apply focus_Z; k_extra "focus"))
local macro_rules | `(tactic| k_extra "unfocus") => `(tactic| first | exact unfocus | (apply unfocus_step; k_extra "unfocus") | (apply unfocus_Z; k_extra "unfocus"))
local macro_rules | `(tactic| k_extra "back") => `(tactic| (refine' Sel.trans ?u ?v; (case u => k_extra "unfocus"); (case v => k_extra "sel")))
local macro_rules | `(tactic| k_extra "pull") => `(tactic| first | exact Sel.refl | (apply pull_step; k_extra "pull") | (apply pull_Z; k_extra "pull"))
local macro_rules | `(tactic| k_extra "pull1") => `(tactic| (apply pull_step; k_extra "pull"))
local macro_rules | `(tactic| k_extra "name") => `(tactic| first
     | (refine' tr_local ?hm ?hv ?_ ?a ?b ?c; (case a => exact rfl); (case b => exact rfl); (case hm => k_extra "mem"); (case hv => k_extra "hv"); (case c => decide))
     | (refine' tr_global ?B ?he ?_ ?g ?a ?b ?c; (case B => k_extra "B"); (case a => exact rfl); (case b => exact rfl); (case he => k_is); (case g => exact rfl); (case c => decide))
     | (refine' tr_builtin ?B ?he ?hv ?_ ?n ?g ?g2 ?a ?b ?c; (case B => k_extra "B"); (case a => exact rfl); (case b => exact rfl); (case he => k_is); (case hv => boot_fast); (case n => decide); (case g => exact rfl); (case g2 => exact rfl); (case c => decide))
     | (refine' tr_cell ?hc ?hm ?_ ?a ?b ?c; (case a => exact rfl); (case b => exact rfl); (case hc => exact rfl); (case hm => k_extra "mem"); (case c => decide))
     | (refine' tr_free ?hc ?hm ?_ ?a ?b ?c ?d; (case a => exact rfl); (case b => exact rfl); (case hc => exact rfl); (case hm => k_extra "mem"); (case c => decide); (case d => decide)))
local macro_rules | `(tactic| k_extra "methu") => `(tactic| first
     | (refine' tr_getMethod ?B ?hx ?hP ?hd ?hg ?hf ?ht ?hv ?_; (case B => k_extra "B"); (case hx => k_extra "mem"); (case hP => k_extra "isinst"); (case hd => k_extra "mem"); (case hf => k_is); (case ht => k_is); (case hv => exact rfl); (case hg => k_extra "getok"))
     | (refine' tr_getMethodB ?B ?hx ?hP ?hd ?hg ?hf ?ht ?hv ?_; (case B => k_extra "B"); (case hx => k_extra "mem"); (case hP => k_extra "isinst"); (case hd => k_extra "mem"); (case hf => k_is); (case ht => first | with_reducible exact PySem.F.type_list_extend | with_reducible exact PySem.F.type_list_remove | with_reducible exact type_list_append); (case hv => exact rfl); (case hg => k_extra "getok")))
local macro_rules | `(tactic| k_extra "meth") => `(tactic| first
     | ((with_reducible show Tr _ (getMethod _ (PySem.Str.ofString "append") _) _ _); first
        | (refine' tr_getMethodL ?hl slot_list_append type_list_append ?_; (case hl => k_extra "mem"))
        | (refine' tr_getMethodI ?hl slot_list_append type_list_append ?_; (case hl => k_extra "mem"))
        | k_extra "methu")
     | ((with_reducible show Tr _ (getMethod _ (PySem.Str.ofString "pop") _) _ _); first
        | (refine' tr_getMethodI ?hl PySem.F.slot_list_pop PySem.F.type_list_pop ?_; (case hl => k_extra "mem"))
        | (refine' tr_getMethodL ?hl PySem.F.slot_list_pop PySem.F.type_list_pop ?_; (case hl => k_extra "mem")))
     | ((with_reducible show Tr _ (getMethod _ (PySem.Str.ofString "sort") _) _ _); (refine' tr_getMethodL ?hl PySem.F.slot_list_sort PySem.F.type_list_sort ?_; (case hl => k_extra "mem")))
     | ((with_reducible show Tr _ (getMethod _ (PySem.Str.ofString "copy") _) _ _); (refine' tr_getMethodD ?hl PySem.F.slot_dict_copy PySem.F.type_dict_copy ?_; (case hl => k_extra "mem")))
     | k_extra "methu")
local macro_rules | `(tactic| k_extra "callb") => `(tactic| first
  | ((with_reducible show Tr _ (call (Value.builtin "len") [Value.ref _] []) _ _); first
     | (refine' tr_lenList ?hl ?hz ?_; (case hl => k_extra "mem"); (case hz => k_extra "len"); intro _)
     | (refine' tr_lenInts ?hl ?hz ?_; (case hl => k_extra "mem"); (case hz => k_extra "len"); intro _)
     | (refine' tr_lenDom ?B ?S ?hx ?hz ?_; (case B => k_extra "B"); (case hx => k_extra "mem"); (case S => exact dsub _); (case hz => k_extra "len"); intro _))
  | ((with_reducible show Tr _ (call (Value.builtin "list.append") [Value.ref _, _] []) _ _); first
     | (refine' tr_appendI ?U ?hz ?_; (case U => k_extra "upd"); (case hz => k_extra "len"))
     | (refine' tr_append ?U ?_ ?hz; (case U => k_extra "upd"); (case hz => k_extra "len")))
  | ((with_reducible show Tr _ (call (Value.builtin "list.remove") [Value.ref _, _] []) _ _); refine' tr_remove ?B ?S ?U ?hi ?hz ?_; (case B => k_extra "B"); (case S => exact dsub _); (case U => k_extra "upd"); (case hi => assumption); (case hz => k_extra "len"))
  | ((with_reducible show Tr _ (call (Value.builtin "list.extend") [Value.ref _, _] []) _ _); refine' tr_extend ?B ?S ?U ?hb ?hz ?_; (case B => k_extra "B"); (case S => exact dsub _); (case U => k_extra "upd"); (case hb => k_extra "mem"); (case hz => k_extra "len"))
  | ((with_reducible show Tr _ (call (Value.builtin "list.pop") [Value.ref _] []) _ _); first
     | (refine' tr_popI ?U ?hz ?_; (case U => k_extra "upd"); (case hz => k_extra "len"); intro _)
     | (refine' tr_pop ?U ?hz ?_; (case U => k_extra "upd"); (case hz => k_extra "len")))
  | ((with_reducible show Tr _ (call (Value.builtin "dict.copy") [Value.ref _] []) _ _); refine' tr_dictCopy ?hd ?hz ?_; (case hd => k_extra "mem"); (case hz => k_extra "len"); intro _))
local macro_rules | `(tactic| k_extra "truthy") => `(tactic| first
  | with_reducible refine tr_truthy_bool ?_
  | with_reducible refine tr_truthyNone ?_
  | with_reducible refine tr_truthyInt ?_
  | (refine' tr_truthyInts ?hl ?hz ?_; (case hl => k_extra "mem"); (case hz => k_extra "len"))
  | (refine' tr_truthyList ?hl ?hz ?_; (case hl => k_extra "mem"); (case hz => k_extra "len"))
  | (refine' tr_truthyDom ?B ?S ?hx ?hz ?_; (case B => k_extra "B"); (case hx => k_extra "mem"); (case S => exact dsub _); (case hz => k_extra "len")))
local macro_rules | `(tactic| k_extra "cmp") => `(tactic| first
  | with_reducible refine tr_gt ?_ | with_reducible refine tr_lt ?_ | with_reducible refine tr_le ?_ | with_reducible refine tr_ge ?_ | with_reducible refine tr_eq ?_ | with_reducible refine tr_ne ?_
  | ((with_reducible show Tr _ (compareOp CmpOp.Is (Value.type _) (Value.type _)) _ _); (refine' tr_isTypes ?hp ?_; (case hp => exact rfl)))
  | (refine' tr_dictIn ?hd ?hP ?_; (case hd => k_extra "mem"); (case hP => first | exact pDict_refl | exact pDictE_dict))
  | (refine' tr_dictNotIn ?hd ?hP ?_; (case hd => k_extra "mem"); (case hP => first | exact pDict_refl | exact pDictE_dict)))
local macro_rules | `(tactic| k_extra "sub") => `(tactic| first
  | ((with_reducible show Tr _ (subscriptTail _ _ (Value.ref _) (Value.int _ _)) _ _); (refine' tr_itemTup ?ht ?a ?b ?hj ?hx ?_ ?hs; (case ht => k_extra "mem"); (case a => decide); (case b => decide); (case hj => exact rfl); (case hx => exact rfl); (case hs => exact rfl)))
  | ((with_reducible show Tr _ (subscriptTail _ (Expr.Slice none none none _) (Value.ref _) (Value.ref _)) _ _); first
     | (refine' tr_copyDom ?B ?S ?hq ?hx ?hs ?hz ?_; (case B => k_extra "B"); (case S => exact dsub _); (case hx => k_extra "mem"); (case hq => k_is); (case hs => k_extra "mem"); (case hz => k_extra "len"); intro _)
     | (refine' tr_copyList ?hx ?hs ?hz ?_; (case hx => k_extra "mem"); (case hs => k_extra "mem"); (case hz => k_extra "len"); intro _))
  | ((with_reducible show Tr _ (subscriptTail _ _ (Value.ref _) (Value.str _ _)) _ _); (refine' tr_itemDict ?hd ?hP ?hv ?_ ?hs; (case hd => k_extra "mem"); (case hs => exact rfl); (case hP => first | exact pDict_refl | exact pDictE_dict); (case hv => first | assumption | exact rfl))))
local macro_rules | `(tactic| k_extra "store") => `(tactic| first
  | (refine' tr_store ?U ?_ ?hk ?hl; (case hk => exact rfl); (case hl => exact rfl); (case U => k_extra "upd"))
  | (refine' tr_storeCell ?hc ?U ?_ ?hk ?hl; (case hk => exact rfl); (case hl => exact rfl); (case hc => exact rfl); (case U => k_extra "upd")))
local macro_rules | `(tactic| k_extra "st") => `(tactic| first
  | with_reducible refine tr_execs_cons ?_
  | with_reducible refine tr_execs_nil ?_
  | with_reducible refine Nx.next ?_
  | with_reducible refine Nx.ret ?_
  | with_reducible refine Nx.brk ?_
  | ((with_reducible show Tr _ (exec _ _) _ _); first
     | ((with_reducible show Tr _ (exec (Stmt.Expr _ _) _) _ _); refine tr_Expr ?_)
     | ((with_reducible show Tr _ (exec (Stmt.Return (some _) _) _) _ _); refine tr_Return ?_)
     | ((with_reducible show Tr _ (exec (Stmt.Return none _) _) _ _); refine tr_Return_none ?_)
     | ((with_reducible show Tr _ (exec (Stmt.If _ _ _ _) _) _ _); refine tr_If ?_)
     | ((with_reducible show Tr _ (exec (Stmt.For _ _ _ _ _) _) _ _); refine tr_For ?_)
     | ((with_reducible show Tr _ (exec (Stmt.While _ _ _ _) _) _ _); refine tr_While ?_)
     | ((with_reducible show Tr _ (exec (Stmt.Assign [Expr.Name _ _] _ _) _) _ _); refine tr_AssignName ?_)
     | ((with_reducible show Tr _ (exec (Stmt.Assign [Expr.Attribute _ _ _] _ _) _) _ _); refine tr_AssignAttr ?_)
     | ((with_reducible show Tr _ (exec (Stmt.Assign [Expr.Subscript _ _ _] _ _) _) _ _); refine tr_AssignItem ?_)
     | ((with_reducible show Tr _ (exec (Stmt.AugAssign (Expr.Name _ _) _ _ _) _) _ _); refine tr_AugAssign ?_)
     | ((with_reducible show Tr _ (exec (Stmt.Delete _ _) _) _ _); refine tr_Delete ?_)
     | ((with_reducible show Tr _ (exec (Stmt.Break _) _) _ _); refine tr_Break ?_)
     | ((with_reducible show Tr _ (exec (Stmt.Pass _) _) _ _); refine tr_Pass ?_))
  | ((with_reducible show Tr _ (eval _ _) _ _); first
     | ((with_reducible show Tr _ (eval (Expr.Name _ _) _) _ _); k_extra "name")
     | ((with_reducible show Tr _ (eval (Expr.Constant (Const.int _) _ _) _) _ _); refine tr_int fun _ => ?_)
     | ((with_reducible show Tr _ (eval (Expr.Constant (Const.bool _) _ _) _) _ _); refine tr_bool ?_)
     | ((with_reducible show Tr _ (eval (Expr.Constant Const.none _ _) _) _ _); refine tr_none ?_)
     | ((with_reducible show Tr _ (eval (Expr.Constant (Const.str _) _ _) _) _ _); refine tr_str fun _ => ?_)
     | ((with_reducible show Tr _ (eval (Expr.Call (Expr.Attribute _ _ _) _ _ _) _) _ _); refine tr_MethodCall ?_)
     | ((with_reducible show Tr _ (eval (Expr.Call _ _ _ _) _) _ _); refine tr_Call ?_)
     | ((with_reducible show Tr _ (eval (Expr.Attribute _ _ _) _) _ _); refine tr_Attribute ?_)
     | ((with_reducible show Tr _ (eval (Expr.Subscript _ _ _) _) _ _); refine tr_Subscript ?_)
     | ((with_reducible show Tr _ (eval (Expr.Slice none none none _) _) _ _); refine tr_sliceAll fun _ => ?_)
     | ((with_reducible show Tr _ (eval (Expr.Slice (some _) none none _) _) _ _); refine tr_sliceFrom ?_)
     | ((with_reducible show Tr _ (eval (Expr.BinOp _ _ _ _) _) _ _); refine tr_BinOp ?_)
     | ((with_reducible show Tr _ (eval (Expr.UnaryOp _ _ _) _) _ _); refine tr_UnaryOp ?_)
     | ((with_reducible show Tr _ (eval (Expr.Compare _ _ _ _) _) _ _); refine tr_Compare ?_)
     | ((with_reducible show Tr _ (eval (Expr.IfExp _ _ _ _) _) _ _); refine tr_IfExp ?_)
     | ((with_reducible show Tr _ (eval (Expr.BoolOp BoolOp.Or (_ :: _ :: _) _) _) _ _); refine tr_BoolOr ?_)
     | ((with_reducible show Tr _ (eval (Expr.BoolOp _ [_] _) _) _ _); refine tr_BoolOne ?_)
     | ((with_reducible show Tr _ (eval (Expr.List [] _) _) _ _); refine tr_List0 fun _ => ?_)
     | ((with_reducible show Tr _ (eval (Expr.List _ _) _) _ _); refine tr_List ?_)
     | ((with_reducible show Tr _ (eval (Expr.Tuple _ _ _) _) _ _); refine tr_Tuple ?_)
     | ((with_reducible show Tr _ (eval (Expr.Dict [] [] _) _) _ _); refine tr_Dict fun _ => ?_))
  | ((with_reducible show Tr _ (isTrue _ _ _) _ _); first
     | ((with_reducible show Tr _ (isTrue (Expr.Compare _ _ _ _) _ _) _ _); refine tr_isTrue_Compare ?_)
     | ((with_reducible show Tr _ (isTrue (Expr.UnaryOp UnaryOp.Not _ _) _ _) _ _); refine tr_isTrue_Not ?_)
     | ((with_reducible show Tr _ (isTrue (Expr.BoolOp _ _ _) _ _) _ _); refine tr_isTrue_BoolOp ?_)
     | refine tr_isTrue_value ?_)
  | ((with_reducible show Tr _ (callWith _ (Value.builtin _) _ _ _) _ _); first | refine tr_callBuiltin0 ?_ | refine tr_callBuiltin1 ?_)
  | ((with_reducible show Tr _ (callWith _ (Value.ref _) _ _ _) _ _); first
     | (refine' tr_callFn0 ?B ?hf ?_ ?p; (case B => k_extra "B"); (case hf => k_is); (case p => exact rfl))
     | (refine' tr_callFn1 ?B ?hf ?_ ?p; (case B => k_extra "B"); (case hf => k_is); (case p => exact rfl))
     | (refine' tr_callCls ?B ?hf ?_ ?p; (case B => k_extra "B"); (case hf => k_is); (case p => exact rfl)))
  | with_reducible refine tr_args_nil ?_
  | with_reducible refine noref_none ?_
  | ((with_reducible show ∀ _ : Addr, Tr _ _ _ _); intro _)
  | ((with_reducible show Tr _ (spliced (backTo _ (starEach (_ :: _) _))) _ _); refine tr_args_cons ?_)
  | ((with_reducible show Tr _ (getAttr (Value.ref _) _ _) _ _); refine' tr_getAttr ?B ?hx ?hP ?hd ?hg ?hh ?ha ?hn ?hv ?_ ?hi; (case B => k_extra "B"); (case hx => k_extra "mem"); (case hP => k_extra "isinst"); (case hd => k_extra "mem"); (case hg => k_extra "getok"); (case hh => k_is); (case ha => k_is); (case hn => k_is); (case hv => exact rfl); (case hi => exact rfl))
  | ((with_reducible show Tr _ (setAttr (Value.ref _) _ _) _ _); refine' tr_setAttr ?B ?hx ?hP ?U ?hs ?hp ?ht ?hh ?_ ?hz; (case B => k_extra "B"); (case hx => k_extra "mem"); (case hP => k_extra "isinst"); (case U => k_extra "upd"); (case hs => k_is); (case hp => k_is); (case ht => k_is); (case hh => k_is); (case hz => decide))
  | ((with_reducible show Tr _ (getMethod (Value.ref _) _ _) _ _); k_extra "meth")
  | ((with_reducible show Tr _ (call (Value.builtin _) _ _) _ _); k_extra "callb")
  | ((with_reducible show Tr _ (storeName _ _ _) _ _); k_extra "store")
  | ((with_reducible show Tr _ (loadName _ _) _ _); refine' tr_ldlocal ?hm ?hv ?_ ?a ?b; (case a => exact rfl); (case b => exact rfl); (case hm => k_extra "mem"); (case hv => k_extra "hv"))
  | ((with_reducible show Tr _ (truthy _) _ _); k_extra "truthy")
  | ((with_reducible show Tr _ (compareOp _ _ _) _ _); k_extra "cmp")
  | ((with_reducible show Tr _ (setItem (Value.ref _) (Value.str _ _) _) _ _); (refine' tr_dictSet ?U ?hz ?_; (case U => k_extra "upd"); (case hz => k_extra "len")))
  | with_reducible refine tr_add fun _ => ?_
  | with_reducible refine tr_iadd fun _ => ?_
  | with_reducible refine tr_sub fun _ => ?_
  | with_reducible refine tr_neg fun _ => ?_
  | with_reducible refine tr_not ?_
  | ((with_reducible show Tr _ (subscriptTail _ _ _ _) _ _); k_extra "sub")
  | ((with_reducible show Tr _ (delete (Expr.Subscript _ _ _) _) _ _); refine tr_delSubscript ?_)
  | ((with_reducible show Tr _ (letOwnedTupleGo (Expr.Name _ _) _ _) _ _); refine tr_letGoName ?_)
  | ((with_reducible show Tr _ (assign (Expr.Name _ _) _ _) _ _); refine tr_assignName ?_)
  | ((with_reducible show Tr _ (callWith _ (Value.type _) _ _ _) _ _); refine tr_callType ?_)
  | ((with_reducible show Tr _ (call (Value.type "zip") _ _) _ _); (refine' tr_zipNew ?h1 ?h2 ?_; (case h1 => k_extra "mem"); (case h2 => k_extra "mem"); intro _ _ _ _ _))
  | ((with_reducible show Tr _ (call (Value.type "type") [Value.int _ _] _) _ _); refine tr_typeInt ?_)
  | ((with_reducible show Tr _ (pyIter _) _ _); first
     | with_reducible refine tr_iterZip ?_
     | (refine' tr_iterInts ?hl ?_; (case hl => k_extra "mem"); intro _)
     | (refine' tr_iterList ?hl ?_; (case hl => k_extra "mem"); intro _)
     | (refine' tr_iterDom ?B ?S ?hx ?_; (case B => k_extra "B"); (case S => exact dsub _); (case hx => k_extra "mem"); intro _)))
section
section
variable {mg mb : Str → Option Value} {c : Cx} {X V : List Cell}
theorem max_make {M : Int} {tM : Tok} {mul : Value} {Q : Value → List Cell → Prop} (B : Bs (hd.heap_39 c.w.params) c mg mb) (R : Rm 6 c.A)
    (h : ∀ con cd, Q (.ref con) ((con, pInst 410 cd) :: (cd, pAttr 2 (conA "_maxsum" M tM mul)) :: X)) : TrF c (.ref 410) [.int M tM, mul] X Q := by
  refine tr_make (fI := 392) B (by k_is) (by k_is) (by k_is) fun x dx => ?_
  have B2 := B.mk' 410 [.int M tM, mul]
  refine' tr_callF (binds := [(Str.ofString "self", .ref x), (Str.ofString "maxsum", .int M tM), (Str.ofString "multipliers", mul)]) B2 (Rm.mk' R _ _) ?ho ?hcd ?hb ?hloc ?_ ?c1 ?c2 ?c3 ?c4
  k_extra "enterD"
  intro Lf
  repeat k_extra "st"
  exact ⟨_, by k_extra "sel", rfl, h x dx⟩
theorem min_make {M : Int} {tM : Tok} {mul : Value} {Q : Value → List Cell → Prop} (B : Bs (hd.heap_39 c.w.params) c mg mb) (R : Rm 6 c.A)
    (h : ∀ con cd, Q (.ref con) ((con, pInst 473 cd) :: (cd, pAttr 2 (conA "_minsum" M tM mul)) :: X)) : TrF c (.ref 473) [.int M tM, mul] X Q := by
  refine tr_make (fI := 462) B (by k_is) (by k_is) (by k_is) fun x dx => ?_
  have B2 := B.mk' 473 [.int M tM, mul]
  refine' tr_callF (binds := [(Str.ofString "self", .ref x), (Str.ofString "minsum", .int M tM), (Str.ofString "multipliers", mul)]) B2 (Rm.mk' R _ _) ?ho ?hcd ?hb ?hloc ?_ ?c1 ?c2 ?c3 ?c4
  k_extra "enterD"
  intro Lf
  repeat k_extra "st"
  exact ⟨_, by k_extra "sel", rfl, h x dx⟩
theorem exact_make {M : Int} {tM : Tok} {mul : Value} {Q : Value → List Cell → Prop} (B : Bs (hd.heap_39 c.w.params) c mg mb) (R : Rm 6 c.A)
    (h : ∀ con cd, Q (.ref con) ((con, pInst 445 cd) :: (cd, pAttr 2 (conA "_exactsum" M tM mul)) :: X)) : TrF c (.ref 445) [.int M tM, mul] X Q := by
  refine tr_make (fI := 427) B (by k_is) (by k_is) (by k_is) fun x dx => ?_
  have B2 := B.mk' 445 [.int M tM, mul]
  refine' tr_callF (binds := [(Str.ofString "self", .ref x), (Str.ofString "exactsum", .int M tM), (Str.ofString "multipliers", mul)]) B2 (Rm.mk' R _ _) ?ho ?hcd ?hb ?hloc ?_ ?c1 ?c2 ?c3 ?c4
  k_extra "enterD"
  intro Lf
  repeat k_extra "st"
  exact ⟨_, by k_extra "sel", rfl, h x dx⟩
theorem rec_make {b : Bool} {Q : Value → List Cell → Prop} (B : Bs (hd.heap_39 c.w.params) c mg mb) (R : Rm 6 c.A)
    (h : ∀ x dx, Q (.ref x) ((x, pInst 225 dx) :: (dx, pAttr 1 (solA b)) :: X)) : TrF c (.ref 225) [.bool b] X Q := by
  refine tr_make (fI := 203) B (by k_is) (by k_is) (by k_is) fun x dx => ?_
  have B2 := B.mk' 225 [.bool b]
  refine' tr_callF (binds := [(Str.ofString "self", .ref x), (Str.ofString "forwardcheck", .bool b)]) B2 (Rm.mk' R _ _) ?ho ?hcd ?hb ?hloc ?_ ?c1 ?c2 ?c3 ?c4
  k_extra "enterD"
  intro Lf
  repeat k_extra "st"
  exact ⟨_, by k_extra "sel", rfl, h x dx⟩
theorem back_make {b : Bool} {Q : Value → List Cell → Prop} (B : Bs (hd.heap_39 c.w.params) c mg mb) (R : Rm 6 c.A)
    (h : ∀ x dx, Q (.ref x) ((x, pInst 186 dx) :: (dx, pAttr 1 (solA b)) :: X)) : TrF c (.ref 186) [.bool b] X Q := by
  refine tr_make (fI := 164) B (by k_is) (by k_is) (by k_is) fun x dx => ?_
  have B2 := B.mk' 186 [.bool b]
  refine' tr_callF (binds := [(Str.ofString "self", .ref x), (Str.ofString "forwardcheck", .bool b)]) B2 (Rm.mk' R _ _) ?ho ?hcd ?hb ?hloc ?_ ?c1 ?c2 ?c3 ?c4
  k_extra "enterD"
  intro Lf
  repeat k_extra "st"
  exact ⟨_, by k_extra "sel", rfl, h x dx⟩
theorem back_make0 {Q : Value → List Cell → Prop} (B : Bs (hd.heap_39 c.w.params) c mg mb) (R : Rm 6 c.A)
    (h : ∀ x dx, Q (.ref x) ((x, pInst 186 dx) :: (dx, pAttr 1 (solA true)) :: X)) : TrF c (.ref 186) [] X Q := by
  refine tr_make (fI := 164) B (by k_is) (by k_is) (by k_is) fun x dx => ?_
  have B2 := B.mk' 186 []
  refine' tr_callF (binds := [(Str.ofString "self", .ref x), (Str.ofString "forwardcheck", .bool true)]) B2 (Rm.mk' R _ _) ?ho ?hcd ?hb ?hloc ?_ ?c1 ?c2 ?c3 ?c4
  k_extra "enterD"
  intro Lf
  repeat k_extra "st"
  exact ⟨_, by k_extra "sel", rfl, h x dx⟩
end
end
section
def probA (sv cs vs : Addr) : Str → Option Value := fun y => if y = Str.ofString "_variables" then some (.ref vs) else if y = Str.ofString "_constraints" then some (.ref cs) else if y = Str.ofString "_solver" then some (.ref sv) else none
section
variable {mg mb : Str → Option Value} {c : Cx} {X V : List Cell}
theorem prob_make0 {Q : Value → List Cell → Prop} (B : Bs (hd.heap_39 c.w.params) c mg mb) (R : Rm 12 c.A)
    (h : ∀ p pd sv sd cs vs, Q (.ref p) ((p, pInst 110 pd) :: (pd, pAttr 3 (probA sv cs vs)) :: (sv, pInst 186 sd) :: (sd, pAttr 1 (solA true)) :: (cs, pList []) :: (vs, pDict c []) :: X)) : TrF c (.ref 110) [] X Q := by
  refine tr_make (fI := 36) B (by k_is) (by k_is) (by k_is) fun x dx => ?_
  have B2 := B.mk' 110 []
  have R2 := Rm.mk' R 110 []
  refine' tr_callF (binds := [(Str.ofString "self", .ref x), (Str.ofString "solver", .none)]) B2 R2 ?ho ?hcd ?hb ?hloc ?_ ?c1 ?c2 ?c3 ?c4
  k_extra "enterD"
  intro Lf
  repeat k_extra "st"
  refine ⟨fun q => (nomatch q), fun _ => ?_⟩
  repeat k_extra "st"
  refine (back_make0 (B2.deeper _) ((R2.deeper _).le (by omega)) fun sv sd => ?_).tr
  repeat k_extra "st"
  exact ⟨_, by k_extra "sel", rfl, h _ _ _ _ _ _⟩
theorem prob_make1 {S sv sd : Addr} {m : Str → Option Value} {Q : Value → List Cell → Prop} (B : Bs (hd.heap_39 c.w.params) c mg mb) (R : Rm 12 c.A) (hS : S = 186 ∨ S = 225)
    (h : ∀ p pd cs vs, Q (.ref p) ((p, pInst 110 pd) :: (pd, pAttr 3 (probA sv cs vs)) :: (sv, pInst S sd) :: (sd, pAttr 1 m) :: (cs, pList []) :: (vs, pDict c []) :: X)) : TrF c (.ref 110) [.ref sv] ((sv, pInst S sd) :: (sd, pAttr 1 m) :: X) Q := by
  refine tr_make (fI := 36) B (by k_is) (by k_is) (by k_is) fun x dx => ?_
  have B2 := B.mk' 110 [.ref sv]
  have R2 := Rm.mk' R 110 [.ref sv]
  refine' tr_callF (binds := [(Str.ofString "self", .ref x), (Str.ofString "solver", .ref sv)]) B2 R2 ?ho ?hcd ?hb ?hloc ?_ ?c1 ?c2 ?c3 ?c4
  k_extra "enterD"
  intro Lf
  repeat k_extra "st"
  refine tr_truthyInst (C := S) (B2.deeper _) (by k_extra "mem") (by k_extra "mem") (by rcases hS with rfl | rfl <;> k_is) (by rcases hS with rfl | rfl <;> k_is) ⟨fun _ => ?_, fun q => (nomatch q)⟩
  repeat k_extra "st"
  exact ⟨_, by k_extra "sel", rfl, h _ _ _ _⟩
end
end
section
section
variable {mg mb : Str → Option Value} {c : Cx} {X V : List Cell}
theorem law_problem {n : Int} {t : Tok} {Q : Value → List Cell → Prop} (B : Bs (hd.heap_39 c.w.params) c mg mb) (R : Rm 16 c.A)
    (h : ∀ p pd sv sd cs vs S b, (S = 186 ∨ S = 225) → Q (.ref p) ((p, pInst 110 pd) :: (pd, pAttr 3 (probA sv cs vs)) :: (sv, pInst S sd) :: (sd, pAttr 1 (solA b)) :: (cs, pList []) :: (vs, pDict c []) :: X)) :
    Tr c (call (.ref 489) [.int n t] []) X Q := by
  refine' tr_call (binds := [(Str.ofString "kind", .int n t)]) B R ?ho ?hcd ?hb ?hloc ?_ ?c1 ?c2 ?c3 ?c4
  k_extra "enter"
  intro Lf
  repeat k_extra "st"
  refine tr_mod (by decide) fun _ => ?_
  repeat k_extra "st"
  refine ⟨fun hb => ?_, fun hb => ?_⟩
  · repeat k_extra "st"
    refine Tr.sel (by k_extra "sel") (prob_make0 (B.deeper _) ((R.deeper _).le (by omega)) fun p pd sv sd cs vs => ?_).tr
    repeat k_extra "st"
    exact ⟨_, by k_extra "sel", h _ _ _ _ _ _ _ _ (.inl rfl)⟩
  · repeat k_extra "st"
    refine tr_mod (by decide) fun _ => ?_
    repeat k_extra "st"
    refine ⟨fun hb => ?_, fun hb => ?_⟩
    · repeat k_extra "st"
      refine (back_make (B.deeper _) ((R.deeper _).le (by omega)) fun sv sd => ?_).tr
      repeat k_extra "st"
      refine Tr.sel (by k_extra "sel") (prob_make1 (B.deeper _) ((R.deeper _).le (by omega)) (.inl rfl) fun p pd cs vs => ?_).tr
      repeat k_extra "st"
      exact ⟨_, by k_extra "sel", h _ _ _ _ _ _ _ _ (.inl rfl)⟩
    · repeat k_extra "st"
      refine tr_mod (by decide) fun _ => ?_
      repeat k_extra "st"
      refine (rec_make (B.deeper _) ((R.deeper _).le (by omega)) fun sv sd => ?_).tr
      repeat k_extra "st"
      refine Tr.sel (by k_extra "sel") (prob_make1 (B.deeper _) ((R.deeper _).le (by omega)) (.inr rfl) fun p pd cs vs => ?_).tr
      repeat k_extra "st"
      exact ⟨_, by k_extra "sel", h _ _ _ _ _ _ _ _ (.inr rfl)⟩
end
end
section
section
variable {mg mb : Str → Option Value} {c : Cx} {X V : List Cell}
theorem dom_makes (P : Params) : makesInL (hd.heap_39 P) 303 = true := makesInL_of (K := hd.heap_39 P) (by k_is) (by decide +kernel) (by k_is) (by k_is)
theorem dom_make {b : Addr} {ns : List Int} {Q : Value → List Cell → Prop} (B : Bs (hd.heap_39 c.w.params) c mg mb) (R : Rm 6 c.A) (hz : ns.length ≤ sizeLine)
    (h : ∀ d dd hd st, Q (.ref d) ((d, pDomL 303 dd ns) :: (dd, pAttr 2 (domA hd st)) :: (hd, pList []) :: (st, pList []) :: (b, pInts ns) :: X)) : TrF c (.ref 303) [.ref b] ((b, pInts ns) :: X) Q := by
  refine tr_makeL (fI := 272) B (dom_makes _) (by k_is) (by k_is) fun x dx => ?_
  have B2 := B.mk' 303 [.ref b]
  have R2 := Rm.mk' R 303 [.ref b]
  refine' tr_callF (binds := [(Str.ofString "self", .ref x), (Str.ofString "values", .ref b)]) B2 R2 ?ho ?hcd ?hb ?hloc ?_ ?c1 ?c2 ?c3 ?c4
  k_extra "enter"
  intro Lf
  repeat k_extra "st"
  refine' tr_getMethodT (v := .builtin "list.__init__") ?gB ?gt ?gs ?ge ?gh ?_
  (case gB => exact B2.deeper _)
  (case gt => first | rfl | kernel_rfl)
  (case gs => decide +kernel)
  (case ge => k_is)
  (case gh => rfl)
  repeat k_extra "st"
  refine' tr_listInit (B2.deeper _) (dsub _) ?U ?hb2 hz ?_
  (case U => k_extra "upd")
  (case hb2 => k_extra "mem")
  repeat k_extra "st"
  refine' tr_setAttrL (B2.deeper _) ?hx ?hP ?U2 ?hs ?hc ?hmr ?ht ?hh ?_ ?hz
  (case hx => k_extra "mem")
  (case hP => k_extra "isinst")
  (case U2 => k_extra "upd")
  (case hs => k_is)
  (case hc => k_is)
  (case hmr => rfl)
  (case ht => k_is)
  (case hh => rfl)
  (case hz => decide)
  repeat k_extra "st"
  refine' tr_setAttrL (B2.deeper _) ?hx3 ?hP3 ?U3 ?hs3 ?hc3 ?hmr3 ?ht3 ?hh3 ?_ ?hz3
  (case hx3 => k_extra "mem")
  (case hP3 => k_extra "isinst")
  (case U3 => k_extra "upd")
  (case hs3 => k_is)
  (case hc3 => k_is)
  (case hmr3 => rfl)
  (case ht3 => k_is)
  (case hh3 => rfl)
  (case hz3 => decide)
  repeat k_extra "st"
  exact ⟨_, by k_extra "sel", rfl, h _ _ _ _⟩
end
end
section
section
variable {mg mb : Str → Option Value} {c : Cx} {X V : List Cell}
theorem add_var {p pd sv cs vs b : Addr} {nm : Str} {tk : Tok} {ns : List Int} {kvs : List (Str × Value)} {Q : Value → List Cell → Prop} (B : Bs (hd.heap_39 c.w.params) c mg mb) (R : Rm 12 c.A) (hz : ns.length ≤ sizeLine) (hne : ns ≠ []) (hk : kvs.length ≤ sizeLine)
    (hnew : valueAt kvs nm = none)
    (h : ∀ d dd hd st, Q .none ((d, pDomL 303 dd ns) :: (dd, pAttr 2 (domA hd st)) :: (hd, pList []) :: (st, pList []) :: (p, pInst 110 pd) :: (pd, pAttr 3 (probA sv cs vs)) :: (vs, pDict c (stored kvs nm (.ref d))) :: (b, pInts ns) :: X)) :
    TrF c (.ref 64) [.ref p, .str nm tk, .ref b] ((p, pInst 110 pd) :: (pd, pAttr 3 (probA sv cs vs)) :: (vs, pDict c kvs) :: (b, pInts ns) :: X) Q := by
  refine' tr_callF (binds := [(Str.ofString "self", .ref p), (Str.ofString "variable", .str nm tk), (Str.ofString "domain", .ref b)]) B R ?ho ?hcd ?hb ?hloc ?_ ?c1 ?c2 ?c3 ?c4
  k_extra "enter"
  intro Lf
  repeat k_extra "st"
  rw [hnew]
  repeat k_extra "st"
  refine ⟨fun q => (nomatch q), fun _ => ?_⟩
  repeat k_extra "st"
  refine tr_hasattrInts (by k_extra "mem") ?_
  repeat k_extra "st"
  refine ⟨fun _ => ?_, fun q => (nomatch q)⟩
  repeat k_extra "st"
  refine Tr.sel (by k_extra "sel") (dom_make (B.deeper _) ((R.deeper _).le (by omega)) hz fun d dd hd st => ?_).tr
  repeat k_extra "st"
  refine ⟨fun q => ?_, fun _ => ?_⟩
  · cases ns with
    | nil => exact absurd rfl hne
    | cons => cases q
  repeat k_extra "st"
  exact ⟨_, by k_extra "sel", h _ _ _ _⟩
theorem add_con {p pd sv cs vs con cd vl : Addr} {C : Addr} {es : List Value} {Q : Value → List Cell → Prop} (B : Bs (hd.heap_39 c.w.params) c mg mb) (R : Rm 12 c.A) (hes : es.length < 1000)
    (hC : isIn (hd.heap_39 c.w.params) (.ref C) 347 = true)
    (h : ∀ tp, Q .none ((tp, pTup [.ref con, .ref vl]) :: (p, pInst 110 pd) :: (pd, pAttr 3 (probA sv cs vs)) :: (cs, pList (es ++ [.ref tp])) :: (con, pInst C cd) :: X)) :
    TrF c (.ref 79) [.ref p, .ref con, .ref vl] ((p, pInst 110 pd) :: (pd, pAttr 3 (probA sv cs vs)) :: (cs, pList es) :: (con, pInst C cd) :: X) Q := by
  refine' tr_callF (binds := [(Str.ofString "self", .ref p), (Str.ofString "constraint", .ref con), (Str.ofString "variables", .ref vl)]) B R ?ho ?hcd ?hb ?hloc ?_ ?c1 ?c2 ?c3 ?c4
  k_extra "enterD"
  intro Lf
  repeat k_extra "st"
  refine tr_isinstance (C := C) (B.deeper _) (by k_extra "mem") hC ?_
  repeat k_extra "st"
  refine ⟨fun q => (nomatch q), fun _ => ?_⟩
  repeat k_extra "st"
  refine ⟨by have := sz24; show 2 ≤ sizeLine; omega, fun tp => ?_⟩
  have hz2 : es.length + 1 ≤ sizeLine := by have := sz24; omega
  have hz3 : es.length ≤ sizeLine := by have := sz24; omega
  repeat k_extra "st"
  exact ⟨_, by k_extra "sel", h _⟩
end
end
section
def cut (M : Int) (D : Dm) : Dm := { D with vs := D.vs.filter (fun v => decide (v * D.f ≤ M)) }
section
variable {mg mb : Str → Option Value} {c : Cx} {X V : List Cell}
theorem base_prep {con vl : Addr} {nvs : List Value} {dmv csv vcv : Value} {Q : Value → List Cell → Prop} (B : Bs (hd.heap_39 c.w.params) c mg mb) (R : Rm 6 c.A) (h2 : 2 ≤ nvs.length) (hlen : nvs.length ≤ sizeLine) (h : Q .none ((vl, pList nvs) :: X)) :
    TrF c (.ref 336) [.ref con, .ref vl, dmv, csv, vcv] ((vl, pList nvs) :: X) Q := by
  refine' tr_callF (binds := [(Str.ofString "self", .ref con), (Str.ofString "variables", .ref vl), (Str.ofString "domains", dmv), (Str.ofString "constraints", csv), (Str.ofString "vconstraints", vcv)]) B R ?ho ?hcd ?hb ?hloc ?_ ?c1 ?c2 ?c3 ?c4
  k_extra "enter"
  intro Lf
  repeat k_extra "st"
  refine ⟨fun q => ?_, fun _ => ?_⟩
  · exfalso
    have : (nvs.length : Int) = 1 := by simpa using q
    omega
  repeat k_extra "st"
  exact ⟨_, by k_extra "sel", h⟩
theorem max_prep_mult {con cd vl dm fl : Addr} {M : Int} {tM : Tok} {nvs : List Value} {Ds : List Dm} {csv vcv : Value} {ep : Nat} {Q : Value → List Cell → Prop}
    (B : Bs (hd.heap_39 c.w.params) c mg mb) (R : Rm 10 c.A) (hnm : StrsAre nvs (Ds.map (·.nm))) (hnd : (Ds.map (·.nm)).Nodup) (hmul : ∀ D ∈ Ds, ∀ a ∈ D.vs, IntMulOk a D.f) (hlf : (Ds.map (·.f)).length ≤ sizeLine) (hne : Ds ≠ []) (h2 : 2 ≤ nvs.length) (hlen : nvs.length ≤ sizeLine)
    (hsz : ∀ D ∈ Ds, D.vs.length ≤ 1000)
    (h : Q .none ((con, pInst 410 cd) :: (cd, pAttr 2 (conA "_maxsum" M tM (.ref fl))) :: (vl, pList nvs) :: (dm, pDictE c ep (dmap Ds)) :: ((fl, pInts (Ds.map (·.f))) :: (dcl (Ds.map (cut M)) ++ X)))) :
    TrF c (.ref 399) [.ref con, .ref vl, .ref dm, csv, vcv] ((con, pInst 410 cd) :: (cd, pAttr 2 (conA "_maxsum" M tM (.ref fl))) :: (vl, pList nvs) :: (dm, pDictE c ep (dmap Ds)) :: ((fl, pInts (Ds.map (·.f))) :: (dcl Ds ++ X))) Q := by
  refine' tr_callF (binds := [(Str.ofString "self", .ref con), (Str.ofString "variables", .ref vl), (Str.ofString "domains", .ref dm), (Str.ofString "constraints", csv), (Str.ofString "vconstraints", vcv)]) B R ?ho ?hcd ?hb ?hloc ?_ ?c1 ?c2 ?c3 ?c4
  k_extra "enter"
  intro Lf
  repeat k_extra "st"
  refine tr_getMethodC (C := 347) (f := 336) (mc := .type "type") (B.deeper _) (by k_is) (by k_is) (by k_is) ?_
  repeat k_extra "st"
  refine Tr.sel (by k_extra "sel") (base_prep (B.deeper _) ((R.deeper _).le (by omega)) h2 hlen ?_).tr
  repeat k_extra "st"
  refine ⟨fun hb => ?_, fun hb => ?_⟩
  rotate_left
  · cases Ds with
    | nil => exact absurd rfl hne
    | cons D r => simp at hb
  clear hb
  repeat k_extra "st"
  rename_i z TI TO i1 i2
  refine tr_forLoop (fun k L' => ∃ A Bs m, Ds = A ++ Bs ∧ k = Bs.length ∧ Sel (zcs z TI TO i1 i2 vl fl (A.length) .none ++ ((Lf, pNs m) :: (con, pInst 410 cd) :: (cd, pAttr 2 (conA "_maxsum" M tM (.ref fl))) :: (vl, pList nvs) :: (dm, pDictE c ep (dmap Ds)) :: ((fl, pInts (Ds.map (·.f))) :: (dcl (A.map (cut M) ++ Bs) ++ X)))) L' ∧
      FrHas m [(Str.ofString "maxsum", .int M tM), (Str.ofString "multipliers", (.ref fl)), (Str.ofString "self", .ref con), (Str.ofString "variables", .ref vl), (Str.ofString "domains", .ref dm)]) ?_ Ds.length ?init1
  rotate_left
  · refine' ⟨[], Ds, _, rfl, rfl, ?hs1, ?hf1⟩
    (case hs1 => rw [List.map_nil, List.nil_append]; k_extra "sel")
    (case hf1 => k_extra "fr")
  intro k L' hI
  obtain ⟨A, Bs, m, hD, rfl, hsel, hF⟩ := hI
  refine Tr.sel hsel ?_
  clear hsel
  cases Bs with
  | nil =>
    rw [List.append_nil] at hD
    subst hD
    refine tr_nextZipEnd (R.deeper _) (by k_extra "mem") (by k_extra "mem") (.inr (by simp)) ?_
    dsimp only
    repeat k_extra "st"
    rw [List.append_nil]
    exact ⟨_, by k_extra "sel", h⟩
  | cons D Bs =>
    have hDi : (Ds.map (·.nm))[A.length]? = some D.nm := by simp [hD]
    have hDm : D ∈ Ds := by simp [hD]
    obtain ⟨tn, hnv⟩ := strs_get hnm hDi
    have hdv := dmap_find hnd hDm
    have hz1 : D.vs.length ≤ sizeLine := by have := hsz D hDm; have := sz24; omega
    refine tr_nextZip (by k_extra "mem") (by k_extra "mem") hnv (y := D.f) (by simp [hD]) ?_
    intro T tf
    refine tr_letGoZip ?_
    refine tr_Tup2 (R.deeper _) (by k_extra "mem") ?_
    repeat k_extra "st"
    refine Tr.sel (by k_extra "focus") ?_
    repeat k_extra "st"
    rename_i sl cp it2
    refine tr_forLoop (fun k L' => ∃ p q m', D.vs = p ++ q ∧ k = q.length ∧ Sel ((it2, pLIter cp p.length) :: (cp, pInts D.vs) :: (D.d, pDomL 303 D.dd (p.filter (fun v => decide (v * D.f ≤ M)) ++ q)) :: (D.dd, pAttr 2 (domA D.hd D.st)) :: (D.hd, pInts D.hs) :: (D.st, pInts D.ss) :: (zcs z TI TO i1 i2 vl fl (A.length + 1) .none ++ ((Lf, pNs m') :: (con, pInst 410 cd) :: (cd, pAttr 2 (conA "_maxsum" M tM (.ref fl))) :: (vl, pList nvs) :: (dm, pDictE c ep (dmap Ds)) :: ((fl, pInts (Ds.map (·.f))) :: (dcl (A.map (cut M) ++ Bs) ++ X))))) L' ∧
      FrHas m' [(Str.ofString "multiplier", .int D.f tf), (Str.ofString "domain", .ref D.d), (Str.ofString "maxsum", .int M tM), (Str.ofString "multipliers", (.ref fl)), (Str.ofString "self", .ref con), (Str.ofString "variables", .ref vl), (Str.ofString "domains", .ref dm)]) ?_ D.vs.length ?init
    rotate_left
    · refine' ⟨[], D.vs, _, rfl, rfl, ?hs, ?hf⟩
      (case hs => rw [List.filter_nil, List.nil_append]; k_extra "sel")
      (case hf => k_extra "fr")
    clear hF
    intro k L' hI
    obtain ⟨p, q, m', hv, rfl, hsel, hF⟩ := hI
    refine Tr.sel hsel ?_
    clear hsel
    have hlq : p.length + q.length = D.vs.length := by rw [hv, List.length_append]
    have hlv : (p.filter (fun v => decide (v * D.f ≤ M)) ++ q).length ≤ sizeLine := by have := List.length_filter_le (fun v => decide (v * D.f ≤ M)) p; rw [List.length_append]; omega
    cases q with
    | nil =>
      rw [List.append_nil] at hv
      refine tr_nextIntEnd (R.deeper _) (by k_extra "rem") (by k_extra "mem") pInts_seq (by simp [hv]) ?_
      dsimp only
      repeat k_extra "st"
      rw [List.append_nil]
      refine' ⟨Bs.length, _, by simp, Sel.refl, A ++ [D], Bs, _, by simp [hD], rfl, ?hs2, ?hf2⟩
      (case hs2 => rw [List.length_append, List.length_singleton, List.map_append, List.map_singleton, show cut M D = { D with vs := p.filter (fun v => decide (v * D.f ≤ M)) } by rw [← hv]; rfl, List.append_assoc, List.singleton_append]; k_extra "back")
      (case hf2 => k_extra "fr")
    | cons v q =>
      refine tr_nextInt (by k_extra "upd") (by k_extra "mem") pInts_seq (v := v) (by simp [hv]) fun tv => ?_
      dsimp only
      repeat k_extra "st"
      refine tr_mul (hmul D hDm v (by simp [hv])) fun _ => ?_
      repeat k_extra "st"
      refine ⟨fun hq => ?_, fun hq => ?_⟩
      · have hq' : ¬ (v * D.f ≤ M) := by simpa using hq
        have hmem : v ∈ p.filter (fun v => decide (v * D.f ≤ M)) ++ v :: q := by simp
        repeat k_extra "st"
        have hnm' : v ∉ p.filter (fun v => decide (v * D.f ≤ M)) := fun hm => hq' (by simpa using (List.mem_filter.mp hm).2)
        rw [List.erase_append_right _ hnm', List.erase_cons_head]
        refine' ⟨q.length, _, by simp, Sel.refl, p ++ [v], q, _, by simp [hv], rfl, ?hs3, ?hf3⟩
        (case hs3 => rw [List.length_append, List.length_singleton, List.filter_append, show [v].filter (fun v => decide (v * D.f ≤ M)) = [] by simp; omega, List.append_nil]; k_extra "sel")
        (case hf3 => k_extra "fr")
      · have hq' : v * D.f ≤ M := by simpa using hq
        repeat k_extra "st"
        refine' ⟨q.length, _, by simp, Sel.refl, p ++ [v], q, _, by simp [hv], rfl, ?hs4, ?hf4⟩
        (case hs4 => rw [List.length_append, List.length_singleton, List.filter_append, show [v].filter (fun v => decide (v * D.f ≤ M)) = [v] by simp [hq'], List.append_assoc, List.singleton_append]; k_extra "sel")
        (case hf4 => k_extra "fr")
theorem max_prep_plain {con cd vl dm : Addr} {M : Int} {tM : Tok} {nvs : List Value} {Ds : List Dm} {csv vcv : Value} {ep : Nat} {Q : Value → List Cell → Prop}
    (B : Bs (hd.heap_39 c.w.params) c mg mb) (R : Rm 10 c.A) (hnm : StrsAre nvs (Ds.map (·.nm))) (hnd : (Ds.map (·.nm)).Nodup) (hf1 : ∀ D ∈ Ds, D.f = 1) (h2 : 2 ≤ nvs.length) (hlen : nvs.length ≤ sizeLine)
    (hsz : ∀ D ∈ Ds, D.vs.length ≤ 1000)
    (h : Q .none ((con, pInst 410 cd) :: (cd, pAttr 2 (conA "_maxsum" M tM .none)) :: (vl, pList nvs) :: (dm, pDictE c ep (dmap Ds)) :: ((dcl (Ds.map (cut M)) ++ X)))) :
    TrF c (.ref 399) [.ref con, .ref vl, .ref dm, csv, vcv] ((con, pInst 410 cd) :: (cd, pAttr 2 (conA "_maxsum" M tM .none)) :: (vl, pList nvs) :: (dm, pDictE c ep (dmap Ds)) :: ((dcl Ds ++ X))) Q := by
  refine' tr_callF (binds := [(Str.ofString "self", .ref con), (Str.ofString "variables", .ref vl), (Str.ofString "domains", .ref dm), (Str.ofString "constraints", csv), (Str.ofString "vconstraints", vcv)]) B R ?ho ?hcd ?hb ?hloc ?_ ?c1 ?c2 ?c3 ?c4
  k_extra "enter"
  intro Lf
  repeat k_extra "st"
  refine tr_getMethodC (C := 347) (f := 336) (mc := .type "type") (B.deeper _) (by k_is) (by k_is) (by k_is) ?_
  repeat k_extra "st"
  refine Tr.sel (by k_extra "sel") (base_prep (B.deeper _) ((R.deeper _).le (by omega)) h2 hlen ?_).tr
  repeat k_extra "st"
  refine ⟨fun hb => ?_, fun hb => ?_⟩
  · cases hb
  clear hb
  repeat k_extra "st"
  rename_i it
  refine tr_forLoop (fun k L' => ∃ A Bs m, Ds = A ++ Bs ∧ k = Bs.length ∧ Sel ((it, pLIter vl (A.length)) :: ((Lf, pNs m) :: (con, pInst 410 cd) :: (cd, pAttr 2 (conA "_maxsum" M tM .none)) :: (vl, pList nvs) :: (dm, pDictE c ep (dmap Ds)) :: ((dcl (A.map (cut M) ++ Bs) ++ X)))) L' ∧
      FrHas m [(Str.ofString "maxsum", .int M tM), (Str.ofString "multipliers", .none), (Str.ofString "self", .ref con), (Str.ofString "variables", .ref vl), (Str.ofString "domains", .ref dm)]) ?_ Ds.length ?init1
  rotate_left
  · refine' ⟨[], Ds, _, rfl, rfl, ?hs1, ?hf1⟩
    (case hs1 => rw [List.map_nil, List.nil_append]; k_extra "sel")
    (case hf1 => k_extra "fr")
  intro k L' hI
  obtain ⟨A, Bs, m, hD, rfl, hsel, hF⟩ := hI
  refine Tr.sel hsel ?_
  clear hsel
  cases Bs with
  | nil =>
    rw [List.append_nil] at hD
    subst hD
    refine tr_nextEnd (R.deeper _) (by k_extra "rem") (by k_extra "mem") pList_seq (List.getElem?_eq_none (by rw [strs_len hnm, List.length_map]; exact Nat.le_refl _)) ?_
    dsimp only
    repeat k_extra "st"
    rw [List.append_nil]
    exact ⟨_, by k_extra "sel", h⟩
  | cons D Bs =>
    have hDi : (Ds.map (·.nm))[A.length]? = some D.nm := by simp [hD]
    have hDm : D ∈ Ds := by simp [hD]
    obtain ⟨tn, hnv⟩ := strs_get hnm hDi
    have hdv := dmap_find hnd hDm
    have hz1 : D.vs.length ≤ sizeLine := by have := hsz D hDm; have := sz24; omega
    refine tr_nextItem (by k_extra "upd") (by k_extra "mem") pList_seq hnv ?_
    dsimp only
    repeat k_extra "st"
    refine Tr.sel (by k_extra "focus") ?_
    repeat k_extra "st"
    rename_i sl cp it2
    refine tr_forLoop (fun k L' => ∃ p q m', D.vs = p ++ q ∧ k = q.length ∧ Sel ((it2, pLIter cp p.length) :: (cp, pInts D.vs) :: (D.d, pDomL 303 D.dd (p.filter (fun v => decide (v * D.f ≤ M)) ++ q)) :: (D.dd, pAttr 2 (domA D.hd D.st)) :: (D.hd, pInts D.hs) :: (D.st, pInts D.ss) :: ((it, pLIter vl (A.length + 1)) :: ((Lf, pNs m') :: (con, pInst 410 cd) :: (cd, pAttr 2 (conA "_maxsum" M tM .none)) :: (vl, pList nvs) :: (dm, pDictE c ep (dmap Ds)) :: ((dcl (A.map (cut M) ++ Bs) ++ X))))) L' ∧
      FrHas m' [(Str.ofString "domain", .ref D.d), (Str.ofString "maxsum", .int M tM), (Str.ofString "multipliers", .none), (Str.ofString "self", .ref con), (Str.ofString "variables", .ref vl), (Str.ofString "domains", .ref dm)]) ?_ D.vs.length ?init
    rotate_left
    · refine' ⟨[], D.vs, _, rfl, rfl, ?hs, ?hf⟩
      (case hs => rw [List.filter_nil, List.nil_append]; k_extra "sel")
      (case hf => k_extra "fr")
    clear hF
    intro k L' hI
    obtain ⟨p, q, m', hv, rfl, hsel, hF⟩ := hI
    refine Tr.sel hsel ?_
    clear hsel
    have hlq : p.length + q.length = D.vs.length := by rw [hv, List.length_append]
    have hlv : (p.filter (fun v => decide (v * D.f ≤ M)) ++ q).length ≤ sizeLine := by have := List.length_filter_le (fun v => decide (v * D.f ≤ M)) p; rw [List.length_append]; omega
    cases q with
    | nil =>
      rw [List.append_nil] at hv
      refine tr_nextIntEnd (R.deeper _) (by k_extra "rem") (by k_extra "mem") pInts_seq (by simp [hv]) ?_
      dsimp only
      repeat k_extra "st"
      rw [List.append_nil]
      refine' ⟨Bs.length, _, by simp, Sel.refl, A ++ [D], Bs, _, by simp [hD], rfl, ?hs2, ?hf2⟩
      (case hs2 => rw [List.length_append, List.length_singleton, List.map_append, List.map_singleton, show cut M D = { D with vs := p.filter (fun v => decide (v * D.f ≤ M)) } by rw [← hv]; rfl, List.append_assoc, List.singleton_append]; k_extra "back")
      (case hf2 => k_extra "fr")
    | cons v q =>
      refine tr_nextInt (by k_extra "upd") (by k_extra "mem") pInts_seq (v := v) (by simp [hv]) fun tv => ?_
      dsimp only
      repeat k_extra "st"
      refine ⟨fun hq => ?_, fun hq => ?_⟩
      · have hq' : ¬ (v * D.f ≤ M) := by rw [hf1 D hDm, Int.mul_one]; simpa using hq
        have hmem : v ∈ p.filter (fun v => decide (v * D.f ≤ M)) ++ v :: q := by simp
        repeat k_extra "st"
        have hnm' : v ∉ p.filter (fun v => decide (v * D.f ≤ M)) := fun hm => hq' (by simpa using (List.mem_filter.mp hm).2)
        rw [List.erase_append_right _ hnm', List.erase_cons_head]
        refine' ⟨q.length, _, by simp, Sel.refl, p ++ [v], q, _, by simp [hv], rfl, ?hs3, ?hf3⟩
        (case hs3 => rw [List.length_append, List.length_singleton, List.filter_append, show [v].filter (fun v => decide (v * D.f ≤ M)) = [] by simp; omega, List.append_nil]; k_extra "sel")
        (case hf3 => k_extra "fr")
      · have hq' : v * D.f ≤ M := by rw [hf1 D hDm, Int.mul_one]; simpa using hq
        repeat k_extra "st"
        refine' ⟨q.length, _, by simp, Sel.refl, p ++ [v], q, _, by simp [hv], rfl, ?hs4, ?hf4⟩
        (case hs4 => rw [List.length_append, List.length_singleton, List.filter_append, show [v].filter (fun v => decide (v * D.f ≤ M)) = [v] by simp [hq'], List.append_assoc, List.singleton_append]; k_extra "sel")
        (case hf4 => k_extra "fr")
theorem exact_prep_mult {con cd vl dm fl : Addr} {M : Int} {tM : Tok} {nvs : List Value} {Ds : List Dm} {csv vcv : Value} {ep : Nat} {Q : Value → List Cell → Prop}
    (B : Bs (hd.heap_39 c.w.params) c mg mb) (R : Rm 10 c.A) (hnm : StrsAre nvs (Ds.map (·.nm))) (hnd : (Ds.map (·.nm)).Nodup) (hmul : ∀ D ∈ Ds, ∀ a ∈ D.vs, IntMulOk a D.f) (hlf : (Ds.map (·.f)).length ≤ sizeLine) (hne : Ds ≠ []) (h2 : 2 ≤ nvs.length) (hlen : nvs.length ≤ sizeLine)
    (hsz : ∀ D ∈ Ds, D.vs.length ≤ 1000)
    (h : Q .none ((con, pInst 445 cd) :: (cd, pAttr 2 (conA "_exactsum" M tM (.ref fl))) :: (vl, pList nvs) :: (dm, pDictE c ep (dmap Ds)) :: ((fl, pInts (Ds.map (·.f))) :: (dcl (Ds.map (cut M)) ++ X)))) :
    TrF c (.ref 434) [.ref con, .ref vl, .ref dm, csv, vcv] ((con, pInst 445 cd) :: (cd, pAttr 2 (conA "_exactsum" M tM (.ref fl))) :: (vl, pList nvs) :: (dm, pDictE c ep (dmap Ds)) :: ((fl, pInts (Ds.map (·.f))) :: (dcl Ds ++ X))) Q := by
  refine' tr_callF (binds := [(Str.ofString "self", .ref con), (Str.ofString "variables", .ref vl), (Str.ofString "domains", .ref dm), (Str.ofString "constraints", csv), (Str.ofString "vconstraints", vcv)]) B R ?ho ?hcd ?hb ?hloc ?_ ?c1 ?c2 ?c3 ?c4
  k_extra "enter"
  intro Lf
  repeat k_extra "st"
  refine tr_getMethodC (C := 347) (f := 336) (mc := .type "type") (B.deeper _) (by k_is) (by k_is) (by k_is) ?_
  repeat k_extra "st"
  refine Tr.sel (by k_extra "sel") (base_prep (B.deeper _) ((R.deeper _).le (by omega)) h2 hlen ?_).tr
  repeat k_extra "st"
  refine ⟨fun hb => ?_, fun hb => ?_⟩
  rotate_left
  · cases Ds with
    | nil => exact absurd rfl hne
    | cons D r => simp at hb
  clear hb
  repeat k_extra "st"
  rename_i z TI TO i1 i2
  refine tr_forLoop (fun k L' => ∃ A Bs m, Ds = A ++ Bs ∧ k = Bs.length ∧ Sel (zcs z TI TO i1 i2 vl fl (A.length) .none ++ ((Lf, pNs m) :: (con, pInst 445 cd) :: (cd, pAttr 2 (conA "_exactsum" M tM (.ref fl))) :: (vl, pList nvs) :: (dm, pDictE c ep (dmap Ds)) :: ((fl, pInts (Ds.map (·.f))) :: (dcl (A.map (cut M) ++ Bs) ++ X)))) L' ∧
      FrHas m [(Str.ofString "exactsum", .int M tM), (Str.ofString "multipliers", (.ref fl)), (Str.ofString "self", .ref con), (Str.ofString "variables", .ref vl), (Str.ofString "domains", .ref dm)]) ?_ Ds.length ?init1
  rotate_left
  · refine' ⟨[], Ds, _, rfl, rfl, ?hs1, ?hf1⟩
    (case hs1 => rw [List.map_nil, List.nil_append]; k_extra "sel")
    (case hf1 => k_extra "fr")
  intro k L' hI
  obtain ⟨A, Bs, m, hD, rfl, hsel, hF⟩ := hI
  refine Tr.sel hsel ?_
  clear hsel
  cases Bs with
  | nil =>
    rw [List.append_nil] at hD
    subst hD
    refine tr_nextZipEnd (R.deeper _) (by k_extra "mem") (by k_extra "mem") (.inr (by simp)) ?_
    dsimp only
    repeat k_extra "st"
    rw [List.append_nil]
    exact ⟨_, by k_extra "sel", h⟩
  | cons D Bs =>
    have hDi : (Ds.map (·.nm))[A.length]? = some D.nm := by simp [hD]
    have hDm : D ∈ Ds := by simp [hD]
    obtain ⟨tn, hnv⟩ := strs_get hnm hDi
    have hdv := dmap_find hnd hDm
    have hz1 : D.vs.length ≤ sizeLine := by have := hsz D hDm; have := sz24; omega
    refine tr_nextZip (by k_extra "mem") (by k_extra "mem") hnv (y := D.f) (by simp [hD]) ?_
    intro T tf
    refine tr_letGoZip ?_
    refine tr_Tup2 (R.deeper _) (by k_extra "mem") ?_
    repeat k_extra "st"
    refine Tr.sel (by k_extra "focus") ?_
    repeat k_extra "st"
    rename_i sl cp it2
    refine tr_forLoop (fun k L' => ∃ p q m', D.vs = p ++ q ∧ k = q.length ∧ Sel ((it2, pLIter cp p.length) :: (cp, pInts D.vs) :: (D.d, pDomL 303 D.dd (p.filter (fun v => decide (v * D.f ≤ M)) ++ q)) :: (D.dd, pAttr 2 (domA D.hd D.st)) :: (D.hd, pInts D.hs) :: (D.st, pInts D.ss) :: (zcs z TI TO i1 i2 vl fl (A.length + 1) .none ++ ((Lf, pNs m') :: (con, pInst 445 cd) :: (cd, pAttr 2 (conA "_exactsum" M tM (.ref fl))) :: (vl, pList nvs) :: (dm, pDictE c ep (dmap Ds)) :: ((fl, pInts (Ds.map (·.f))) :: (dcl (A.map (cut M) ++ Bs) ++ X))))) L' ∧
      FrHas m' [(Str.ofString "multiplier", .int D.f tf), (Str.ofString "domain", .ref D.d), (Str.ofString "exactsum", .int M tM), (Str.ofString "multipliers", (.ref fl)), (Str.ofString "self", .ref con), (Str.ofString "variables", .ref vl), (Str.ofString "domains", .ref dm)]) ?_ D.vs.length ?init
    rotate_left
    · refine' ⟨[], D.vs, _, rfl, rfl, ?hs, ?hf⟩
      (case hs => rw [List.filter_nil, List.nil_append]; k_extra "sel")
      (case hf => k_extra "fr")
    clear hF
    intro k L' hI
    obtain ⟨p, q, m', hv, rfl, hsel, hF⟩ := hI
    refine Tr.sel hsel ?_
    clear hsel
    have hlq : p.length + q.length = D.vs.length := by rw [hv, List.length_append]
    have hlv : (p.filter (fun v => decide (v * D.f ≤ M)) ++ q).length ≤ sizeLine := by have := List.length_filter_le (fun v => decide (v * D.f ≤ M)) p; rw [List.length_append]; omega
    cases q with
    | nil =>
      rw [List.append_nil] at hv
      refine tr_nextIntEnd (R.deeper _) (by k_extra "rem") (by k_extra "mem") pInts_seq (by simp [hv]) ?_
      dsimp only
      repeat k_extra "st"
      rw [List.append_nil]
      refine' ⟨Bs.length, _, by simp, Sel.refl, A ++ [D], Bs, _, by simp [hD], rfl, ?hs2, ?hf2⟩
      (case hs2 => rw [List.length_append, List.length_singleton, List.map_append, List.map_singleton, show cut M D = { D with vs := p.filter (fun v => decide (v * D.f ≤ M)) } by rw [← hv]; rfl, List.append_assoc, List.singleton_append]; k_extra "back")
      (case hf2 => k_extra "fr")
    | cons v q =>
      refine tr_nextInt (by k_extra "upd") (by k_extra "mem") pInts_seq (v := v) (by simp [hv]) fun tv => ?_
      dsimp only
      repeat k_extra "st"
      refine tr_mul (hmul D hDm v (by simp [hv])) fun _ => ?_
      repeat k_extra "st"
      refine ⟨fun hq => ?_, fun hq => ?_⟩
      · have hq' : ¬ (v * D.f ≤ M) := by simpa using hq
        have hmem : v ∈ p.filter (fun v => decide (v * D.f ≤ M)) ++ v :: q := by simp
        repeat k_extra "st"
        have hnm' : v ∉ p.filter (fun v => decide (v * D.f ≤ M)) := fun hm => hq' (by simpa using (List.mem_filter.mp hm).2)
        rw [List.erase_append_right _ hnm', List.erase_cons_head]
        refine' ⟨q.length, _, by simp, Sel.refl, p ++ [v], q, _, by simp [hv], rfl, ?hs3, ?hf3⟩
        (case hs3 => rw [List.length_append, List.length_singleton, List.filter_append, show [v].filter (fun v => decide (v * D.f ≤ M)) = [] by simp; omega, List.append_nil]; k_extra "sel")
        (case hf3 => k_extra "fr")
      · have hq' : v * D.f ≤ M := by simpa using hq
        repeat k_extra "st"
        refine' ⟨q.length, _, by simp, Sel.refl, p ++ [v], q, _, by simp [hv], rfl, ?hs4, ?hf4⟩
        (case hs4 => rw [List.length_append, List.length_singleton, List.filter_append, show [v].filter (fun v => decide (v * D.f ≤ M)) = [v] by simp [hq'], List.append_assoc, List.singleton_append]; k_extra "sel")
        (case hf4 => k_extra "fr")
theorem exact_prep_plain {con cd vl dm : Addr} {M : Int} {tM : Tok} {nvs : List Value} {Ds : List Dm} {csv vcv : Value} {ep : Nat} {Q : Value → List Cell → Prop}
    (B : Bs (hd.heap_39 c.w.params) c mg mb) (R : Rm 10 c.A) (hnm : StrsAre nvs (Ds.map (·.nm))) (hnd : (Ds.map (·.nm)).Nodup) (hf1 : ∀ D ∈ Ds, D.f = 1) (h2 : 2 ≤ nvs.length) (hlen : nvs.length ≤ sizeLine)
    (hsz : ∀ D ∈ Ds, D.vs.length ≤ 1000)
    (h : Q .none ((con, pInst 445 cd) :: (cd, pAttr 2 (conA "_exactsum" M tM .none)) :: (vl, pList nvs) :: (dm, pDictE c ep (dmap Ds)) :: ((dcl (Ds.map (cut M)) ++ X)))) :
    TrF c (.ref 434) [.ref con, .ref vl, .ref dm, csv, vcv] ((con, pInst 445 cd) :: (cd, pAttr 2 (conA "_exactsum" M tM .none)) :: (vl, pList nvs) :: (dm, pDictE c ep (dmap Ds)) :: ((dcl Ds ++ X))) Q := by
  refine' tr_callF (binds := [(Str.ofString "self", .ref con), (Str.ofString "variables", .ref vl), (Str.ofString "domains", .ref dm), (Str.ofString "constraints", csv), (Str.ofString "vconstraints", vcv)]) B R ?ho ?hcd ?hb ?hloc ?_ ?c1 ?c2 ?c3 ?c4
  k_extra "enter"
  intro Lf
  repeat k_extra "st"
  refine tr_getMethodC (C := 347) (f := 336) (mc := .type "type") (B.deeper _) (by k_is) (by k_is) (by k_is) ?_
  repeat k_extra "st"
  refine Tr.sel (by k_extra "sel") (base_prep (B.deeper _) ((R.deeper _).le (by omega)) h2 hlen ?_).tr
  repeat k_extra "st"
  refine ⟨fun hb => ?_, fun hb => ?_⟩
  · cases hb
  clear hb
  repeat k_extra "st"
  rename_i it
  refine tr_forLoop (fun k L' => ∃ A Bs m, Ds = A ++ Bs ∧ k = Bs.length ∧ Sel ((it, pLIter vl (A.length)) :: ((Lf, pNs m) :: (con, pInst 445 cd) :: (cd, pAttr 2 (conA "_exactsum" M tM .none)) :: (vl, pList nvs) :: (dm, pDictE c ep (dmap Ds)) :: ((dcl (A.map (cut M) ++ Bs) ++ X)))) L' ∧
      FrHas m [(Str.ofString "exactsum", .int M tM), (Str.ofString "multipliers", .none), (Str.ofString "self", .ref con), (Str.ofString "variables", .ref vl), (Str.ofString "domains", .ref dm)]) ?_ Ds.length ?init1
  rotate_left
  · refine' ⟨[], Ds, _, rfl, rfl, ?hs1, ?hf1⟩
    (case hs1 => rw [List.map_nil, List.nil_append]; k_extra "sel")
    (case hf1 => k_extra "fr")
  intro k L' hI
  obtain ⟨A, Bs, m, hD, rfl, hsel, hF⟩ := hI
  refine Tr.sel hsel ?_
  clear hsel
  cases Bs with
  | nil =>
    rw [List.append_nil] at hD
    subst hD
    refine tr_nextEnd (R.deeper _) (by k_extra "rem") (by k_extra "mem") pList_seq (List.getElem?_eq_none (by rw [strs_len hnm, List.length_map]; exact Nat.le_refl _)) ?_
    dsimp only
    repeat k_extra "st"
    rw [List.append_nil]
    exact ⟨_, by k_extra "sel", h⟩
  | cons D Bs =>
    have hDi : (Ds.map (·.nm))[A.length]? = some D.nm := by simp [hD]
    have hDm : D ∈ Ds := by simp [hD]
    obtain ⟨tn, hnv⟩ := strs_get hnm hDi
    have hdv := dmap_find hnd hDm
    have hz1 : D.vs.length ≤ sizeLine := by have := hsz D hDm; have := sz24; omega
    refine tr_nextItem (by k_extra "upd") (by k_extra "mem") pList_seq hnv ?_
    dsimp only
    repeat k_extra "st"
    refine Tr.sel (by k_extra "focus") ?_
    repeat k_extra "st"
    rename_i sl cp it2
    refine tr_forLoop (fun k L' => ∃ p q m', D.vs = p ++ q ∧ k = q.length ∧ Sel ((it2, pLIter cp p.length) :: (cp, pInts D.vs) :: (D.d, pDomL 303 D.dd (p.filter (fun v => decide (v * D.f ≤ M)) ++ q)) :: (D.dd, pAttr 2 (domA D.hd D.st)) :: (D.hd, pInts D.hs) :: (D.st, pInts D.ss) :: ((it, pLIter vl (A.length + 1)) :: ((Lf, pNs m') :: (con, pInst 445 cd) :: (cd, pAttr 2 (conA "_exactsum" M tM .none)) :: (vl, pList nvs) :: (dm, pDictE c ep (dmap Ds)) :: ((dcl (A.map (cut M) ++ Bs) ++ X))))) L' ∧
      FrHas m' [(Str.ofString "domain", .ref D.d), (Str.ofString "exactsum", .int M tM), (Str.ofString "multipliers", .none), (Str.ofString "self", .ref con), (Str.ofString "variables", .ref vl), (Str.ofString "domains", .ref dm)]) ?_ D.vs.length ?init
    rotate_left
    · refine' ⟨[], D.vs, _, rfl, rfl, ?hs, ?hf⟩
      (case hs => rw [List.filter_nil, List.nil_append]; k_extra "sel")
      (case hf => k_extra "fr")
    clear hF
    intro k L' hI
    obtain ⟨p, q, m', hv, rfl, hsel, hF⟩ := hI
    refine Tr.sel hsel ?_
    clear hsel
    have hlq : p.length + q.length = D.vs.length := by rw [hv, List.length_append]
    have hlv : (p.filter (fun v => decide (v * D.f ≤ M)) ++ q).length ≤ sizeLine := by have := List.length_filter_le (fun v => decide (v * D.f ≤ M)) p; rw [List.length_append]; omega
    cases q with
    | nil =>
      rw [List.append_nil] at hv
      refine tr_nextIntEnd (R.deeper _) (by k_extra "rem") (by k_extra "mem") pInts_seq (by simp [hv]) ?_
      dsimp only
      repeat k_extra "st"
      rw [List.append_nil]
      refine' ⟨Bs.length, _, by simp, Sel.refl, A ++ [D], Bs, _, by simp [hD], rfl, ?hs2, ?hf2⟩
      (case hs2 => rw [List.length_append, List.length_singleton, List.map_append, List.map_singleton, show cut M D = { D with vs := p.filter (fun v => decide (v * D.f ≤ M)) } by rw [← hv]; rfl, List.append_assoc, List.singleton_append]; k_extra "back")
      (case hf2 => k_extra "fr")
    | cons v q =>
      refine tr_nextInt (by k_extra "upd") (by k_extra "mem") pInts_seq (v := v) (by simp [hv]) fun tv => ?_
      dsimp only
      repeat k_extra "st"
      refine ⟨fun hq => ?_, fun hq => ?_⟩
      · have hq' : ¬ (v * D.f ≤ M) := by rw [hf1 D hDm, Int.mul_one]; simpa using hq
        have hmem : v ∈ p.filter (fun v => decide (v * D.f ≤ M)) ++ v :: q := by simp
        repeat k_extra "st"
        have hnm' : v ∉ p.filter (fun v => decide (v * D.f ≤ M)) := fun hm => hq' (by simpa using (List.mem_filter.mp hm).2)
        rw [List.erase_append_right _ hnm', List.erase_cons_head]
        refine' ⟨q.length, _, by simp, Sel.refl, p ++ [v], q, _, by simp [hv], rfl, ?hs3, ?hf3⟩
        (case hs3 => rw [List.length_append, List.length_singleton, List.filter_append, show [v].filter (fun v => decide (v * D.f ≤ M)) = [] by simp; omega, List.append_nil]; k_extra "sel")
        (case hf3 => k_extra "fr")
      · have hq' : v * D.f ≤ M := by rw [hf1 D hDm, Int.mul_one]; simpa using hq
        repeat k_extra "st"
        refine' ⟨q.length, _, by simp, Sel.refl, p ++ [v], q, _, by simp [hv], rfl, ?hs4, ?hf4⟩
        (case hs4 => rw [List.length_append, List.length_singleton, List.filter_append, show [v].filter (fun v => decide (v * D.f ≤ M)) = [v] by simp [hq'], List.append_assoc, List.singleton_append]; k_extra "sel")
        (case hf4 => k_extra "fr")
end
end
section
def prepOf (k : Nat) : Addr := if k = 0 then 399 else if k = 1 then 336 else 434
def cutK (k : Nat) (M : Int) (D : Dm) : Dm := if k = 1 then D else cut M D
section
variable {mg mb : Str → Option Value} {c : Cx} {X : List Cell}
theorem con_prep {k : Cn} {vl dm : Addr} {nvs : List Value} {Ds : List Dm} {csv vcv : Value} {ep : Nat} {Q : Value → List Cell → Prop}
    (B : Bs (hd.heap_39 c.w.params) c mg mb) (R : Rm 10 c.A) (W : Wf nvs [] Ds) (h2 : 2 ≤ Ds.length) (hk : k.kind < 3) (hf1 : k.fl = none → ∀ D ∈ Ds, D.f = 1)
    (h : Q .none ((k.con, pInst (clsOf k.kind) k.cd) :: (k.cd, pAttr 2 (conA (attrOf k.kind) k.M k.tM (mulV k.fl))) :: (vl, pList nvs) :: (dm, pDictE c ep (dmap Ds)) :: (flC k.fl Ds ++ (dcl (Ds.map (cutK k.kind k.M)) ++ X)))) :
    TrF c (.ref (prepOf k.kind)) [.ref k.con, .ref vl, .ref dm, csv, vcv] ((k.con, pInst (clsOf k.kind) k.cd) :: (k.cd, pAttr 2 (conA (attrOf k.kind) k.M k.tM (mulV k.fl))) :: (vl, pList nvs) :: (dm, pDictE c ep (dmap Ds)) :: (flC k.fl Ds ++ (dcl Ds ++ X))) Q := by
  obtain ⟨kind, con, cd, M, tM, fl⟩ := k
  dsimp only at *
  have hz := sz24
  have hn : nvs.length = Ds.length := by rw [strs_len W.nm, List.length_map]
  have hlen : nvs.length ≤ sizeLine := by rw [hn]; have := W.len; omega
  have h2' : 2 ≤ nvs.length := by omega
  have hlf : (Ds.map (·.f)).length ≤ sizeLine := by rw [List.length_map]; have := W.len; omega
  have hmul : ∀ D ∈ Ds, ∀ a ∈ D.vs, IntMulOk a D.f := fun D m a q => small_mul (W.val D m a (.inr q))
  have hsz : ∀ D ∈ Ds, D.vs.length ≤ 1000 := fun D m => by have := W.sz D m; omega
  have h012 : kind = 0 ∨ kind = 1 ∨ kind = 2 := by omega
  rcases h012 with rfl | rfl | rfl
  · cases fl with
    | none => exact max_prep_plain B R W.nm W.nd (hf1 rfl) h2' hlen hsz h
    | some fl => exact max_prep_mult B R W.nm W.nd hmul hlf W.ne h2' hlen hsz h
  · have e : Ds.map (cutK 1 M) = Ds := by rw [show cutK 1 M = id from rfl, List.map_id]
    rw [e] at h
    exact TrF.weak (TrF.sel (by k_extra "sel") (base_prep B (R.le (by omega)) h2' hlen ⟨_, by k_extra "sel", h⟩))
  · cases fl with
    | none => exact exact_prep_plain B R W.nm W.nd (hf1 rfl) h2' hlen hsz h
    | some fl => exact exact_prep_mult B R W.nm W.nd hmul hlf W.ne h2' hlen hsz h
end
end
section
theorem all2_map {α β γ : Type} {R : α → β → Prop} {f : α → γ} {f' : β → γ} (h : ∀ a b, R a b → f' b = f a) : ∀ {A : List α} {B : List β}, All2 R A B → B.map f' = A.map f
  | _, _, .nil => rfl
  | _, _, .cons r t => by rw [List.map_cons, List.map_cons, h _ _ r, all2_map h t]
theorem all2_dcl {R : Dm → Dm → Prop} (h : ∀ a b, R a b → dcs b = dcs a) : ∀ {A B : List Dm}, All2 R A B → dcl B = dcl A
  | _, _, .nil => rfl
  | _, _, .cons r t => by rw [dcl_cons, dcl_cons, h _ _ r, all2_dcl h t]
theorem asgd_not {kvs : List (Str × Value)} {x : Str} (h : ∀ p ∈ kvs, p.1 ≠ x) : asgd kvs x = false := by
  unfold asgd valueAt
  rw [List.find?_eq_none.mpr (fun p hp => by simpa using h p hp)]
  rfl
def vcs (con vl : Addr) (Ds : List Dm) : List Cell := Ds.flatMap fun D => [(D.vc, pList [.ref D.tp]), (D.tp, pTup [.ref con, .ref vl])]
theorem vcs_snoc (con vl : Addr) (A : List Dm) (D : Dm) : vcs con vl (A ++ [D]) = vcs con vl A ++ [(D.vc, pList [.ref D.tp]), (D.tp, pTup [.ref con, .ref vl])] := by simp [vcs]
theorem vcs_mem {con vl : Addr} {Ds : List Dm} {D : Dm} (h : D ∈ Ds) : (D.vc, pList [.ref D.tp]) ∈ vcs con vl Ds ∧ (D.tp, pTup [.ref con, .ref vl]) ∈ vcs con vl Ds :=
  ⟨List.mem_flatMap.mpr ⟨D, h, List.mem_cons_self⟩, List.mem_flatMap.mpr ⟨D, h, List.mem_cons_of_mem _ List.mem_cons_self⟩⟩
theorem prep_find (P : Params) {kind : Nat} (h : kind < 3) : findIn (hd.heap_39 P) (.ref (clsOf kind)) "preProcess" = some (some (.ref (prepOf kind))) := by
  have : kind = 0 ∨ kind = 1 ∨ kind = 2 := by omega
  rcases this with rfl | rfl | rfl
  · show findIn _ (.ref 410) _ = some (some (.ref 399)); k_is
  · show findIn _ (.ref 473) _ = some (some (.ref 336)); k_is
  · show findIn _ (.ref 445) _ = some (some (.ref 434)); k_is
theorem prep_isFn (P : Params) {kind : Nat} (h : kind < 3) : isFn (hd.heap_39 P) (.ref (prepOf kind)) = true := by
  have : kind = 0 ∨ kind = 1 ∨ kind = 2 := by omega
  rcases this with rfl | rfl | rfl
  · exact show isFn _ (.ref 399) = true by k_is
  · exact show isFn _ (.ref 336) = true by k_is
  · exact show isFn _ (.ref 434) = true by k_is
theorem prep_lk (P : Params) {kind : Nat} (h : kind < 3) : ∃ oc od fd osl, (hd.heap_39 P).lookup (prepOf kind) = some ⟨oc, od, .func fd, osl⟩ := by
  have : kind = 0 ∨ kind = 1 ∨ kind = 2 := by omega
  rcases this with rfl | rfl | rfl
  · exact ⟨_, _, _, _, show (hd.heap_39 P).lookup 399 = _ by k_is⟩
  · exact ⟨_, _, _, _, show (hd.heap_39 P).lookup 336 = _ by k_is⟩
  · exact ⟨_, _, _, _, show (hd.heap_39 P).lookup 434 = _ by k_is⟩
theorem con_get (P : Params) {kind : Nat} (h : kind < 3) : GetOk (hd.heap_39 P) (clsOf kind) := by
  have : kind = 0 ∨ kind = 1 ∨ kind = 2 := by omega
  rcases this with rfl | rfl | rfl
  · exact show GetOk _ 410 from .obj (by k_is) (by k_is)
  · exact show GetOk _ 473 from .obj (by k_is) (by k_is)
  · exact show GetOk _ 445 from .obj (by k_is) (by k_is)
theorem con_noPrep {kind : Nat} {M : Int} {tM : Tok} {mul : Value} (h : kind < 3) : conA (attrOf kind) M tM mul "preProcess" = none := by
  have : kind = 0 ∨ kind = 1 ∨ kind = 2 := by omega
  rcases this with rfl | rfl | rfl <;> exact rfl
section
variable {mg mb : Str → Option Value} {c : Cx} {X : List Cell}
theorem tr_getMethodDE {P : Obj → Prop} {L : List Cell} {d : Addr} {kvs : List (Str × Value)} {name : Str} {id : String} {pl : Sem Bool} {Q : Value × List Value → List Cell → Prop} (hl : (d, P) ∈ L) (hP : ∀ o, P o → pDict c kvs o) (slot : Slot "dict" name id) (hty : typeOf (.builtin id) = pure (.type "method_descriptor"))
    (h : Q (.builtin id, [.ref d]) L) : Tr c (getMethod (.ref d) name pl) L Q := by
  intro s H g o
  obtain ⟨ob, e, p⟩ := H.at hl
  obtain ⟨es, ep, hob, hrest⟩ := hP _ p
  exact getMethod_builtin (H.dictP hl hP).typeIs PySem.F.plainAttrs_dict slot hty (fun a q => by cases q; exact ⟨_, e, hob.2.1⟩) ⟨L, H, g, o, h⟩
theorem reset_same {D : Dm} {Q : Value → List Cell → Prop} (B : Bs (hd.heap_39 c.w.params) c mg mb) (R : Rm 3 c.A) (e1 : D.hs = []) (e2 : D.ss = []) (hz : D.vs.length ≤ sizeLine)
    (h : Q .none ((D.d, pDomL 303 D.dd D.vs) :: (D.dd, pAttr 2 (domA D.hd D.st)) :: (D.hd, pInts D.hs) :: (D.st, pInts D.ss) :: X)) :
    Tr c (call (.ref 279) [.ref D.d] []) ((D.d, pDomL 303 D.dd D.vs) :: (D.dd, pAttr 2 (domA D.hd D.st)) :: (D.hd, pInts D.hs) :: (D.st, pInts D.ss) :: X) Q := by
  rw [e1, e2] at *
  refine reset_spec B R (by simpa using hz) (by simp) ?_
  rw [List.append_nil]; exact h
theorem Wf.like {nvs : List Value} {kvs : List (Str × Value)} {Ds Ds' : List Dm} (W : Wf nvs kvs Ds) (h : All2 (fun D D' : Dm => D'.nm = D.nm ∧ D'.f = D.f ∧ (∀ a ∈ D'.vs, a ∈ D.vs) ∧ D'.vs.length + D'.hs.length ≤ D.vs.length + D.hs.length) Ds Ds') : Wf nvs kvs Ds' := by
  have e : Ds'.map (·.nm) = Ds.map (·.nm) := All2.map (fun a b r => r.1) h
  refine ⟨by rw [e]; exact W.nm, by rw [e]; exact W.nd, W.kv, fun D hD a q => ?_, fun D hD => ?_, by rw [← h.len]; exact W.len, fun D hD => ?_, fun q => W.ne ?_⟩
  · obtain ⟨E, hE, r⟩ := h.right D hD
    exact W.val E hE a (q.imp (fun z => by rw [← r.1]; exact z) fun z => r.2.2.1 a z)
  · obtain ⟨E, hE, r⟩ := h.right D hD
    rw [r.2.1]; exact W.fac E hE
  · obtain ⟨E, hE, r⟩ := h.right D hD
    have := W.sz E hE; have := r.2.2.2; omega
  · subst q; cases h; rfl
def Prepd (k : Cn) (D D' : Dm) : Prop := D' = { D with vs := (cutK k.kind k.M D).vs, vc := D'.vc, tp := D'.tp }
theorem get_args {k : Cn} {p pd sv cs vs tp0 vl : Addr} {nvs : List Value} {Ds : List Dm} {Q : Value → List Cell → Prop}
    (B : Bs (hd.heap_39 c.w.params) c mg mb) (R : Rm 16 c.A) (W : Wf nvs [] Ds) (h2 : 2 ≤ Ds.length) (hk : k.kind < 3) (hf1 : k.fl = none → ∀ D ∈ Ds, D.f = 1)
    (h0s : ∀ D ∈ Ds, D.hs = [] ∧ D.ss = [])
    (h : ∀ tpl dm cons vcd ep Df, All2 (Prepd k) Ds Df → (∀ D ∈ Df, D.vs ≠ []) → Q (.ref tpl) ((tpl, pTup [.ref dm, .ref cons, .ref vcd]) :: (p, pInst 110 pd) :: (pd, pAttr 3 (probA sv cs vs)) :: (k.con, pInst (clsOf k.kind) k.cd) :: (k.cd, pAttr 2 (conA (attrOf k.kind) k.M k.tM (mulV k.fl))) :: (vl, pList nvs) :: (dm, pDictE c ep (dmap Df)) :: (vcd, pDict c (vmap Df)) :: (flC k.fl Df ++ (vcs k.con vl Df ++ (dcl Df ++ X)))))
    (h0 : ∀ tpl, (∃ D ∈ Ds, (cutK k.kind k.M D).vs = []) → Q (.ref tpl) ((tpl, pTup [.none, .none, .none]) :: (p, pInst 110 pd) :: (pd, pAttr 3 (probA sv cs vs)) :: (vl, pList nvs) :: (flC k.fl Ds ++ X))) :
    TrF c (.ref 107) [.ref p] ((p, pInst 110 pd) :: (pd, pAttr 3 (probA sv cs vs)) :: (cs, pList [.ref tp0]) :: (tp0, pTup [.ref k.con, .ref vl]) :: (vs, pDict c (dmap Ds)) :: (k.con, pInst (clsOf k.kind) k.cd) :: (k.cd, pAttr 2 (conA (attrOf k.kind) k.M k.tM (mulV k.fl))) :: (vl, pList nvs) :: (flC k.fl Ds ++ (dcl Ds ++ X))) Q := by
  refine' tr_callF (binds := [(Str.ofString "self", .ref p)]) B R ?ho ?hcd ?hb ?hloc ?_ ?c1 ?c2 ?c3 ?c4
  k_extra "enter"
  intro Lf
  have hz := sz24
  have hlD : (dmap Ds).length ≤ sizeLine := by have := W.len; simp [dmap]; omega
  have hn : nvs.length = Ds.length := by rw [strs_len W.nm, List.length_map]
  have hlen : nvs.length ≤ sizeLine := by rw [hn]; have := W.len; omega
  repeat k_extra "st"
  rename_i dm
  refine Tr.loosen pDict_open (Tr.ex fun ep => ?_)
  refine tr_listDict (R.deeper _) (by k_extra "mem") hlD fun al als hal => ?_
  repeat k_extra "st"
  rename_i cons it
  refine TrC.join (J := fun L' => ∃ tp1 m, Sel ((cons, pList [.ref tp1]) :: (tp1, pTup [.ref k.con, .ref vl]) :: (al, pList als) :: (dm, pDictE c ep (dmap Ds)) :: (Lf, pNs m) :: (p, pInst 110 pd) :: (pd, pAttr 3 (probA sv cs vs)) :: (cs, pList [.ref tp0]) :: (tp0, pTup [.ref k.con, .ref vl]) :: (vs, pDict c (dmap Ds)) :: (k.con, pInst (clsOf k.kind) k.cd) :: (k.cd, pAttr 2 (conA (attrOf k.kind) k.M k.tM (mulV k.fl))) :: (vl, pList nvs) :: (flC k.fl Ds ++ (dcl Ds ++ X))) L' ∧ FrHas m [(Str.ofString "constraints", .ref cons), (Str.ofString "domains", .ref dm), (Str.ofString "self", .ref p)]) ?_ ?_
  rotate_left
  · refine tr_forLoop (fun n L' => (n = 1 ∧ ∃ m, Sel ((it, pLIter cs 0) :: (cons, pList []) :: (al, pList als) :: (dm, pDictE c ep (dmap Ds)) :: (Lf, pNs m) :: (p, pInst 110 pd) :: (pd, pAttr 3 (probA sv cs vs)) :: (cs, pList [.ref tp0]) :: (tp0, pTup [.ref k.con, .ref vl]) :: (vs, pDict c (dmap Ds)) :: (k.con, pInst (clsOf k.kind) k.cd) :: (k.cd, pAttr 2 (conA (attrOf k.kind) k.M k.tM (mulV k.fl))) :: (vl, pList nvs) :: (flC k.fl Ds ++ (dcl Ds ++ X))) L' ∧ FrHas m [(Str.ofString "constraints", .ref cons), (Str.ofString "domains", .ref dm), (Str.ofString "self", .ref p)]) ∨
      (n = 0 ∧ ∃ tp1 m, Sel ((it, pLIter cs 1) :: (cons, pList [.ref tp1]) :: (tp1, pTup [.ref k.con, .ref vl]) :: (al, pList als) :: (dm, pDictE c ep (dmap Ds)) :: (Lf, pNs m) :: (p, pInst 110 pd) :: (pd, pAttr 3 (probA sv cs vs)) :: (cs, pList [.ref tp0]) :: (tp0, pTup [.ref k.con, .ref vl]) :: (vs, pDict c (dmap Ds)) :: (k.con, pInst (clsOf k.kind) k.cd) :: (k.cd, pAttr 2 (conA (attrOf k.kind) k.M k.tM (mulV k.fl))) :: (vl, pList nvs) :: (flC k.fl Ds ++ (dcl Ds ++ X))) L' ∧ FrHas m [(Str.ofString "constraints", .ref cons), (Str.ofString "domains", .ref dm), (Str.ofString "self", .ref p)])) ?_ 1 (.inl ⟨rfl, _, by k_extra "sel", by k_extra "fr"⟩)
    intro n L' hI
    rcases hI with ⟨rfl, m, hsel, hF⟩ | ⟨rfl, tp1, m, hsel, hF⟩
    · refine Tr.sel hsel ?_
      clear hsel
      refine tr_nextItem (by k_extra "upd") (by k_extra "mem") pList_seq (v := .ref tp0) rfl ?_
      dsimp only
      refine tr_letGoTup (by k_extra "mem") ?_
      refine tr_Tup2 (R.deeper _) (by k_extra "mem") ?_
      repeat k_extra "st"
      refine ⟨fun q => ?_, fun _ => ?_⟩
      · exfalso
        cases nvs with
        | nil => simp at hn; omega
        | cons => cases q
      repeat k_extra "st"
      refine ⟨by show 2 ≤ sizeLine; omega, fun tp1 => ?_⟩
      have hz0 : ([] : List Value).length + 1 ≤ sizeLine := by show 1 ≤ sizeLine; omega
      repeat k_extra "st"
      exact ⟨0, _, by omega, Sel.refl, .inr ⟨rfl, tp1, _, by k_extra "sel", by k_extra "fr"⟩⟩
    · refine Tr.sel hsel ?_
      clear hsel
      refine tr_nextEnd (R.deeper _) (by k_extra "rem") (by k_extra "mem") pList_seq rfl ?_
      dsimp only
      refine tr_execs_nil ?_
      exact ⟨tp1, m, by k_extra "sel", hF⟩
  intro L' hJ
  obtain ⟨tp1, m, hsel, hF⟩ := hJ
  refine Tr.sel hsel ?_
  clear hsel
  repeat k_extra "st"
  rename_i vcd
  refine tr_iterDict (by k_extra "mem") fun it2 => ?_
  repeat k_extra "st"
  refine TrC.join (J := fun L' => ∃ Dv m, All2 (fun D D' : Dm => D' = { D with vc := D'.vc }) Ds Dv ∧ Sel ((vcd, pDict c (vmap Dv)) :: (Dv.map (fun D => ((D.vc, pList []) : Cell)) ++ ((cons, pList [.ref tp1]) :: (tp1, pTup [.ref k.con, .ref vl]) :: (al, pList als) :: (dm, pDictE c ep (dmap Ds)) :: (Lf, pNs m) :: (p, pInst 110 pd) :: (pd, pAttr 3 (probA sv cs vs)) :: (cs, pList [.ref tp0]) :: (tp0, pTup [.ref k.con, .ref vl]) :: (vs, pDict c (dmap Ds)) :: (k.con, pInst (clsOf k.kind) k.cd) :: (k.cd, pAttr 2 (conA (attrOf k.kind) k.M k.tM (mulV k.fl))) :: (vl, pList nvs) :: (flC k.fl Ds ++ (dcl Ds ++ X))))) L' ∧ FrHas m [(Str.ofString "vconstraints", .ref vcd), (Str.ofString "constraints", .ref cons), (Str.ofString "domains", .ref dm), (Str.ofString "self", .ref p)]) ?_ ?_
  rotate_left
  · refine tr_forLoop (fun n L' => ∃ A Bs Av m, Ds = A ++ Bs ∧ n = Bs.length ∧ All2 (fun D D' : Dm => D' = { D with vc := D'.vc }) A Av ∧ Sel ((it2, pKIter dm A.length (dmap Ds).length ep) :: (vcd, pDict c (vmap Av)) :: (Av.map (fun D => ((D.vc, pList []) : Cell)) ++ ((cons, pList [.ref tp1]) :: (tp1, pTup [.ref k.con, .ref vl]) :: (al, pList als) :: (dm, pDictE c ep (dmap Ds)) :: (Lf, pNs m) :: (p, pInst 110 pd) :: (pd, pAttr 3 (probA sv cs vs)) :: (cs, pList [.ref tp0]) :: (tp0, pTup [.ref k.con, .ref vl]) :: (vs, pDict c (dmap Ds)) :: (k.con, pInst (clsOf k.kind) k.cd) :: (k.cd, pAttr 2 (conA (attrOf k.kind) k.M k.tM (mulV k.fl))) :: (vl, pList nvs) :: (flC k.fl Ds ++ (dcl Ds ++ X))))) L' ∧ FrHas m [(Str.ofString "vconstraints", .ref vcd), (Str.ofString "constraints", .ref cons), (Str.ofString "domains", .ref dm), (Str.ofString "self", .ref p)]) ?_ Ds.length ⟨[], Ds, [], _, rfl, rfl, .nil, by k_extra "sel", by k_extra "fr"⟩
    clear hF
    intro n L' hI
    obtain ⟨A, Bs, Av, m, hD, rfl, hA, hsel, hF⟩ := hI
    refine Tr.sel hsel ?_
    clear hsel
    cases Bs with
    | nil =>
      rw [List.append_nil] at hD
      subst hD
      refine tr_nextKeyEnd (R.deeper _) (by k_extra "rem") (by k_extra "mem") rfl (by simp [dmap]) ?_
      dsimp only
      refine tr_execs_nil ?_
      exact ⟨Av, m, hA, by k_extra "sel", hF⟩
    | cons D Bs =>
      refine tr_nextKey (k := D.nm) (v := .ref D.d) (by k_extra "upd") (by k_extra "mem") rfl (by simp [hD, dmap]) fun tn => ?_
      dsimp only
      have hAn : Av.map (·.nm) = A.map (·.nm) := by
        exact all2_map (fun a b r => by rw [r]) hA
      have hAl : Av.length ≤ 16 := by have := congrArg List.length hAn; have := W.len; rw [hD] at this; (simp at *) <;> omega
      have hlA : (vmap Av).length ≤ sizeLine := by (simp [vmap]) <;> omega
      have hnew : asgd (vmap Av) D.nm = false := by
        refine asgd_not fun q hq e => ?_
        have nd := W.nd
        rw [hD, List.map_append, List.map_cons] at nd
        have hm : D.nm ∈ A.map (·.nm) := by
          rw [← hAn, ← e]
          obtain ⟨E, hE, rfl⟩ := List.mem_map.mp hq
          exact List.mem_map_of_mem hE
        exact (List.nodup_append.mp nd).2.2 _ hm _ (List.mem_cons_self ..) rfl
      repeat k_extra "st"
      rename_i vc
      rw [stored_new hnew]
      exact ⟨Bs.length, _, by simp, Sel.refl, A ++ [D], Bs, Av ++ [{ D with vc := vc }], _, by simp [hD], rfl, hA.app (.cons rfl .nil), by rw [List.length_append, List.length_singleton, List.map_append, show vmap (Av ++ [{ D with vc := vc }]) = vmap Av ++ [(D.nm, .ref vc)] by simp [vmap], List.append_assoc]; k_extra "sel", by k_extra "fr"⟩
  clear hF
  intro L' hJ
  obtain ⟨Dv, m, hDv, hsel, hF⟩ := hJ
  refine Tr.sel hsel ?_
  clear hsel
  have en : Dv.map (·.nm) = Ds.map (·.nm) := all2_map (fun a b r => by rw [r]) hDv
  have ef : Dv.map (·.f) = Ds.map (·.f) := all2_map (fun a b r => by rw [r]) hDv
  have ed : dmap Dv = dmap Ds := all2_map (fun a b r => by rw [r]) hDv
  have ec : dcl Dv = dcl Ds := all2_dcl (fun a b r => by rw [r]; rfl) hDv
  have ek : flC k.fl Dv = flC k.fl Ds := by cases k.fl with | none => rfl | some a => show [(a, pInts (Dv.map (·.f)))] = [(a, pInts (Ds.map (·.f)))]; rw [ef]
  rw [← ek, ← ec, ← ed]
  repeat k_extra "st"
  rename_i it3
  have hnv : StrsAre nvs (Dv.map (·.nm)) := by rw [en]; exact W.nm
  have ndv : (Dv.map (·.nm)).Nodup := by rw [en]; exact W.nd
  have hlv : Dv.length ≤ 16 := by have := congrArg List.length en; simp at this; have := W.len; omega
  refine TrC.join (J := fun L' => ∃ Dt m, All2 (fun D D' : Dm => D' = { D with tp := D'.tp }) Dv Dt ∧ Sel ((vcd, pDict c (vmap Dv)) :: (vcs k.con vl Dt ++ ((cons, pList [.ref tp1]) :: (tp1, pTup [.ref k.con, .ref vl]) :: (dm, pDictE c ep (dmap Dv)) :: (Lf, pNs m) :: (p, pInst 110 pd) :: (pd, pAttr 3 (probA sv cs vs)) :: (k.con, pInst (clsOf k.kind) k.cd) :: (k.cd, pAttr 2 (conA (attrOf k.kind) k.M k.tM (mulV k.fl))) :: (vl, pList nvs) :: (flC k.fl Dv ++ (dcl Dv ++ X))))) L' ∧ FrHas m [(Str.ofString "vconstraints", .ref vcd), (Str.ofString "constraints", .ref cons), (Str.ofString "domains", .ref dm)]) ?_ ?_
  rotate_left
  · refine tr_forLoop (fun n L' => (n = 1 ∧ ∃ m, Sel ((it3, pLIter cons 0) :: (vcd, pDict c (vmap Dv)) :: (Dv.map (fun D => ((D.vc, pList []) : Cell)) ++ ((cons, pList [.ref tp1]) :: (tp1, pTup [.ref k.con, .ref vl]) :: (dm, pDictE c ep (dmap Dv)) :: (Lf, pNs m) :: (p, pInst 110 pd) :: (pd, pAttr 3 (probA sv cs vs)) :: (k.con, pInst (clsOf k.kind) k.cd) :: (k.cd, pAttr 2 (conA (attrOf k.kind) k.M k.tM (mulV k.fl))) :: (vl, pList nvs) :: (flC k.fl Dv ++ (dcl Dv ++ X))))) L' ∧ FrHas m [(Str.ofString "vconstraints", .ref vcd), (Str.ofString "constraints", .ref cons), (Str.ofString "domains", .ref dm)]) ∨
      (n = 0 ∧ ∃ Dt m, All2 (fun D D' : Dm => D' = { D with tp := D'.tp }) Dv Dt ∧ Sel ((it3, pLIter cons 1) :: (vcd, pDict c (vmap Dv)) :: (vcs k.con vl Dt ++ ((cons, pList [.ref tp1]) :: (tp1, pTup [.ref k.con, .ref vl]) :: (dm, pDictE c ep (dmap Dv)) :: (Lf, pNs m) :: (p, pInst 110 pd) :: (pd, pAttr 3 (probA sv cs vs)) :: (k.con, pInst (clsOf k.kind) k.cd) :: (k.cd, pAttr 2 (conA (attrOf k.kind) k.M k.tM (mulV k.fl))) :: (vl, pList nvs) :: (flC k.fl Dv ++ (dcl Dv ++ X))))) L' ∧ FrHas m [(Str.ofString "vconstraints", .ref vcd), (Str.ofString "constraints", .ref cons), (Str.ofString "domains", .ref dm)])) ?_ 1 (.inl ⟨rfl, _, by k_extra "sel", by k_extra "fr"⟩)
    clear hF
    intro n L' hI
    rcases hI with ⟨rfl, m, hsel, hF⟩ | ⟨rfl, Dt, m, hDt, hsel, hF⟩
    · refine Tr.sel hsel ?_
      clear hsel
      refine tr_nextItem (by k_extra "upd") (by k_extra "mem") pList_seq (v := .ref tp1) rfl ?_
      dsimp only
      refine tr_letGoTup (by k_extra "mem") ?_
      refine tr_Tup2 (R.deeper _) (by k_extra "mem") ?_
      repeat k_extra "st"
      rename_i it4
      refine tr_forLoop (fun n L' => ∃ A Bs At m, Dv = A ++ Bs ∧ n = Bs.length ∧ All2 (fun D D' : Dm => D' = { D with tp := D'.tp }) A At ∧ Sel ((it4, pLIter vl A.length) :: (it3, pLIter cons 1) :: (vcd, pDict c (vmap Dv)) :: (vcs k.con vl At ++ (Bs.map (fun D => ((D.vc, pList []) : Cell)) ++ ((cons, pList [.ref tp1]) :: (tp1, pTup [.ref k.con, .ref vl]) :: (dm, pDictE c ep (dmap Dv)) :: (Lf, pNs m) :: (p, pInst 110 pd) :: (pd, pAttr 3 (probA sv cs vs)) :: (k.con, pInst (clsOf k.kind) k.cd) :: (k.cd, pAttr 2 (conA (attrOf k.kind) k.M k.tM (mulV k.fl))) :: (vl, pList nvs) :: (flC k.fl Dv ++ (dcl Dv ++ X)))))) L' ∧ FrHas m [(Str.ofString "constraint", .ref k.con), (Str.ofString "variables", .ref vl), (Str.ofString "vconstraints", .ref vcd), (Str.ofString "constraints", .ref cons), (Str.ofString "domains", .ref dm)]) ?_ Dv.length ⟨[], Dv, [], _, rfl, rfl, .nil, by k_extra "sel", by k_extra "fr"⟩
      clear hF
      intro n L' hI
      obtain ⟨A, Bs, At, m, hD, rfl, hA, hsel, hF⟩ := hI
      refine Tr.sel hsel ?_
      clear hsel
      cases Bs with
      | nil =>
        rw [List.append_nil] at hD
        refine tr_nextEnd (R.deeper _) (by k_extra "rem") (by k_extra "mem") pList_seq (by rw [← hD]; have := strs_len hnv; simp at this; simp [this]) ?_
        dsimp only
        repeat k_extra "st"
        exact ⟨0, _, by omega, Sel.refl, .inr ⟨rfl, At, m, hD ▸ hA, by k_extra "sel", by k_extra "fr"⟩⟩
      | cons D Bs =>
        have hDm : D ∈ Dv := by rw [hD]; simp
        have hvv := vmap_find ndv hDm
        obtain ⟨tn, hnx⟩ := strs_get hnv (i := A.length) (n := D.nm) (by rw [hD]; simp)
        rw [List.map_cons, List.cons_append]
        refine tr_nextItem (by k_extra "upd") (by k_extra "mem") pList_seq hnx ?_
        dsimp only
        repeat k_extra "st"
        refine ⟨by show 2 ≤ sizeLine; omega, fun T => ?_⟩
        repeat k_extra "st"
        refine ⟨Bs.length, _, by simp, Sel.refl, A ++ [D], Bs, At ++ [{ D with tp := T }], _, by simp [hD], rfl, hA.app (.cons rfl .nil), by rw [List.length_append, List.length_singleton, vcs_snoc, List.append_assoc]; k_extra "sel", by k_extra "fr"⟩
    · refine Tr.sel hsel ?_
      clear hsel
      refine tr_nextEnd (R.deeper _) (by k_extra "rem") (by k_extra "mem") pList_seq rfl ?_
      dsimp only
      refine tr_execs_nil ?_
      exact ⟨Dt, m, hDt, by k_extra "sel", hF⟩
  clear hF
  intro L' hJ
  obtain ⟨Dt, m, hDt, hsel, hF⟩ := hJ
  refine Tr.sel hsel ?_
  clear hsel
  have hT : All2 (fun D D' : Dm => D' = { D with vc := D'.vc, tp := D'.tp }) Ds Dt := All2.trans (R := fun D D' : Dm => D' = { D with vc := D'.vc }) (S := fun D D' : Dm => D' = { D with tp := D'.tp }) (fun a b d r s => by rw [s, r]) hDv hDt
  have etd : dmap Dt = dmap Dv := all2_map (fun a b r => by rw [r]) hDt
  have etv : vmap Dt = vmap Dv := all2_map (fun a b r => by rw [r]) hDt
  have etc' : dcl Dt = dcl Dv := all2_dcl (fun a b r => by rw [r]; rfl) hDt
  have etf : Dt.map (·.f) = Dv.map (·.f) := all2_map (fun a b r => by rw [r]) hDt
  have etk : flC k.fl Dt = flC k.fl Dv := by cases k.fl with | none => rfl | some a => show [(a, pInts (Dt.map (·.f)))] = [(a, pInts (Dv.map (·.f)))]; rw [etf]
  have WT : Wf nvs [] Dt := W.like (hT.imp fun D D' r => by rw [r]; exact ⟨rfl, rfl, fun _ m => m, Nat.le_refl _⟩)
  have h2T : 2 ≤ Dt.length := by rw [← hT.len]; exact h2
  have hf1T : k.fl = none → ∀ D ∈ Dt, D.f = 1 := fun q D hD => by obtain ⟨E, hE, r⟩ := hT.right D hD; rw [show D.f = E.f by rw [r]]; exact hf1 q E hE
  rw [← etk, ← etc', ← etd, ← etv]
  obtain ⟨oc, od, fd, osl, hlk⟩ := prep_lk c.w.params hk
  repeat k_extra "st"
  rename_i cl it5
  refine TrC.join (J := fun L' => ∃ m, Sel ((vcd, pDict c (vmap Dt)) :: (vcs k.con vl Dt ++ ((cons, pList [.ref tp1]) :: (tp1, pTup [.ref k.con, .ref vl]) :: (dm, pDictE c ep (dmap Dt)) :: (Lf, pNs m) :: (p, pInst 110 pd) :: (pd, pAttr 3 (probA sv cs vs)) :: (k.con, pInst (clsOf k.kind) k.cd) :: (k.cd, pAttr 2 (conA (attrOf k.kind) k.M k.tM (mulV k.fl))) :: (vl, pList nvs) :: (flC k.fl Dt ++ (dcl (Dt.map (cutK k.kind k.M)) ++ X))))) L' ∧ FrHas m [(Str.ofString "vconstraints", .ref vcd), (Str.ofString "constraints", .ref cons), (Str.ofString "domains", .ref dm)]) ?_ ?_
  rotate_left
  · refine tr_forLoop (fun n L' => (n = 1 ∧ ∃ m, Sel ((it5, pLIter cl 0) :: (cl, pList [.ref tp1]) :: (vcd, pDict c (vmap Dt)) :: (vcs k.con vl Dt ++ ((cons, pList [.ref tp1]) :: (tp1, pTup [.ref k.con, .ref vl]) :: (dm, pDictE c ep (dmap Dt)) :: (Lf, pNs m) :: (p, pInst 110 pd) :: (pd, pAttr 3 (probA sv cs vs)) :: (k.con, pInst (clsOf k.kind) k.cd) :: (k.cd, pAttr 2 (conA (attrOf k.kind) k.M k.tM (mulV k.fl))) :: (vl, pList nvs) :: (flC k.fl Dt ++ (dcl Dt ++ X))))) L' ∧ FrHas m [(Str.ofString "vconstraints", .ref vcd), (Str.ofString "constraints", .ref cons), (Str.ofString "domains", .ref dm)]) ∨
      (n = 0 ∧ ∃ m, Sel ((it5, pLIter cl 1) :: (cl, pList [.ref tp1]) :: (vcd, pDict c (vmap Dt)) :: (vcs k.con vl Dt ++ ((cons, pList [.ref tp1]) :: (tp1, pTup [.ref k.con, .ref vl]) :: (dm, pDictE c ep (dmap Dt)) :: (Lf, pNs m) :: (p, pInst 110 pd) :: (pd, pAttr 3 (probA sv cs vs)) :: (k.con, pInst (clsOf k.kind) k.cd) :: (k.cd, pAttr 2 (conA (attrOf k.kind) k.M k.tM (mulV k.fl))) :: (vl, pList nvs) :: (flC k.fl Dt ++ (dcl (Dt.map (cutK k.kind k.M)) ++ X))))) L' ∧ FrHas m [(Str.ofString "vconstraints", .ref vcd), (Str.ofString "constraints", .ref cons), (Str.ofString "domains", .ref dm)])) ?_ 1 (.inl ⟨rfl, _, by k_extra "sel", by k_extra "fr"⟩)
    clear hF
    intro n L' hI
    rcases hI with ⟨rfl, m, hsel, hF⟩ | ⟨rfl, m, hsel, hF⟩
    · refine Tr.sel hsel ?_
      clear hsel
      refine tr_nextItem (by k_extra "upd") (by k_extra "mem") pList_seq (v := .ref tp1) rfl ?_
      dsimp only
      refine tr_letGoTup (by k_extra "mem") ?_
      refine tr_Tup2 (R.deeper _) (by k_extra "mem") ?_
      repeat k_extra "st"
      refine tr_getMethod (B.deeper _) (by k_extra "mem") pInst_is (by k_extra "mem") (con_get _ hk) (prep_find _ hk) (prep_isFn _ hk) (con_noPrep hk) ?_
      refine tr_callFn1 (B.deeper _) hlk ?_ rfl
      repeat k_extra "st"
      refine Tr.sel (by k_extra "sel") (con_prep (k := k) (B.deeper _) ((R.deeper _).le (by omega)) WT h2T hk hf1T ?_).tr
      repeat k_extra "st"
      exact ⟨0, _, by omega, Sel.refl, .inr ⟨rfl, _, by k_extra "sel", by k_extra "fr"⟩⟩
    · refine Tr.sel hsel ?_
      clear hsel
      refine tr_nextEnd (R.deeper _) (by k_extra "rem") (by k_extra "mem") pList_seq rfl ?_
      dsimp only
      refine tr_execs_nil ?_
      exact ⟨m, by k_extra "sel", hF⟩
  clear hF
  intro L' hJ
  obtain ⟨m, hsel, hF⟩ := hJ
  refine Tr.sel hsel ?_
  clear hsel
  obtain ⟨Dc, hDc⟩ : ∃ Dc, Dc = Dt.map (cutK k.kind k.M) := ⟨_, rfl⟩
  have hC : All2 (fun D D' : Dm => D' = cutK k.kind k.M D) Dt Dc := by rw [hDc]; exact All2.mapR _ _ fun D _ => rfl
  have hcut : ∀ D : Dm, cutK k.kind k.M D = { D with vs := (cutK k.kind k.M D).vs } := fun D => by unfold cutK cut; split <;> rfl
  have hP : All2 (Prepd k) Ds Dc := All2.trans (R := fun D D' : Dm => D' = { D with vc := D'.vc, tp := D'.tp }) (S := fun D D' : Dm => D' = cutK k.kind k.M D) (T := Prepd k) (fun a b d r s => by
    have e : (cutK k.kind k.M b).vs = (cutK k.kind k.M a).vs := by rw [r]; unfold cutK cut; split <;> rfl
    unfold Prepd
    rw [s, hcut b, e]
    show _ = { a with vs := (cutK k.kind k.M a).vs, vc := b.vc, tp := b.tp }
    rw [r]) hT hC
  have ecd : dmap Dc = dmap Dt := all2_map (fun a b r => by rw [r, hcut a]) hC
  have ecv : vmap Dc = vmap Dt := all2_map (fun a b r => by rw [r, hcut a]) hC
  have ecf : Dc.map (·.f) = Dt.map (·.f) := all2_map (fun a b r => by rw [r, hcut a]) hC
  have eck : flC k.fl Dc = flC k.fl Dt := by cases k.fl with | none => rfl | some a => show [(a, pInts (Dc.map (·.f)))] = [(a, pInts (Dt.map (·.f)))]; rw [ecf]
  have ecs : vcs k.con vl Dc = vcs k.con vl Dt := by
    subst hDc; unfold vcs; rw [List.flatMap_map]; congr 1; funext D; rw [hcut D]
  have hcs : ∀ D ∈ Dc, D.hs = [] ∧ D.ss = [] ∧ D.vs.length ≤ 1000 := fun D hD => by
    obtain ⟨E, hE, r⟩ := hP.right D hD
    have e := h0s E hE
    refine ⟨by rw [r]; exact e.1, by rw [r]; exact e.2, ?_⟩
    have := W.sz E hE
    rw [r]
    show (cutK k.kind k.M E).vs.length ≤ 1000
    unfold cutK cut
    split
    · omega
    · have := List.length_filter_le (fun v => decide (v * E.f ≤ k.M)) E.vs; dsimp only; omega
  rw [← hDc, ← eck, ← ecs, ← ecv, ← ecd]
  repeat k_extra "st"
  refine tr_getMethodDE (by k_extra "mem") pDictE_dict PySem.F.slot_dict_values PySem.F.type_dict_values ?_
  repeat k_extra "st"
  refine tr_dictValues (by k_extra "mem") fun vv => ?_
  refine tr_iterVals (by k_extra "mem") (by k_extra "mem") fun it6 => ?_
  refine TrC.join (J := fun L' => ∃ m, (∀ D ∈ Dc, D.vs ≠ []) ∧ Sel ((vcd, pDict c (vmap Dc)) :: (vcs k.con vl Dc ++ ((cons, pList [.ref tp1]) :: (tp1, pTup [.ref k.con, .ref vl]) :: (dm, pDictE c ep (dmap Dc)) :: (Lf, pNs m) :: (p, pInst 110 pd) :: (pd, pAttr 3 (probA sv cs vs)) :: (k.con, pInst (clsOf k.kind) k.cd) :: (k.cd, pAttr 2 (conA (attrOf k.kind) k.M k.tM (mulV k.fl))) :: (vl, pList nvs) :: (flC k.fl Dc ++ (dcl Dc ++ X))))) L' ∧ FrHas m [(Str.ofString "vconstraints", .ref vcd), (Str.ofString "constraints", .ref cons), (Str.ofString "domains", .ref dm)]) ?_ ?_
  rotate_left
  · refine tr_forLoop (fun n L' => ∃ A Bs m, Dc = A ++ Bs ∧ n = Bs.length ∧ (∀ D ∈ A, D.vs ≠ []) ∧ Sel ((it6, pVIter dm A.length (dmap Dc).length ep) :: (vcd, pDict c (vmap Dc)) :: (vcs k.con vl Dc ++ ((cons, pList [.ref tp1]) :: (tp1, pTup [.ref k.con, .ref vl]) :: (dm, pDictE c ep (dmap Dc)) :: (Lf, pNs m) :: (p, pInst 110 pd) :: (pd, pAttr 3 (probA sv cs vs)) :: (k.con, pInst (clsOf k.kind) k.cd) :: (k.cd, pAttr 2 (conA (attrOf k.kind) k.M k.tM (mulV k.fl))) :: (vl, pList nvs) :: (flC k.fl Dc ++ (dcl Dc ++ X))))) L' ∧ FrHas m [(Str.ofString "vconstraints", .ref vcd), (Str.ofString "constraints", .ref cons), (Str.ofString "domains", .ref dm)]) ?_ Dc.length ⟨[], Dc, _, rfl, rfl, fun _ m => (nomatch m), by k_extra "sel", by k_extra "fr"⟩
    clear hF
    intro n L' hI
    obtain ⟨A, Bs, m, hD, rfl, hA, hsel, hF⟩ := hI
    refine Tr.sel hsel ?_
    clear hsel
    cases Bs with
    | nil =>
      rw [List.append_nil] at hD
      refine tr_nextValEnd (R.deeper _) (by k_extra "rem") (by k_extra "mem") rfl (by rw [hD]; simp [dmap]) ?_
      dsimp only
      refine tr_execs_nil ?_
      exact ⟨m, hD ▸ hA, by k_extra "sel", hF⟩
    | cons D Bs =>
      refine tr_nextVal (k := D.nm) (v := .ref D.d) (by k_extra "upd") (by k_extra "mem") rfl (by rw [hD]; simp [dmap]) ?_
      dsimp only
      have hDm : D ∈ Dc := by rw [hD]; simp
      obtain ⟨e1, e2, e3⟩ := hcs D hDm
      have e3' : D.vs.length ≤ sizeLine := by omega
      rw [show dcl Dc = dcl (A ++ D :: Bs) from by rw [← hD]]
      refine Tr.sel (by k_extra "focus") ?_
      repeat k_extra "st"
      refine Tr.sel (by k_extra "sel") (reset_same (D := D) (B.deeper _) ((R.deeper _).le (by omega)) e1 e2 e3' ?_)
      repeat k_extra "st"
      refine ⟨fun hb => ?_, fun hb => ?_⟩
      · have hb' : D.vs = [] := by simpa using hb
        repeat k_extra "st"
        refine ⟨by show 3 ≤ sizeLine; omega, fun tpl => ?_⟩
        have eks : flC k.fl Dc = flC k.fl Ds := by rw [eck, etk, ek]
        rw [eks]
        refine ⟨_, by k_extra "sel", h0 tpl ?_⟩
        obtain ⟨E, hE, r⟩ := hP.right D hDm
        exact ⟨E, hE, by have := congrArg Dm.vs r; rw [hb'] at this; exact this.symm⟩
      · have hb' : D.vs ≠ [] := by simpa using hb
        repeat k_extra "st"
        refine' ⟨Bs.length, _, by simp, Sel.refl, A ++ [D], Bs, _, by simp [hD], rfl, ?hn, ?hs, ?hf⟩
        (case hn => intro E hE; rcases List.mem_append.mp hE with hE | hE; exact hA E hE; rw [List.mem_singleton.mp hE]; exact hb')
        (case hs => rw [List.length_append, List.length_singleton]; k_extra "back")
        (case hf => k_extra "fr")
  clear hF
  intro L' hJ
  obtain ⟨m, hne, hsel, hF⟩ := hJ
  refine Tr.sel hsel ?_
  clear hsel
  repeat k_extra "st"
  refine ⟨by show 3 ≤ sizeLine; omega, fun tpl => ?_⟩
  exact ⟨_, by k_extra "sel", h tpl dm cons vcd ep Dc hP hne⟩
end
end
end Mine
namespace Mine
structure En where
  nm : Str
  tn : Tok
  v : Int
  tv : Tok
  rem : List Int
  tried : List Int
  kvs : List (Str × Value)
  Ds : List Dm
  pb : Bool
  pdv : Value
  Zp : List Cell
  va : Addr
  tp : Addr
def stv (stk : List En) : List Value := stk.reverse.map fun e => .ref e.tp
def ecs (e : En) : List Cell := (e.tp, pTup [.str e.nm e.tn, .ref e.va, e.pdv]) :: (e.va, pInts e.rem) :: e.Zp
def ecl (stk : List En) : List Cell := stk.flatMap ecs
theorem stv_cons (e : En) (stk : List En) : stv (e :: stk) = stv stk ++ [.ref e.tp] := by simp [stv]
theorem ecl_cons (e : En) (stk : List En) : ecl (e :: stk) = (e.tp, pTup [.str e.nm e.tn, .ref e.va, e.pdv]) :: (e.va, pInts e.rem) :: (e.Zp ++ ecl stk) := by simp [ecl, ecs]
structure Pb where
  kind : Nat
  M : Int
  nvs : List Value
  D0 : List Dm
def Pb.sat (P : Pb) (g : Str → Int) : Prop := SatK P.kind P.M P.D0 g
structure Node (P : Pb) (u : Nat) (kvs : List (Str × Value)) (Ds : List Dm) : Prop where
  rw : Rw u P.nvs kvs Ds
  un : (uns kvs Ds).length = u
  kl : kvs.length + u ≤ 16
  sat : missg kvs Ds = false → ∀ g, Ext kvs Ds g → P.sat g
  ne : ∀ D ∈ Ds, D.vs ≠ []
  same : All2 SameD P.D0 Ds
def Chain (P : Pb) : List En → Nat → List (Str × Value) → List Dm → Prop
  | [], u, kvs, Ds => u ≤ 16 ∧ kvs = [] ∧ ∀ g, Ext [] Ds g ↔ Ext [] P.D0 g
  | e :: rest, u, kvs, Ds => Node P (u + 1) e.kvs e.Ds ∧ asgd e.kvs e.nm = false ∧ kvs = stored e.kvs e.nm (.int e.v e.tv) ∧
      (∃ D ∈ e.Ds, D.nm = e.nm ∧ List.Perm (e.tried ++ e.v :: e.rem) D.vs) ∧ RelPb kvs e.pb e.Ds Ds ∧ PdOk e.pdv e.pb e.Zp (uns kvs e.Ds) ∧
      (∀ g, (Ext kvs Ds g ∧ P.sat g) ↔ (Ext e.kvs e.Ds g ∧ g e.nm = e.v ∧ P.sat g)) ∧ Chain P rest (u + 1) e.kvs e.Ds
def DoneP (P : Pb) : List En → (Str → Int) → Prop
  | [], _ => False
  | e :: rest, g => DoneP P rest g ∨ (Ext e.kvs e.Ds g ∧ g e.nm ∈ e.tried ∧ P.sat g)
def Phi : List En → Nat → Nat
  | [], _ => 0
  | e :: rest, u => e.rem.length * 4 ^ u + Phi rest (u + 1)
structure Try (P : Pb) (stk : List En) (u : Nat) (x : Str) (rem tried : List Int) (kvs : List (Str × Value)) (Ds : List Dm) : Prop where
  node : Node P (u + 1) kvs Ds
  chain : Chain P stk (u + 1) kvs Ds
  free : asgd kvs x = false
  dom : ∃ D ∈ Ds, D.nm = x ∧ List.Perm (tried ++ rem) D.vs
def TryDone (P : Pb) (stk : List En) (x : Str) (tried : List Int) (kvs : List (Str × Value)) (Ds : List Dm) (g : Str → Int) : Prop := DoneP P stk g ∨ (Ext kvs Ds g ∧ g x ∈ tried ∧ P.sat g)
def NodeDone (P : Pb) (stk : List En) (kvs : List (Str × Value)) (Ds : List Dm) (g : Str → Int) : Prop := DoneP P stk g ∨ (Ext kvs Ds g ∧ P.sat g)
section
variable {P : Pb} {stk rest : List En} {e : En} {u : Nat} {kvs : List (Str × Value)} {Ds Dr Ds' : List Dm} {x : Str} {rem tried : List Int}
theorem Chain.len : ∀ {stk : List En} {u : Nat} {kvs : List (Str × Value)} {Ds : List Dm}, Chain P stk u kvs Ds → stk.length + u ≤ 16
  | [], _, _, _, h => by have := h.1; simpa using this
  | e :: rest, u, _, _, h => by have := Chain.len h.2.2.2.2.2.2.2; rw [List.length_cons]; omega
theorem Node.perm (N : Node P u kvs Ds) (h : PermDs kvs Ds Ds') : Node P u kvs Ds' := by
  refine ⟨Rw.step (k := 0) N.rw (h.imp fun D D' r => r.lesr 0), (uns_same h.nms).trans N.un, N.kl, fun m g q => N.sat (by rw [← missg_same h.nms]; exact m) g (h.ext.mp q), fun D hD => ?_, All2.trans (R := SameD) (S := SameD) (T := SameD) (fun a b d r s => SameD.trans r s) N.same h.same⟩
  obtain ⟨E, hE, r⟩ := h.right D hD
  intro q
  have := r.2.1.length_eq
  rw [q] at this
  exact N.ne E hE (List.length_eq_zero_iff.mp this)
theorem relP_perm {D D' D'' : Dm} (h : RelP kvs D D') (p : PermD kvs D' D'') : RelP kvs D D'' := by
  refine ⟨fun q => ?_, fun q => ?_⟩
  · have e := h.1 q
    subst e
    exact p.2.2 q
  · obtain ⟨e1, lay, e2, pp⟩ := h.2 q
    refine ⟨?_, lay, ?_, ?_⟩
    · rw [p.1, e1]
    · rw [p.1]; exact e2
    · exact pp.trans (List.Perm.append_right _ p.2.1)
theorem relPb_perm {pb : Bool} (h : RelPb kvs pb Ds Dr) (p : PermDs kvs Dr Ds') : RelPb kvs pb Ds Ds' := by
  rcases h with ⟨a, b⟩ | ⟨a, b⟩
  · exact .inl ⟨a, All2.trans (R := PermD kvs) (S := PermD kvs) (T := PermD kvs) (fun a b d r s => PermD.trans r s) b p⟩
  · exact .inr ⟨a, All2.trans (R := RelP kvs) (S := PermD kvs) (T := RelP kvs) (fun a b d r s => relP_perm r s) b p⟩
theorem Chain.perm : ∀ {stk : List En} {u : Nat}, Chain P stk u kvs Ds → PermDs kvs Ds Ds' → Chain P stk u kvs Ds'
  | [], _, h, p => ⟨h.1, h.2.1, fun g => p.ext.trans (h.2.2 g)⟩
  | e :: rest, _, h, p => ⟨h.1, h.2.1, h.2.2.1, h.2.2.2.1, relPb_perm h.2.2.2.2.1 p, h.2.2.2.2.2.1, fun g => (and_congr_left' p.ext).trans (h.2.2.2.2.2.2.1 g), h.2.2.2.2.2.2.2⟩
theorem mono_perm {v : Value} (hf : asgd kvs x = false) (p : PermDs (stored kvs x v) Ds Ds') : PermDs kvs Ds Ds' := p.imp fun D D' r => r.mono fun y q => by rw [asgd_stored hf, q, Bool.or_true]
theorem Chain.toTry (C : Chain P (e :: rest) u kvs Ds) (hp : PermDs kvs e.Ds Dr) :
    Try P rest u e.nm e.rem (e.tried ++ [e.v]) e.kvs Dr ∧ ∀ g, TryDone P rest e.nm (e.tried ++ [e.v]) e.kvs Dr g ↔ NodeDone P (e :: rest) kvs Ds g := by
  obtain ⟨hN, hf, rfl, ⟨D, hD, hn, hv⟩, hR, hpd, hq, hC⟩ := C
  have hp' := mono_perm hf hp
  refine ⟨⟨hN.perm hp', hC.perm hp', hf, ?_⟩, fun g => ?_⟩
  · obtain ⟨D', hD', r⟩ := hp'.left D hD
    exact ⟨D', hD', by rw [r.nm]; exact hn, by rw [List.append_assoc]; exact hv.trans r.2.1⟩
  · unfold TryDone NodeDone
    rw [hq g, hp'.ext]
    show _ ↔ (DoneP P rest g ∨ (Ext e.kvs e.Ds g ∧ g e.nm ∈ e.tried ∧ P.sat g)) ∨ _
    rw [List.mem_append, List.mem_singleton]
    constructor
    · rintro (a | ⟨a, b | b, d⟩)
      · exact .inl (.inl a)
      · exact .inl (.inr ⟨a, b, d⟩)
      · exact .inr ⟨a, b, d⟩
    · rintro ((a | ⟨a, b, d⟩) | ⟨a, b, d⟩)
      · exact .inl a
      · exact .inr ⟨a, .inl b, d⟩
      · exact .inr ⟨a, .inr b, d⟩
theorem Try.done (T : Try P stk u x [] tried kvs Ds) (g : Str → Int) : TryDone P stk x tried kvs Ds g ↔ NodeDone P stk kvs Ds g := by
  obtain ⟨D, hD, hn, hv⟩ := T.dom
  refine or_congr_right ⟨fun ⟨a, b, d⟩ => ⟨a, d⟩, fun ⟨a, d⟩ => ⟨a, ?_, d⟩⟩
  have := a D hD
  rw [av_of_not (by rw [hn]; exact T.free)] at this
  rw [List.append_nil] at hv
  rw [← hn]
  exact hv.mem_iff.mpr this
theorem Chain.apart : ∀ {stk : List En} {u : Nat} {kvs : List (Str × Value)} {Ds : List Dm}, Chain P stk u kvs Ds → ∀ {g g' : Str → Int}, DoneP P stk g → Ext kvs Ds g' → P.sat g' → (P.D0.map (·.nm)).map g ≠ (P.D0.map (·.nm)).map g'
  | [], _, _, _, _, _, _, hd, _, _ => hd.elim
  | e :: rest, u, kvs, Ds, C, g, g', hd, he, hs => by
    obtain ⟨hN, hf, rfl, ⟨D, hD, hn, hv⟩, hR, hpd, hq, hC⟩ := C
    obtain ⟨a, b, d⟩ := (hq g').mp ⟨he, hs⟩
    rcases hd with hd | ⟨a', b', d'⟩
    · exact Chain.apart hC hd a d
    · intro q
      obtain ⟨E, hE, r⟩ := hN.same.right D hD
      have hx : e.nm ∈ P.D0.map (·.nm) := List.mem_map.mpr ⟨E, hE, by rw [← hn, r]⟩
      have := List.map_inj_left.mp q e.nm hx
      rw [b] at this
      have nd := hv.nodup_iff.mpr (hN.rw.ndv D hD)
      exact (List.nodup_append.mp nd).2.2 (g e.nm) b' e.v (.head _) this
theorem Node.toTry (N : Node P (u + 1) kvs Ds) (C : Chain P stk (u + 1) kvs Ds) {D : Dm} (hD : D ∈ Ds) (hf : asgd kvs D.nm = false) :
    Try P stk u D.nm D.vs [] kvs Ds ∧ ∀ g, TryDone P stk D.nm [] kvs Ds g ↔ DoneP P stk g :=
  ⟨⟨N, C, hf, D, hD, rfl, .refl _⟩, fun g => ⟨fun q => q.elim id fun z => (nomatch z.2.1), .inl⟩⟩
theorem Try.facts {v : Int} {tv : Tok} (T : Try P stk u x (rem ++ [v]) tried kvs Ds) : (∃ D ∈ Ds, D.nm = x ∧ v ∈ D.vs) ∧ v ∉ tried ∧ rem.length ≤ 2 ∧ Rw (u + 1) P.nvs (stored kvs x (.int v tv)) Ds ∧
    (uns (stored kvs x (.int v tv)) Ds).length = u ∧ ∀ g, Ext (stored kvs x (.int v tv)) Ds g ↔ Ext kvs Ds g ∧ g x = v := by
  obtain ⟨D, hD, rfl, hv⟩ := T.dom
  have hvm : v ∈ D.vs := hv.mem_iff.mp (by simp)
  have nd := hv.nodup_iff.mpr (T.node.rw.ndv D hD)
  have hl := hv.length_eq
  have h3 := T.node.rw.h3 D hD
  rw [List.length_append, List.length_append, List.length_singleton] at hl
  refine ⟨⟨D, hD, rfl, hvm⟩, fun m => (List.nodup_append.mp nd).2.2 v m v (by simp) rfl, by omega, T.node.rw.kv hD T.free hvm, ?_, fun g => Ext_stored T.node.rw.wf.nd hD T.free hvm⟩
  have := uns_stored (v := .int v tv) T.node.rw.wf.nd hD T.free
  rw [T.node.un] at this
  omega
theorem Try.fail {v : Int} {tv : Tok} {pb : Bool} {Dp Dc Do : List Dm} (T : Try P stk u x (rem ++ [v]) tried kvs Ds) (hPR : PushR (stored kvs x (.int v tv)) pb Ds Dp) (hC : CRes (SatK P.kind P.M Dp) (stored kvs x (.int v tv)) pb Dp false Dc)
    (hp : PermDs (stored kvs x (.int v tv)) Ds Do) : Try P stk u x rem (tried ++ [v]) kvs Do ∧ ∀ g, TryDone P stk x (tried ++ [v]) kvs Do g ↔ TryDone P stk x tried kvs Ds g := by
  obtain ⟨_, hvt, _, _, _, hE⟩ := T.facts (tv := tv)
  obtain ⟨D, hD, hn, hv⟩ := T.dom
  have hp' := mono_perm T.free hp
  have hS : All2 SameD P.D0 Dp := All2.trans (R := SameD) (S := SameD) (T := SameD) (fun a b d r s => SameD.trans r s) T.node.same hPR.maps
  refine ⟨⟨T.node.perm hp', T.chain.perm hp', T.free, ?_⟩, fun g => or_congr_right ?_⟩
  · obtain ⟨D', hD', r⟩ := hp'.left D hD
    refine ⟨D', hD', by rw [r.nm]; exact hn, (List.Perm.trans ?_ hv).trans r.2.1⟩
    rw [List.append_assoc]
    exact List.Perm.append_left _ List.perm_append_comm
  · rw [hp'.ext, List.mem_append, List.mem_singleton]
    refine ⟨fun ⟨a, b, d⟩ => ⟨a, b.resolve_right fun q => hC.no rfl g (hPR.ext.mpr ((hE g).mpr ⟨a, q⟩)) ((same_sat hS).mpr d), d⟩, fun ⟨a, b, d⟩ => ⟨a, .inl b, d⟩⟩
theorem Try.pass {v : Int} {tv tn : Tok} {pb : Bool} {Dp Dc : List Dm} {pdv : Value} {Zp : List Cell} {va tp : Addr} (T : Try P stk u x (rem ++ [v]) tried kvs Ds) (hPR : PushR (stored kvs x (.int v tv)) pb Ds Dp) (hC : CRes (SatK P.kind P.M Dp) (stored kvs x (.int v tv)) pb Dp true Dc)
    (hpd : PdOk pdv pb Zp (uns (stored kvs x (.int v tv)) Ds)) : Node P u (stored kvs x (.int v tv)) Dc ∧ Chain P (⟨x, tn, v, tv, rem, tried, kvs, Ds, pb, pdv, Zp, va, tp⟩ :: stk) u (stored kvs x (.int v tv)) Dc := by
  obtain ⟨_, hvt, _, hW, hu, hE⟩ := T.facts (tv := tv)
  obtain ⟨D, hD, hn, hv⟩ := T.dom
  have hS : All2 SameD P.D0 Dp := All2.trans (R := SameD) (S := SameD) (T := SameD) (fun a b d r s => SameD.trans r s) T.node.same hPR.maps
  have hSc : All2 SameD P.D0 Dc := All2.trans (R := SameD) (S := SameD) (T := SameD) (fun a b d r s => SameD.trans r s) hS (shape_sameD hC.shape)
  have hWp : Rw u P.nvs (stored kvs x (.int v tv)) Dp := Rw.step (k := 1) hW hPR.lesr
  have hsub : ∀ g, Ext (stored kvs x (.int v tv)) Dc g → Ext (stored kvs x (.int v tv)) Dp g := fun g => ext_sub (hC.shape.imp fun D D' r => ⟨by rw [r.1.1], by obtain ⟨_, lay, _, pp⟩ := r.1; exact fun x m => pp.mem_iff.mpr (List.mem_append_left _ m)⟩)
  have hnms : Dc.map (·.nm) = Ds.map (·.nm) := (same_nms hSc).trans (same_nms T.node.same).symm
  have hnmp : Dc.map (·.nm) = Dp.map (·.nm) := (same_nms hSc).trans (same_nms hS).symm
  have hnep : ∀ D ∈ Dp, D.vs ≠ [] := fun D' hD' => by
    rcases hPR with ⟨_, rfl⟩ | ⟨_, r⟩
    · exact T.node.ne D' hD'
    · obtain ⟨E, hE', q⟩ := r.right D' hD'
      have := T.node.ne E hE'
      cases z : asgd (stored kvs x (.int v tv)) E.nm with
      | true => rw [q.1 z]; exact this
      | false => rw [q.2 z]; exact this
  refine ⟨⟨Rw.step (k := 0) hWp (hC.shape.imp fun D D' r => r.1.lesr 0), (uns_same hnms).trans hu, ?_, fun m g q => ?_, hC.live rfl hnep, hSc⟩, T.node, T.free, rfl, ⟨D, hD, hn, ?_⟩, relPb_of hPR hC.shape (All2.refl PermD.refl _), hpd, fun g => ?_, T.chain⟩
  · have := T.node.kl
    rw [stored_len T.free]; omega
  · exact (same_sat hS).mp (hC.all rfl (by rw [missg_same hnmp] at m; exact m) g (hsub g q))
  · refine List.Perm.trans (List.Perm.append_left _ ?_) hv
    exact (List.perm_append_singleton v rem).symm
  · constructor
    · rintro ⟨a, d⟩
      have := (hE g).mp (hPR.ext.mp (hsub g a))
      exact ⟨this.1, this.2, d⟩
    · rintro ⟨a, b, d⟩
      exact ⟨hC.yes rfl g (hPR.ext.mpr ((hE g).mpr ⟨a, b⟩)) ((same_sat hS).mpr d), d⟩
end
end Mine
namespace Mine
def Cx.wA (c : Cx) (A : Around) : Cx := { c with A := A }
theorem Bs.wA {K : Frag} {c : Cx} {mg mb : Str → Option Value} (B : Bs K c mg mb) (A : Around) : Bs K (c.wA A) mg mb := ⟨B.X, B.g, B.b, B.bi⟩
structure FsOk (fs : List Frame) (k : Nat) : Prop where
  ok : fs.all okF = true
  len : fs.length = k
  sp : splitAtGen fs = none
  gd : fs.any Frame.guarded = false
theorem FsOk.nil : FsOk [] 0 := ⟨rfl, rfl, rfl, rfl⟩
theorem FsOk.cons {fs : List Frame} {k : Nat} {kk : Result → Sem Fin} {l : List Value} {c : Code} {p : Pos} (h : FsOk fs k) (hc : okC c = true) : FsOk (.ret kk none false l c p [] :: fs) (k + 1) :=
  ⟨by rw [List.all_cons, h.ok, Bool.and_true]; exact hc, by rw [List.length_cons, h.len], by show (splitAtGen fs).map _ = none; rw [h.sp]; rfl, by rw [List.any_cons, h.gd]; rfl⟩
def Pops (c : Cx) (A : Around) (R : GenEnd) (Y : Protocol) (code : Code) (fs : List Frame) (K : Flow → Sem Fin) (fs' : List Frame) : Prop :=
  ∀ n code' f L, Sg c A R Y n code fs (K f) L → Sg c A R Y n code' fs' (.pure (.done f)) L
section
variable {c : Cx} {A : Around} {R : GenEnd} {Y : Protocol} {n m k : Nat} {code : Code} {fs : List Frame} {L : List Cell} {env : Env} {K : Flow → Sem Fin} {H : Value → Sem Fin}
theorem sgq_func {body : List Stmt} {S : Addr} {Fi : List Value → List Cell → Prop}
    (h : ∀ code K H, okC code = true → (∀ n L acc L2, Sel ((S, pList acc) :: L2) L → Fi acc L2 → Sg c A (PR c S Fi) Y n code [] (K (.ret .none)) L) → Sg c A (PR c S Fi) Y n code [] ((execs body env).wrap K H id id) L) :
    Sg c A (PR c S Fi) Y n (.func body env) [] ((model c.prog c.w).den (.func body env)) L :=
  sg_func (h _ fK (fH env) rfl fun n L acc L2 sl hF => sg_end sl hF)
theorem sgq_cons {st : Stmt} {rest : List Stmt} (RA : Rm (m + 1 + k) A) (ok : FsOk fs k) (hc : okC code = true)
    (h : ∀ A', Rm m A' → Tr (c.wA A') (exec st env) L (Nx (fun L' => Sg c A R Y n code fs ((execs rest env).wrap K H id id) L') fun f L' => Sg c A R Y n code fs (K f) L')) :
    Sg c A R Y n code fs ((execs (st :: rest) env).wrap K H id id) L := sg_cons (h _ (Rm.over hc ok.ok (by rw [ok.len]; exact RA)))
theorem sgq_yield {S a : Addr} {g : Nat} {e : Expr} {ypos pos : Pos} {rest : List Stmt} (RA : Rm (m + 1 + k) A) (ok : FsOk fs k) (hc : okC code = true)
    (h : ∀ A', Rm m A' → Tr (c.wA A') (eval e env) L fun v L1 => ∃ acc L2, acc.length < 1000 ∧ (a, pGen g) ∈ L2 ∧ Sel ((S, pList acc) :: L2) L1 ∧ Sg c A R (PY c a g S) n code fs ((execs rest env).wrap K H id id) ((S, pList (acc ++ [v])) :: L2))
    (hco : env.scope.isCoroutine = false := by rfl) (hi : interactive env = false := by rfl) :
    Sg c A R (PY c a g S) (n + 1) code fs ((execs (.Expr (.Yield (some e) ypos) pos :: rest) env).wrap K H id id) L :=
  sg_head (sg_yield (K := hK rest env K H id id) ok.sp rfl ok.gd (h _ (Rm.over hc ok.ok (by rw [ok.len]; exact RA))) hco hi)
theorem sgq_While {test : Expr} {body orelse : List Stmt} {pos : Pos} {rest : List Stmt} (ok : FsOk fs k) (hc : okC code = true)
    (h : ∀ fs', FsOk fs' (k + 1) → Pops c A R Y code fs (hK rest env K H id id) fs' → Sg c A R Y n (.whileLoop test body orelse env) fs' ((model c.prog c.w).den (.whileLoop test body orelse env)) L) :
    Sg c A R Y n code fs ((execs (.While test body orelse pos :: rest) env).wrap K H id id) L :=
  sg_head (sg_While fun p => h _ (ok.cons hc) fun n code' f L q => sg_pop q)
theorem sgq_whileLoop {test : Expr} {body orelse : List Stmt} (RA : Rm (m + 1 + k) A) (ok : FsOk fs k) (I : Nat → List Cell → Prop)
    (turn : ∀ code K H, okC code = true → (∀ n' v L', Sg c A R Y n' code fs (.pure (.done (.ret v))) L' → Sg c A R Y n' code fs (K (.ret v)) L') →
      ∀ k n L, k ≤ n → I k L → (∀ m n' L', m < k → m ≤ n' → I m L' → Sg c A R Y n' code fs (K .next) L') →
      ∀ A', Rm m A' → Tr (c.wA A') (isTrue test env (eval test env)) L fun b L1 => b = true ∧ Sg c A R Y n code fs ((execs body env).wrap K H id id) L1)
    (k n : Nat) (L : List Cell) (hkn : k ≤ n) (hI : I k L) (hq : (Code.whileLoop test body orelse env).quiet = true := by rfl) : Sg c A R Y n (.whileLoop test body orelse env) fs ((model c.prog c.w).den (.whileLoop test body orelse env)) L :=
  sg_whileLoop I (fun k n L hkn hI IH => (turn (.whileLoop test body orelse env) (wK test body orelse env) (lH env) rfl (fun n' v L' q => q) k n L hkn hI (fun m n' L' a b d => IH m n' L' a b d) _ (Rm.over rfl ok.ok (by rw [ok.len]; exact RA))).mono
    fun b L1 q => ⟨fun _ => q.2, fun e => by rw [q.1] at e; cases e⟩) hq k n L hkn hI
theorem sgq_For {target iter : Expr} {body orelse : List Stmt} {pos : Pos} {rest : List Stmt} (RA : Rm (m + 1 + k) A) (ok : FsOk fs k) (hc : okC code = true)
    (h : ∀ A', Rm m A' → Tr (c.wA A') (eval iter env) L fun x L1 => Tr (c.wA A') (pyIter x) L1 fun it L2 => ∀ fs', FsOk fs' (k + 1) → Pops c A R Y code fs (hK rest env K H id id) fs' → Sg c A R Y n (.forLoop target it body orelse env) fs' ((model c.prog c.w).den (.forLoop target it body orelse env)) L2)
    (hs : ∀ x, foldedSetIterable iter env x = pure x := by intro _; rfl) :
    Sg c A R Y n code fs ((execs (.For target iter body orelse pos :: rest) env).wrap K H id id) L :=
  sg_head (sg_For ((h _ (Rm.over hc ok.ok (by rw [ok.len]; exact RA))).mono fun x L1 q => q.mono fun it L2 r p => r _ (ok.cons hc) fun n code' f L q => sg_pop q) hs)
theorem sgq_ForJ {target iter : Expr} {body orelse : List Stmt} {pos : Pos} {rest : List Stmt} (RA : Rm (m + 1 + k) A) (ok : FsOk fs k) (hc : okC code = true) (J : Nat → List Cell → Prop)
    (hJ : ∀ n L, J n L → Sg c A R Y n code fs ((execs rest env).wrap K H id id) L)
    (h : ∀ A', Rm m A' → Tr (c.wA A') (eval iter env) L fun x L1 => Tr (c.wA A') (pyIter x) L1 fun it L2 => ∀ fs', FsOk fs' (k + 1) → (∀ n code' L, J n L → Sg c A R Y n code' fs' (.pure (.done .next)) L) →
      (∀ n code' v L, Sg c A R Y n code fs (K (.ret v)) L → Sg c A R Y n code' fs' (.pure (.done (.ret v))) L) → Sg c A R Y n (.forLoop target it body orelse env) fs' ((model c.prog c.w).den (.forLoop target it body orelse env)) L2)
    (hs : ∀ x, foldedSetIterable iter env x = pure x := by intro _; rfl) :
    Sg c A R Y n code fs ((execs (.For target iter body orelse pos :: rest) env).wrap K H id id) L :=
  sgq_For RA ok hc (fun A' R' => (h A' R').mono fun x L1 q => q.mono fun it L2 r fs' ok' pop => r fs' ok' (fun n code' L z => pop n code' .next L (hJ n L z)) fun n code' v L z => pop n code' (.ret v) L z) hs
theorem Tr.cut {c : Cx} {t : Sem Flow} {L : List Cell} {Qn : List Cell → Prop} {Q : Flow → List Cell → Prop} (J : List Cell → Prop) (hJ : ∀ L', J L' → Qn L') (h : Tr c t L (Nx J Q)) : Tr c t L (Nx Qn Q) :=
  h.mono fun f L' q => by cases f <;> first | exact hJ _ q | exact q
theorem sgq_forLoop {target : Expr} {it : Value} {body orelse : List Stmt} (RA : Rm (m + 1 + k) A) (ok : FsOk fs k) (I : Nat → List Cell → Prop)
    (turn : ∀ code A', okC code = true → Rm m A' → ∀ k L, I k L → Tr (c.wA A') (pyNext it) L fun r L1 => match r with
      | none => ∀ code K H, okC code = true → (∀ n f L', Sg c A R Y n code fs (.pure (.done f)) L' → Sg c A R Y n code fs (K f) L') → Sg c A R Y n code fs ((execs orelse env).wrap K H id id) L1
      | some v => Tr (c.wA A') (letOwnedTupleGo target it v) L1 fun _ L2 => Tr (c.wA A') (assign target env v) L2 fun _ L3 =>
          Tr (c.wA A') (execs body env) L3 fun f L4 => match f with
          | .next | .cont => ∃ m L5, m < k ∧ Sel L5 L4 ∧ I m L5
          | .brk => Sg c A R Y n code fs (.pure (.done .next)) L4
          | .ret v => Sg c A R Y n code fs (.pure (.done (.ret v))) L4)
    (k : Nat) (L : List Cell) (hI : I k L) (hq : (Code.forLoop target it body orelse env).quiet = true := by rfl) (hq2 : (Code.block orelse env).quiet = true := by rfl) :
    Sg c A R Y n (.forLoop target it body orelse env) fs ((model c.prog c.w).den (.forLoop target it body orelse env)) L :=
  sg_forLoop I (fun k L hI => (turn (.forLoop target it body orelse env) _ rfl (Rm.over rfl ok.ok (by rw [ok.len]; exact RA)) k L hI).mono fun r L1 q => by
    cases r with
    | none => exact q _ _ _ rfl fun n f L' z => z
    | some v => exact q) hq hq2 k L hI
end
section
variable {K : Frag} {mg mb : Str → Option Value} {c : Cx} {L : List Cell} {env : Env} {n : Nat} {pos : Pos}
theorem str_ne_bool (x y : Str) : (x.cps.toList != y.cps.toList) = !decide (x = y) := by
  by_cases h : x = y
  · subst h; simp
  · have : x.cps.toList ≠ y.cps.toList := fun e => h (by cases x; cases y; simp at e; rw [e])
    simp [h, this]
theorem tr_neStr {x y : Str} {t u : Tok} {Q : Value → List Cell → Prop} (h : Q (.bool (!decide (x = y))) L) : Tr c (compareOp .NotEq (.str x t) (.str y u)) L Q := fun s H g o =>
  PySem.P.ne_str ⟨L, H, g, o, by rw [str_ne_bool]; exact h⟩
theorem tr_AssignTup {elts : List Expr} {k : Nat} {tpos : Pos} {value : Expr} {Q : Flow → List Cell → Prop} (h : Tr c (eval value env) L fun v L1 => Tr c (assign (.Tuple elts k tpos) env v) L1 fun _ L2 => Q .next L2)
    (hs : swapsWithSole [.Tuple elts k tpos] value pos.line env = pure false := by rfl) (hw : swappedStores [.Tuple elts k tpos] value env = pure none := by rfl) : Tr c (exec (.Assign [.Tuple elts k tpos] value pos) env) L Q := fun s H g o =>
  PyProof.Rows.Assign_Tuple (wpAny_mono (h.use H g o fun v s1 L1 H1 g1 o1 q => wpAny_mono (q s1 H1 g1 o1) (fun _ _ x => x) fun _ _ x => x) (fun _ _ x => x) fun _ _ x => x) hs hw
theorem tr_Tup3 {T : Addr} {t1 t2 t3 : Expr} {x y z : Value} {k : Nat} {Q : Unit → List Cell → Prop} (R : Rm n c.A) (hT : (T, pTup [x, y, z]) ∈ L) (h : Tr c (assign t1 env x) L fun _ L1 => Tr c (assign t2 env y) L1 fun _ L2 => Tr c (assign t3 env z) L2 Q)
    (he : assignEach [t1, t2, t3] env = [(false, assign t1 env), (false, assign t2 env), (false, assign t3 env)] := by rfl) : Tr c (assign (.Tuple [t1, t2, t3] k pos) env (.ref T)) L Q := fun s H g o => by
  obtain ⟨ob, e, j, rfl⟩ := H.at hT
  refine wpAny_assign_Tuple (items := #[x, y, z]) R.hd ⟨_, e, rfl, j, rfl⟩ (by rw [he]; rfl) (by rw [he]; rfl) fun h' hx => ?_
  rw [he]
  have H' : Own c.h₀ h' L := ⟨fun b ob e => hx b ob (fun q => by subst q; rw [H.none] at e; cases e) (H.keep b ob e), fun c' m => let ⟨ob, e, p⟩ := H.has c' m; ⟨ob, hx _ _ (Nat.ne_of_lt (Heap.lt_size e)) e, p⟩, H.new, H.hi, H.nd, H.lim⟩
  show wpAny _ _ (assignInOrder [assign t1 env, assign t2 env, assign t3 env] [x, y, z]) _ _ _
  unfold assignInOrder
  refine wpAny_bind (wpAny_holding (h.use (s := { s with heap := h' }) H' g o fun _ s1 L1 H1 g1 o1 q => ?_))
  unfold assignInOrder
  refine wpAny_bind (wpAny_holding (q.use H1 g1 o1 fun _ s2 L2 H2 g2 o2 q2 => ?_))
  unfold assignInOrder
  refine wpAny_bind (wpAny_holding (q2.use H2 g2 o2 fun _ s3 L3 H3 g3 o3 q3 => ?_))
  exact wpAny_pure ⟨L3, H3, g3, o3, q3⟩
end
end Mine
namespace Mine
def byText (w : World) : Bool := w.params.followText "set-order"
def pSetE (w : World) (ep : Nat) (es : List (Int × Value)) (o : Obj) : Prop :=
  ∃ t ps, o = { cls := .type "set", dict := none, data := .set es.toArray ep t, slots := #[] } ∧ TB t ps ∧ es = ps.map (·.2) ∧ t.plain = true ∧ t.led = !byText w ∧ (t.mask = 7 → es.length ≤ 4) ∧ es.length ≤ 17
def pSet (w : World) (es : List (Int × Value)) (o : Obj) : Prop := ∃ ep, pSetE w ep es o
theorem TB.fits {t : SetTable} {ps : List (Nat × Int × Value)} (T : TB t ps) {es : List (Int × Value)} (e : es = ps.map (·.2)) : t.fits es.toArray.size = true := by
  have h1 : t.place.size = ps.length := by rw [← Array.length_toList, T.pl, List.length_map]
  have h2 : es.length = ps.length := by rw [e, List.length_map]
  have := T.fi
  simp [SetTable.fits, SetTable.fill, T.dm, h1, h2]
  exact this
theorem TB.fresh (f m : Nat) (led : Bool) : TB (.fresh f m led) [] := ⟨rfl, rfl, .inl rfl, .nil, fun _ h => (nomatch h), Nat.zero_le _, fun _ h => (nomatch h)⟩
section
variable {prog : Program} {w : World} {A : Around} {E : Value → Shared → Prop} {s : Shared}
theorem set_new (a : Value) {Q₁ : Value → Shared → Prop}
    (h : Q₁ (.ref s.heap.objs.size) { s with heap := s.heap.push { cls := .type "set", dict := none, data := .set #[] 0 (.fresh 0 0 (!byText w)) } }) :
    codeAny (model prog w) A (.call (.builtin "set.__new__") ⟨[.type "set", a], []⟩) (wants Q₁ E) s := by
  refine codeAny_of_tree ?_
  show wpAny _ A.in1 (do checkBuiltinCall "set.__new__" ⟨[.type "set", a], []⟩; again (.builtin "set.__new__" ⟨[.type "set", a], []⟩)) _ _ s
  refine wpAny_bind (wpAny_of_eq (F.newCall_set_1 a) (wpAny_pure ⟨plainId_quiet F.plain_set_new _, codeAny_builtin F.entry_set_new ?_⟩))
  rw [Around.under_plainId F.plain_set_new _]
  unfold Builtin.«set.__new__» Builtin.Frozenset.newClass
  have hsub := sub_set_self
  obtain ⟨hp, g, d, tk, os⟩ := s
  dsimp only
  wp_walk
  refine wpAny_askSetting (wpAny_pure ?_)
  dsimp only
  simp only [newObj]
  refine wpAny_bind (wpAny_alloc (wpAny_pure ?_))
  exact wpAny_pure h
end
section
variable {c : Cx} {L : List Cell} {n : Nat}
theorem set_loop {A : Around} {S it l : Addr} {P : Obj → Prop} {vs : List Value} {Rr : Result → Shared → Prop} (R : Rm 3 A) (hP : SeqP P vs) (hl : (l, P) ∈ L) (I : Nat → List (Int × Value) → Prop)
    (add : ∀ (i : Nat) es v, vs[i]? = some v → I i es → Tr (c.wA A.in1) (setAdd S v) ((S, pSet c.w es) :: (it, pLIter l (i + 1)) :: L) fun _ L' => ∃ es', I (i + 1) es' ∧ Sel ((S, pSet c.w es') :: (it, pLIter l (i + 1)) :: L) L')
    (hR : ∀ s' es, Own c.h₀ s'.heap ((S, pSet c.w es) :: L) → c.G s'.gens → s'.os = c.O → I vs.length es → Rr (.ok (.ret .none)) s') :
    ∀ (k i : Nat) (es : List (Int × Value)) (s : Shared), vs.length - i = k → i ≤ vs.length → I i es → Own c.h₀ s.heap ((S, pSet c.w es) :: (it, pLIter l i) :: L) → c.G s.gens → s.os = c.O →
      codeAny (model c.prog c.w) A (.builtin "set.update.loop" ⟨[.ref S, .ref it], []⟩) Rr s := by
  intro k
  induction k with
  | zero =>
    intro i es s hk hi hI H g o
    have hin : i = vs.length := by omega
    subst hin
    refine codeAny_builtin PyProof.Rows.F.entry_set_update_loop ?_
    rw [Around.under_plainId PyProof.Rows.F.plain_set_update_loop _]
    show wpAny _ A.in1 (pyNext (.ref it) >>= _) _ _ s
    refine wpAny_bind ((tr_nextEnd (c := c.wA A.in1) (L' := (S, pSet c.w es) :: L) (Q := fun r L' => r = none ∧ L' = (S, pSet c.w es) :: L) (Rm.in1 R) (.tail .head) (.tail _ (.tail _ hl)) hP (by simp) ⟨rfl, rfl⟩).use H g o fun r s' L' H' g' o' q => ?_)
    obtain ⟨rfl, rfl⟩ := q
    exact wpAny_pure (hR s' es H' g' o' hI)
  | succ k ih =>
    intro i es s hk hi hI H g o
    have hlt : i < vs.length := by omega
    obtain ⟨v, hv⟩ : ∃ v, vs[i]? = some v := ⟨_, List.getElem?_eq_getElem hlt⟩
    refine codeAny_builtin PyProof.Rows.F.entry_set_update_loop ?_
    rw [Around.under_plainId PyProof.Rows.F.plain_set_update_loop _]
    show wpAny _ A.in1 (pyNext (.ref it) >>= _) _ _ s
    refine wpAny_bind ((tr_nextItem (c := c.wA A.in1) (L' := (S, pSet c.w es) :: (it, pLIter l (i + 1)) :: L) (Q := fun r L' => r = some v ∧ L' = (S, pSet c.w es) :: (it, pLIter l (i + 1)) :: L) (.tail .head) (.tail _ (.tail _ hl)) hP hv ⟨rfl, rfl⟩).use H g o fun r s' L' H' g' o' q => ?_)
    obtain ⟨rfl, rfl⟩ := q
    show wpAny _ A.in1 (holding [v] (setAdd S v) >>= _) _ _ s'
    refine wpAny_bind (wpAny_holding ((add i es v hv hI).use H' g' o' fun b s2 L2 H2 g2 o2 q2 => ?_))
    obtain ⟨es', hI', sl⟩ := q2
    exact wpAny_pure ⟨plainId_quiet PyProof.Rows.F.plain_set_update_loop _, ih (i + 1) es' s2 (by omega) hlt hI' (H2.sel sl) g2 o2⟩
end
theorem set_init_one {prog : Program} {w : World} {A : Around} {Q : Fin → Shared → Prop} {E : Value → Shared → Prop} {S l : Addr} {vs : List Value} {nl : Nat} {led : Bool} {s : Shared}
    (hS : s.heap.get? S = some { cls := .type "set", dict := none, data := .set #[] 0 (.fresh 0 0 led) }) (hl : s.heap.get? l = some { cls := .type "list", dict := none, data := .seq vs.toArray nl, slots := #[] })
    (h : wpAny (model prog w) A (pyIter (.ref l)) (fun a s' => wpAny (model prog w) A (do let _ ← runValue (Code.builtin "set.update.loop" ⟨[.ref S, a], []⟩); pure ()) (fun _ s' => wpAny (model prog w) A (ret .none) Q E s') E s') E s) :
    wpAny (model prog w) A (Builtin.«set.__init__» ⟨[.ref S] ++ [.ref l], []⟩) Q E s := by
  have hT : s.TypeIs (.ref S) "set" := ⟨_, hS, rfl⟩
  have hTl : s.TypeIs (.ref l) "list" := ⟨_, hl, rfl⟩
  have hsls := F.sub_list_set
  have hslf := F.sub_list_frozenset
  have hne : (Value.type "list" == Value.type "dict") = false := by decide
  unfold Builtin.«set.__init__» noKeywords Builtin.Frozenset.updateFrom
  generalize hPI : pyIter = PI at *
  wp_walk
  exact h
section
variable {c : Cx} {L : List Cell} {n : Nat}
set_option maxHeartbeats 3200000 in
theorem tr_setOf {l : Addr} {P : Obj → Prop} {vs : List Value} {Q : Value → List Cell → Prop} (R : Rm 8 c.A) (hl : (l, P) ∈ L) (hPl : ∀ o, P o → ∃ m, o = { cls := .type "list", dict := none, data := .seq vs.toArray m, slots := #[] }) (I : Nat → List (Int × Value) → Prop) (h0 : I 0 [])
    (add : ∀ (A : Around) S it (i : Nat) es v, Rm 2 A → vs[i]? = some v → I i es → Tr (c.wA A) (setAdd S v) ((S, pSet c.w es) :: (it, pLIter l (i + 1)) :: L) fun _ L' => ∃ es', I (i + 1) es' ∧ Sel ((S, pSet c.w es') :: (it, pLIter l (i + 1)) :: L) L')
    (h : ∀ S es, I vs.length es → Q (.ref S) ((S, pSet c.w es) :: L)) : Tr c (call (.type "set") [.ref l] []) L Q := fun s H gg oo => by
  obtain ⟨cc, tl, hmro⟩ := F.called_set.mro
  have hmade := F.called_set.made
  have hsub := F.called_set.sub
  refine wpAny_call (codeAny_of_tree ?_)
  show wpAny _ _ (callAny (.type "set") _) _ _ _
  refine wpAny_pure ⟨Code.quiet_builtin _ (by decide +kernel), codeAny_builtin F.entry_type_call ?_⟩
  rw [Around.under_plain (weight_type_call_type "set" [.ref l] []) rfl]
  have h1 := F.called_set.notType
  have h2 := F.called_set.canCreate
  have hct := F.typeCall_set_1 (.ref l)
  repeat (any_goals (first | assumption | wp_step))
  have H1 : Own c.h₀ (s.heap.push { cls := .type "set", dict := none, data := .set #[] 0 (.fresh 0 0 (!byText c.w)) }) ((s.heap.objs.size, pSet c.w []) :: L) :=
    H.push (P := pSet c.w []) ⟨0, _, [], rfl, .fresh _ _ _, rfl, rfl, rfl, fun _ => Nat.zero_le _, Nat.zero_le _⟩ rfl
  refine codeAny_mono (set_new (w := c.w) (.ref l) (E := fun _ _ => False) (Q₁ := fun obj s₁ => obj = .ref s.heap.objs.size ∧ s₁ = { s with heap := s.heap.push { cls := .type "set", dict := none, data := .set #[] 0 (.fresh 0 0 (!byText c.w)) } }) ⟨rfl, rfl⟩) fun r s₁ hr => ?_
  cases r with
  | error e => exact hr.elim
  | ok fl =>
    cases fl with
    | ret obj =>
      obtain ⟨rfl, rfl⟩ := hr
      have hS : (s.heap.push { cls := .type "set", dict := none, data := .set #[] 0 (.fresh 0 0 (!byText c.w)) }).get? s.heap.objs.size = some { cls := .type "set", dict := none, data := .set #[] 0 (.fresh 0 0 (!byText c.w)) } := Heap.get?_push_size _ rfl
      have hT : Shared.TypeIs { s with heap := s.heap.push { cls := .type "set", dict := none, data := .set #[] 0 (.fresh 0 0 (!byText c.w)) } } (.ref s.heap.objs.size) "set" := ⟨_, hS, rfl⟩
      have hli := F.called_set.init.lookup
      have hbi := F.called_set.init.bind (.ref s.heap.objs.size)
      repeat (any_goals (first | assumption | wp_step))
      refine codeAny_mono (codeAny_call_builtin (R := wants (fun r s₂ => r = .none ∧ Post c Q (.ref s.heap.objs.size) s₂) fun _ _ => False) F.called_set.init.plain F.entry_set_init (check_set_init_1 hT ?_)) fun r₂ s₂ hr₂ => ?_
      · obtain ⟨ol, hol, pl⟩ := H.at hl
        obtain ⟨nl, rfl⟩ := hPl ol pl
        have hol' : (s.heap.push { cls := .type "set", dict := none, data := .set #[] 0 (.fresh 0 0 (!byText c.w)) }).get? l = some { cls := .type "list", dict := none, data := .seq vs.toArray nl, slots := #[] } := Heap.get?_push_of_some _ hol
        have hl1 : (s.heap.push { cls := .type "set", dict := none, data := .set #[] 0 (.fresh 0 0 (!byText c.w)) }).IsList l vs.toArray := ⟨_, hol', rfl, nl, rfl⟩
        refine set_init_one (vs := vs) (nl := nl) hS hol' ?_
        refine wpAny_pyIter_list hl1 ?_
        refine wpAny_bind (wpAny_runValue ?_)
        have H2 : Own c.h₀ ((s.heap.push { cls := .type "set", dict := none, data := .set #[] 0 (.fresh 0 0 (!byText c.w)) }).push { cls := .type "list_iterator", data := .fields #[.ref l, .int 0 0] }) ((s.heap.objs.size, pSet c.w []) :: ((s.heap.push { cls := .type "set", dict := none, data := .set #[] 0 (.fresh 0 0 (!byText c.w)) }).objs.size, pLIter l 0) :: L) :=
          (H1.push (P := pLIter l 0) rfl rfl).perm (.swap _ _ _)
        refine set_loop (c := c) (L := L) (P := P) (vs := vs) (Rm.in1 (Rm.in1 (R.le (by omega)))) (fun o p => by obtain ⟨m, rfl⟩ := hPl o p; exact ⟨m, rfl⟩) hl I (fun i es v hv hI => add _ _ _ i es v (Rm.in1 (Rm.in1 (Rm.in1 (R.le (by omega))))) hv hI) (fun s' es H' g' o' hI => ?_) (vs.length - 0) 0 [] _ rfl (Nat.zero_le _) h0 H2 gg oo
        show wpAny _ _ (pure ()) _ _ _
        refine wpAny_pure ?_
        exact wpAny_pure ⟨rfl, _, H', g', o', h _ es hI⟩
      · cases r₂ with
        | error e => exact hr₂.elim
        | ok fl₂ =>
          cases fl₂ with
          | ret r =>
            obtain ⟨rfl, hp⟩ := hr₂
            repeat (any_goals (first | assumption | wp_step))
          | _ => exact hr₂.elim
    | _ => exact hr.elim
end
end Mine
namespace Mine
def rowHash (ks : List Int) : Int := reduceHash (Builtin.Tuple.tupleHashOf (ks.map hashInt))
def small5 : List Int := [0, 1, 2, 3, 4]
def univ : List (List Int) := (small5.flatMap fun a => small5.map fun b => [a, b]) ++ (small5.flatMap fun a => small5.flatMap fun b => small5.map fun d => [a, b, d])
theorem univ_mem {r : List Int} (hl : r.length = 2 ∨ r.length = 3) (hv : ∀ a ∈ r, 0 ≤ a ∧ a ≤ 4) : r ∈ univ := by
  have h5 : ∀ a, 0 ≤ a ∧ a ≤ 4 → a ∈ small5 := fun a h => by
    have : a = 0 ∨ a = 1 ∨ a = 2 ∨ a = 3 ∨ a = 4 := by omega
    rcases this with rfl | rfl | rfl | rfl | rfl <;> decide
  unfold univ
  rcases hl with hl | hl
  · match r, hl with
    | [a, b], _ => exact List.mem_append_left _ (List.mem_flatMap.mpr ⟨a, h5 a (hv a (by simp)), List.mem_map.mpr ⟨b, h5 b (hv b (by simp)), rfl⟩⟩)
  · match r, hl with
    | [a, b, d], _ => exact List.mem_append_right _ (List.mem_flatMap.mpr ⟨a, h5 a (hv a (by simp)), List.mem_flatMap.mpr ⟨b, h5 b (hv b (by simp)), List.mem_map.mpr ⟨d, h5 d (hv d (by simp)), rfl⟩⟩⟩)
theorem univ_hashes : (univ.map rowHash).Nodup := by decide +kernel
theorem rowHash_inj {r r' : List Int} (h : r ∈ univ) (h' : r' ∈ univ) (e : rowHash r = rowHash r') : r = r' := by
  have nd := univ_hashes
  obtain ⟨i, hi, rfl⟩ := List.mem_iff_getElem.mp h
  obtain ⟨j, hj, rfl⟩ := List.mem_iff_getElem.mp h'
  have := (List.pairwise_iff_getElem.mp nd)
  rcases Nat.lt_trichotomy i j with z | z | z
  · exact absurd (by rw [List.getElem_map, List.getElem_map]; exact e) (this i j (by simpa using hi) (by simpa using hj) z)
  · subst z; rfl
  · exact absurd (by rw [List.getElem_map, List.getElem_map]; exact e.symm) (this j i (by simpa using hj) (by simpa using hi) z)

theorem findIdx_none {es : List (Int × Value)} {p : Int × Value → Bool} (h : es.findIdx? p = none) : ∀ e ∈ es, p e = false := List.findIdx?_eq_none_iff.mp h
theorem not_full {t : SetTable} {n : Nat} (hd : t.dummies = #[]) (hs : t.place.size = n) (hm : t.mask = 7 ∨ t.mask = 31) (h7 : t.mask = 7 → n ≤ 4) (h31 : n ≤ 18) : t.tooFull = false := by
  unfold SetTable.tooFull SetTable.fill
  rw [hd, hs]
  rcases hm with e | e
  · have := h7 e; rw [e]; simp; omega
  · rw [e]; simp; omega
section
variable {c : Cx} {L : List Cell} {n : Nat}
theorem TB.size {t : SetTable} {ps : List (Nat × Int × Value)} (T : TB t ps) : t.place.size = ps.length := by rw [← Array.length_toList, T.pl, List.length_map]
theorem TB.plain {t : SetTable} {ps : List (Nat × Int × Value)} (T : TB t ps) (b : Bool) : TB { t with plain := b } ps := ⟨T.pl, T.dm, T.mq, T.ri, T.le, T.fi, T.re⟩
theorem insP_snd (ps : List (Nat × Int × Value)) (p : Nat) (e : Nat × Int × Value) : List.Perm ((insP ps p e).map (·.2)) (e.2 :: ps.map (·.2)) := by
  unfold insP
  rw [List.map_append, List.map_cons, List.map_take, List.map_drop]
  refine List.perm_middle.trans (.cons _ ?_)
  rw [List.take_append_drop]
theorem insertAt_eq {es : List (Int × Value)} {ps : List (Nat × Int × Value)} (e : es = ps.map (·.2)) (p : Nat) (j : Nat) (h : Int) (x : Value) : SetTable.insertAt es.toArray p (h, x) = ((insP ps p (j, h, x)).map (·.2)).toArray := by
  apply Array.toList_inj.mp
  rw [SetTable.toList_insertAt, e]
  simp [insP]
theorem set_add_int {A : Around} {S : Addr} {es : List (Int × Value)} {k : Int} {tk : Tok} (hel : ElemsOf (intKind c.prog c.w) es) (hlen : es.length ≤ 3) :
    Tr (c.wA A) (setAdd S (.int k tk)) ((S, pSet c.w es) :: L) fun _ L' => ∃ es', L' = (S, pSet c.w es') :: L ∧ (((∃ e ∈ es, (intKind c.prog c.w).is k e.2 = true) ∧ es' = es) ∨ ((∀ e ∈ es, (intKind c.prog c.w).is k e.2 = false) ∧ List.Perm es' (((intKind c.prog c.w).hash k, .int k tk) :: es))) := fun s H g o => by
  obtain ⟨ob, ho, ep, t, ps, rfl, T, e, hp, hl, h7, h17⟩ := H.at (.head _)
  have hkey := intKind_is c.prog c.w k tk
  have hf : t.fits es.toArray.size = true := T.fits e
  have hel' : ElemsOf (intKind c.prog c.w) es.toArray.toList := hel
  unfold setAdd
  refine wpAny_holding (wpAny_bind ((intKind c.prog c.w).pyHash (k := k) hkey ?_))
  unfold setAddHashed setAddHashedIn
  refine wpAny_holding (wpAny_bind (wpAny_setState_of ho rfl hf ?_))
  dsimp only
  rw [byScan_of (x := .int k tk) rfl (by rw [List.size_toArray]; unfold scanBound; omega) hel']
  simp only [↓reduceIte]
  unfold setAddByScan
  refine wpAny_bind ?_
  refine wpAny_bind (wpAny_rule ?_)
  refine wpAny_bind (wpAny_setScan_of hkey ho rfl hf hel' ?_)
  cases hr : List.findIdx? (fun e => (intKind c.prog c.w).is k e.2) es.toArray.toList with
  | some j =>
    dsimp only
    obtain ⟨hj, hpj, _⟩ := List.findIdx?_eq_some_iff_getElem.mp hr
    exact wpAny_pure (wpAny_pure ⟨_, H, g, o, es, rfl, .inl ⟨⟨es.toArray.toList[j], List.getElem_mem hj, hpj⟩, rfl⟩⟩)
  | none =>
    dsimp only
    have hno := findIdx_none hr
    obtain ⟨j, f1, f2, f3, f4⟩ := free_spec T ((intKind c.prog c.w).hash k)
    have hpl : ps.length = es.length := by rw [e, List.length_map]
    have hfi : ps.length + 1 ≤ t.mask := by rcases T.mq with q | q <;> omega
    obtain ⟨p, p1, p2⟩ := put_spec (x := .int k tk) T f1 f2 f3 hfi
    have hins := insertAt_eq e p j ((intKind c.prog c.w).hash k) (.int k tk)
    have hfit2 := p2.fits (es := (insP ps p (j, (intKind c.prog c.w).hash k, .int k tk)).map (·.2)) rfl
    have hlay : layNew t es.toArray ((intKind c.prog c.w).hash k) (.int k tk) = (((insP ps p (j, (intKind c.prog c.w).hash k, .int k tk)).map (·.2)).toArray, { t with place := SetTable.insertAt t.place p j }, false, false) := by
      unfold layNew
      rw [f4]
      dsimp only
      rw [p1]
      dsimp only
      rw [hins]
      unfold SetTable.orStandIn
      rw [hfit2]
      rfl
    rw [hlay]
    dsimp only
    have hgw : ∀ {s₁ : Shared} {Q' : Unit → Shared → Prop}, Q' () s₁ → wpAny (model c.prog c.w) A (match false with | true => rule "set.scan.the-table-gave-way" | false => pure ()) Q' (fun _ _ => False) s₁ := fun hq => wpAny_pure hq
    refine wpAny_bind (hgw ?_)
    rw [if_pos hp]
    rw [hashByValue_scannable 8 (x := .int k tk) rfl]
    refine wpAny_bind (wpAny_pure ?_)
    simp only [plainKind, ↓reduceIte]
    have hnf : ({ t with place := SetTable.insertAt t.place p j } : SetTable).tooFull = false := not_full (n := ps.length + 1) T.dm (by rw [p2.size, insP_len]) T.mq (fun _ => by omega) (by omega)
    have hsz : (((insP ps p (j, (intKind c.prog c.w).hash k, .int k tk)).map (·.2)).toArray).size ≤ sizeLine := by rw [List.size_toArray, List.length_map, insP_len]; have : sizeLine = 2 ^ 24 := rfl; omega
    refine wpAny_bind (wpAny_storeSet_of ho rfl ?_ hsz)
    rw [hnf]
    simp only [Bool.and_false, Bool.false_eq_true, if_false]
    refine wpAny_pure (wpAny_pure ?_)
    have hg := Heap.get?_update_self (Obj.putSet ((insP ps p (j, (intKind c.prog c.w).hash k, .int k tk)).map (·.2)).toArray { t with place := SetTable.insertAt t.place p j }) ho (by rw [putSet_of _ _ rfl]; rfl)
    rw [putSet_of _ _ rfl] at hg
    refine ⟨_, H.upd (.head (P' := pSet c.w ((insP ps p (j, (intKind c.prog c.w).hash k, .int k tk)).map (·.2)))) (Heap.SameBut.update ..) hg ?_, g, o, _, rfl, .inr ⟨hno, ?_⟩⟩
    · exact ⟨ep + 1, _, _, rfl, p2, rfl, hp, hl, fun _ => by rw [List.length_map, insP_len]; omega, by rw [List.length_map, insP_len]; omega⟩
    · rw [e]; exact insP_snd _ _ _
end
end Mine
namespace Mine
def pTI (ns : List Int) (o : Obj) : Prop := ∃ vs, IntsAre vs ns ∧ pTup vs o
theorem ints_items {prog : Program} {w : World} : ∀ {vs : List Value} {ns : List Int}, IntsAre vs ns → ItemsAre (intKind prog w) ns vs
  | _, _, .nil => .nil
  | _, _, .cons i t r => .cons (intKind_is prog w i t) (ints_items r)
theorem Own.tupKey {h₀ h : Heap} {L : List Cell} (H : Own h₀ h L) {a : Addr} {ns : List Int} (m : (a, pTI ns) ∈ L) (prog : Program) (w : World) : IsTupleKey (intKind prog w) h ns a := by
  obtain ⟨o, e, vs, hi, n, rfl⟩ := H.at m
  exact ⟨_, _, _, e, rfl, rfl, ints_items hi⟩
theorem rowHash_eq (prog : Program) (w : World) (ks : List Int) : tupleKeyHash (intKind prog w) ks = rowHash ks := rfl
theorem items_int {prog : Program} {w : World} {ks : List Int} {l : List Value} (hi : ItemsAre (intKind prog w) ks l) : ∀ v ∈ l, ∃ k t, v = .int k t := by
  induction hi with
  | nil => exact fun _ h => (nomatch h)
  | @cons k v' ks vs h1 _ ih =>
    intro v hv
    rcases List.mem_cons.mp hv with rfl | hv
    · cases v <;> simp [intKind, Value.isInt] at h1
      exact ⟨_, _, rfl⟩
    · exact ih v hv
section
variable {prog : Program} {w : World} {A : Around} {E : Value → Shared → Prop} {s : Shared}
theorem hbv_tup {ks : List Int} {a : Addr} {Q : Bool → Shared → Prop} (hk : IsTupleKey (intKind prog w) s.heap ks a) (h : Q true s) : wpAny (model prog w) A (hashByValue 8 (.ref a)) Q E s := by
  have hT := hk.typeIs
  obtain ⟨o, items, n, ho, _, hd, hi⟩ := hk
  unfold hashByValue
  refine wpAny_bind (wpAny_specialOf hT F.slot_tuple_hash.lookup ?_)
  dsimp only
  refine wpAny_bind (wpAny_seqItems ho hd ?_)
  simp only [Option.getD]
  refine wpAny_bind ?_
  rw [← Array.forIn_toList]
  refine wpAny_forIn_list _ (fun rest r s' => r.1 = none ∧ s' = s ∧ ∀ v ∈ rest, ∃ k t, v = .int k t) _ ?_ ?_ _ _ ⟨rfl, rfl, fun v hv => ?_⟩
  · rintro v rest r s' ⟨hr, rfl, hall⟩
    obtain ⟨k, t, rfl⟩ := hall v List.mem_cons_self
    rw [hashByValue_scannable 7 (x := .int k t) rfl]
    refine wpAny_bind (wpAny_pure ?_)
    simp only [plainKind, Bool.not_true, Bool.false_eq_true, if_false]
    exact wpAny_pure ⟨rfl, rfl, fun u hu' => hall u (List.mem_cons_of_mem _ hu')⟩
  · rintro ⟨r1, r2⟩ s' ⟨hr, rfl, _⟩
    simp only at hr
    subst hr
    exact wpAny_pure h
  · exact items_int hi v hv
theorem oac_tup {ks : List Int} {a : Addr} {Q : Bool → Shared → Prop} (hk : IsTupleKey (intKind prog w) s.heap ks a) (h : Q false s) : wpAny (model prog w) A (ofAClassStatement 8 (.ref a)) Q E s := by
  have hT := hk.typeIs
  obtain ⟨o, items, n, ho, _, hd, hi⟩ := hk
  unfold ofAClassStatement
  refine wpAny_bind (wpAny_typeOf hT ?_)
  dsimp only
  rw [if_pos (by decide)]
  refine wpAny_bind (wpAny_pure ?_)
  simp only [Bool.not_true, Bool.false_eq_true, if_false]
  refine wpAny_bind (wpAny_seqItems ho hd ?_)
  dsimp only
  refine wpAny_bind ?_
  rw [← Array.forIn_toList]
  refine wpAny_forIn_list _ (fun rest r s' => r.1 = none ∧ s' = s ∧ ∀ v ∈ rest, ∃ k t, v = .int k t) _ ?_ ?_ _ _ ⟨rfl, rfl, fun v hv => ?_⟩
  · rintro v rest r s' ⟨hr, rfl, hall⟩
    obtain ⟨k, t, rfl⟩ := hall v List.mem_cons_self
    have e : ofAClassStatement 7 (.int k t) = pure false := by unfold ofAClassStatement; rfl
    rw [e]
    refine wpAny_bind (wpAny_pure ?_)
    simp only [Bool.false_eq_true, if_false]
    exact wpAny_pure ⟨rfl, rfl, fun u hu' => hall u (List.mem_cons_of_mem _ hu')⟩
  · rintro ⟨r1, r2⟩ s' ⟨hr, rfl, _⟩
    simp only at hr
    subst hr
    exact wpAny_pure h
  · exact items_int hi v hv
theorem scb_tup {ks : List Int} {a : Addr} {st : List Value} {Q : Bool → Shared → Prop} (hk : IsTupleKey (intKind prog w) s.heap ks a) (hs : ∀ y ∈ st, ∃ b r, y = .ref b ∧ IsTupleKey (intKind prog w) s.heap r b) (h : Q false s) : wpAny (model prog w) A (searchCouldBeSeen (.ref a) st) Q E s := by
  unfold searchCouldBeSeen
  refine wpAny_bind ?_
  refine wpAny_forIn_list _ (fun rest r s' => r.1 = none ∧ s' = s ∧ ∀ y ∈ rest, ∃ b r, y = .ref b ∧ IsTupleKey (intKind prog w) s.heap r b) _ ?_ ?_ _ _ ⟨rfl, rfl, hs⟩
  · rintro v rest r s' ⟨hr, rfl, hall⟩
    obtain ⟨b, r', rfl, hb⟩ := hall v List.mem_cons_self
    dsimp only
    split
    · exact wpAny_pure ⟨rfl, rfl, fun u hu' => hall u (List.mem_cons_of_mem _ hu')⟩
    · refine wpAny_bind (wpAny_eqIsQuiet_tuple hk ?_)
      simp only [Bool.not_true, Bool.false_eq_true, if_false]
      refine wpAny_bind (wpAny_eqIsQuiet_tuple hb ?_)
      simp only [Bool.not_true, Bool.false_eq_true, if_false]
      refine wpAny_bind (oac_tup hk ?_)
      simp only [Bool.false_eq_true, if_false]
      refine wpAny_bind (oac_tup hb ?_)
      simp only [Bool.false_eq_true, if_false]
      exact wpAny_pure ⟨rfl, rfl, fun u hu' => hall u (List.mem_cons_of_mem _ hu')⟩
  · rintro ⟨r1, r2⟩ s' ⟨hr, rfl, _⟩
    simp only at hr
    subst hr
    exact wpAny_pure h
end
def TupEs (L : List Cell) (es : List (Int × Value)) (RS : List (Addr × List Int)) : Prop := es = RS.map (fun x => (rowHash x.2, .ref x.1)) ∧ ∀ x ∈ RS, (x.1, pTI x.2) ∈ L ∧ x.2 ∈ univ
theorem probe_inv {t : SetTable} {ps : List (Nat × Int × Value)} (T : TB t ps) {f : Nat → Int} {h : Int} {met : Option SetTable.Met} (e : t.probe f h (t.probeStart h) = met) :
    (∃ j i nx, t.slot j = .live i ∧ t.place[i]? = some j ∧ f i = h ∧ met = some (.candidate j i nx)) ∨
    (∃ j, j ∉ ps.map (·.1) ∧ j ≤ t.mask ∧ Reach t.mask (ps.map (·.1)) h j ∧ met = some (.empty j none) ∧
      ∀ i e, ps[i]? = some e → e.2.1 = h → f i = h → False) := by
  rw [← e]
  exact probe_spec T f h
end Mine
namespace Mine
section
variable {prog : Program} {w : World} {A : Around} {E : Value → Shared → Prop} {s : Shared}
theorem search_tup {S a : Addr} {r : List Int} {o : Obj} {es : List (Int × Value)} {ep : Nat} {t : SetTable} {ps : List (Nat × Int × Value)} {Q : SetFound → Shared → Prop}
    (hu : A.units < cLine) (hk : IsTupleKey (intKind prog w) s.heap r a) (hr : r ∈ univ) (ho : s.heap.get? S = some o) (hd : o.data = .set es.toArray ep t) (T : TB t ps) (e : es = ps.map (·.2))
    (hes : ∀ x ∈ es, ∃ b r', x = (rowHash r', .ref b) ∧ r' ∈ univ ∧ IsTupleKey (intKind prog w) s.heap r' b)
    (hY : (∃ b, (rowHash r, .ref b) ∈ es) → Q (.there none) s)
    (hN : ∀ j, (∀ x ∈ es, x.1 ≠ rowHash r) → j ∉ ps.map (·.1) → j ≤ t.mask → Reach t.mask (ps.map (·.1)) (rowHash r) j → Q (.free j false) s) :
    wpAny (model prog w) A (setSearch S (.ref a) (rowHash r) true) Q E s := by
  have hf := T.fits e
  unfold setSearch setSearchFrom
  refine wpAny_bind (wpAny_setState_of ho hd hf ?_)
  dsimp only
  have hgw : t.gaveWay = false := by
    unfold SetTable.gaveWay
    rcases T.mq with q | q <;> rw [q] <;> rfl
  rw [hgw]
  simp only [Bool.false_eq_true, if_false, Option.getD]
  generalize hm : SetTable.probe t _ (rowHash r) (t.probeStart (rowHash r)) = met
  rcases probe_inv T hm with ⟨j, i, nx, h1, h2, h3, rfl⟩ | ⟨j, h1, h2, h3, rfl, h5⟩
  · dsimp only
    have hi : i < es.length := by
      have : i < t.place.size := by
        rcases Nat.lt_or_ge i t.place.size with q | q
        · exact q
        · rw [Array.getElem?_eq_none q] at h2; exact nomatch h2
      rw [T.size] at this; rw [e, List.length_map]; exact this
    have hei : es.toArray[i]? = some es[i] := by simp [hi]
    obtain ⟨b, r', hx, hr', hb⟩ := hes es[i] (List.getElem_mem hi)
    have hh : rowHash r' = rowHash r := by
      have h3 : (es.toArray[i]?.map (·.1)).getD 0 = rowHash r := h3
      rw [hei, hx] at h3
      exact h3
    obtain rfl := rowHash_inj hr' hr hh
    have fin : wpAny (model prog w) A (match es.toArray[i]? with
      | some (_, y) => do
        let equal ← holding [y] (eqBool y (.ref a))
        let (es', _, t') ← setState S
        if (true && equal) = true then return .there none
        let some smm := t'.sameMemory t.moves t.mask | unsupported "set.changed-during-lookup:is-the-new-block-at-the-old-address"
        let still ← match (if smm then t'.slot j else .empty) with
          | .live i' => match es'[i']? with
            | some (_, y') => do pure (if ← isSame y' y then some i' else none)
            | none => pure none
          | _ => pure none
        match still with
        | none => rule "set.search.anew"; setSearchFrom S (.ref a) (rowHash r') true 99999 none
        | some i' => if equal then return .there (some i') else setSearchFrom S (.ref a) (rowHash r') true 99999 (some nx)
      | _ => unsupported "internal:set-entry") Q E s := by
      rw [hei, hx]
      dsimp only
      refine wpAny_bind (wpAny_holding (wpAny_eqBool_tuple hu hb hk ?_))
      refine wpAny_bind (wpAny_setState_of ho hd hf ?_)
      dsimp only
      rw [if_pos (by simp)]
      exact wpAny_pure (hY ⟨b, hx ▸ List.getElem_mem hi⟩)
    cases t.led with
    | true =>
      simp only [Bool.not_true, Bool.false_eq_true, if_false]
      exact fin
    | false =>
      simp only [Bool.not_false, if_true]
      refine wpAny_bind (scb_tup hk (fun y hy => ?_) ?_)
      · obtain ⟨z, hz, rfl⟩ := List.mem_map.mp hy
        obtain ⟨b, r2, rfl, h2, h3⟩ := hes z (by simpa using (Array.mem_filter.mp (Array.mem_toList_iff.mp hz)).1)
        exact ⟨b, r2, rfl, h3⟩
      · simp only [Bool.false_eq_true, if_false]
        exact fin
  · dsimp only
    refine wpAny_pure (hN j (fun x hx hxe => ?_) h1 h2 h3)
    obtain ⟨i, hi, rfl⟩ := List.mem_iff_getElem.mp hx
    have hi' : i < ps.length := by rw [e, List.length_map] at hi; exact hi
    have hpi : ps[i]? = some ps[i] := by simp [hi']
    refine h5 i ps[i] hpi ?_ ?_
    · subst e; rw [List.getElem_map] at hxe; exact hxe
    · show (es.toArray[i]?.map (·.1)).getD 0 = rowHash r
      have hei : es.toArray[i]? = some es[i] := by simp [hi]
      rw [hei]; exact hxe
end
end Mine
namespace Mine
theorem set_five {t : SetTable} (hd : t.dummies = #[]) (hm : t.mask = 7) (hs : t.place.size = 5) : t.tooFull = true := by
  unfold SetTable.tooFull SetTable.fill
  rw [hd, hs, hm]; rfl
section
variable {prog : Program} {w : World} {A : Around} {E : Value → Shared → Prop} {s : Shared}
theorem relay_spec {S : Addr} {o : Obj} {es : List (Int × Value)} {ep : Nat} {t : SetTable} {ps : List (Nat × Int × Value)} {Q : Unit → Shared → Prop}
    (ho : s.heap.get? S = some o) (hd : o.data = .set es.toArray ep t) (T : TB t ps) (e : es = ps.map (·.2)) (hlen : es.length ≤ 15)
    (h : ∀ t' ps', TB t' ps' → List.Perm (ps'.map (·.2)) es → t'.mask = 31 → t'.led = t.led → t'.plain = t.plain → Q () { s with heap := s.heap.update S (Obj.putSet (ps'.map (·.2)).toArray t') }) :
    wpAny (model prog w) A (setRelay S 20) Q E s := by
  have hf := T.fits e
  unfold setRelay
  refine wpAny_bind (wpAny_setState_of ho hd hf ?_)
  dsimp only
  have hsz : SetTable.sizeAbove 20 = 32 := by decide +kernel
  rw [hsz, if_neg (by have : sizeLine = 2 ^ 24 := rfl; omega)]
  obtain ⟨t', order, ps', e1, e2, e3, e4, e5, e6, e7⟩ := laid_spec (mask := 31) (.inr rfl) (es := es.toArray) (by rw [List.size_toArray]; omega) t.finger (t.movedTo 31) t.led t.plain
  have hrel : t.relaid (es.toArray.map (·.1)) 20 = some (t', order) := by
    unfold SetTable.relaid
    rw [hsz]; exact e1
  rw [hrel]
  refine wpAny_bind ?_
  have hpl : (order.filterMap (es.toArray[·]?)) = (ps'.map (·.2)).toArray := Array.toList_inj.mp (by rw [e2])
  have hpe : (ps'.map (·.2)).length = es.length := by have := e3.length_eq; simpa using this
  show wpAny _ _ (do
    let es' := order.filterMap (es.toArray[·]?)
    if es'.size != es.toArray.size then unsupported "internal:set-table-lost-an-element"
    pure (es', t')) _ _ _
  dsimp only
  rw [hpl, if_neg (by simp only [List.size_toArray, hpe]; simp)]
  refine wpAny_bind (wpAny_pure (wpAny_pure ?_))
  refine wpAny_storeSet_of ho hd (h t' ps' e4 e3 e5 e6 e7) ?_
  rw [List.size_toArray, hpe]; have : sizeLine = 2 ^ 24 := rfl; omega
end
section
variable {c : Cx} {L : List Cell} {n : Nat}
theorem set_add_tup {A : Around} {S a : Addr} {es : List (Int × Value)} {r : List Int} (hu : A.units < cLine) (hx : (a, pTI r) ∈ L) (hr : r ∈ univ) (hes : ∀ x ∈ es, ∃ b r', x = (rowHash r', .ref b) ∧ r' ∈ univ ∧ (b, pTI r') ∈ L) (hlen : es.length ≤ 12) :
    Tr (c.wA A) (setAdd S (.ref a)) ((S, pSet c.w es) :: L) fun _ L' => ∃ es', L' = (S, pSet c.w es') :: L ∧ (((∃ b, (rowHash r, .ref b) ∈ es) ∧ es' = es) ∨ ((∀ x ∈ es, x.1 ≠ rowHash r) ∧ List.Perm es' ((rowHash r, .ref a) :: es))) := fun s H g o => by
  obtain ⟨ob, ho, ep, t, ps, rfl, T, e, hp, hl, h7, h17⟩ := H.at (.head _)
  have hk : IsTupleKey (intKind c.prog c.w) s.heap r a := H.tupKey (.tail _ hx) _ _
  have hes' : ∀ x ∈ es, ∃ b r', x = (rowHash r', .ref b) ∧ r' ∈ univ ∧ IsTupleKey (intKind c.prog c.w) s.heap r' b := fun x hx => by
    obtain ⟨b, r', h1, h2, h3⟩ := hes x hx
    exact ⟨b, r', h1, h2, H.tupKey (.tail _ h3) _ _⟩
  have hf : t.fits es.toArray.size = true := T.fits e
  have hpl : ps.length = es.length := by rw [e, List.length_map]
  have hfi : ps.length + 1 ≤ t.mask := by rcases T.mq with q | q <;> omega
  unfold setAdd
  refine wpAny_holding (wpAny_bind (wpAny_pyHash_tuple hu hk ?_))
  show wpAny (model c.prog c.w) A (setAddHashed S (.ref a) (rowHash r)) _ _ _
  have hb : ∀ es : Array (Int × Value), byScan (.ref a) es = false := fun es => by simp [byScan, Value.scannable]
  unfold setAddHashed setAddHashedIn
  refine wpAny_holding (wpAny_bind (wpAny_setState_of ho rfl hf ?_))
  dsimp only
  rw [hb]
  simp only [Bool.false_eq_true, ↓reduceIte]
  refine wpAny_bind (search_tup (s := { s with toks := s.toks + (r.length + 1) }) hu hk hr ho rfl T e hes' (fun hY => ?_) (fun j hN f1 f2 f3 => ?_))
  · exact wpAny_pure ⟨_, H, g, o, es, rfl, .inl ⟨hY, rfl⟩⟩
  · dsimp only
    refine wpAny_bind (wpAny_setState_of ho rfl hf ?_)
    obtain ⟨p, p1, p2⟩ := put_spec (x := .ref a) T f1 f2 f3 hfi
    have hins := insertAt_eq e p j (rowHash r) (.ref a)
    have hfit2 := p2.fits (es := (insP ps p (j, rowHash r, .ref a)).map (·.2)) rfl
    dsimp only
    rw [p1]
    dsimp only
    rw [hins, if_pos hp]
    refine wpAny_bind (hbv_tup (s := { s with toks := s.toks + (r.length + 1) }) hk ?_)
    simp only [↓reduceIte]
    have hsz : (((insP ps p (j, rowHash r, .ref a)).map (·.2)).toArray).size ≤ sizeLine := by rw [List.size_toArray, List.length_map, insP_len]; have : sizeLine = 2 ^ 24 := rfl; omega
    refine wpAny_bind (wpAny_storeSet_of ho rfl ?_ hsz)
    have hg := Heap.get?_update_self (Obj.putSet ((insP ps p (j, rowHash r, .ref a)).map (·.2)).toArray { t with place := SetTable.insertAt t.place p j }) ho (by rw [putSet_of _ _ rfl]; rfl)
    rw [putSet_of _ _ rfl] at hg
    have hperm : List.Perm ((insP ps p (j, rowHash r, .ref a)).map (·.2)) ((rowHash r, .ref a) :: es) := by rw [e]; exact insP_snd _ _ _
    by_cases hfull : t.mask = 7 ∧ es.length = 4
    · have hnf : ({ t with place := SetTable.insertAt t.place p j } : SetTable).tooFull = true := set_five T.dm hfull.1 (by rw [p2.size, insP_len]; omega)
      rw [hnf]
      simp only [Bool.not_false, Bool.and_self, if_true]
      have hgr : SetTable.grown (es.toArray.size + 1) = 20 := by rw [List.size_toArray, hfull.2]; rfl
      rw [hgr]
      refine wpAny_bind (relay_spec hg rfl p2 rfl (by rw [List.length_map, insP_len]; omega) fun t' ps' q1 q2 q3 q4 q5 => ?_)
      refine wpAny_pure ?_
      have hg2 := Heap.get?_update_self (Obj.putSet (ps'.map (·.2)).toArray t') hg (by rw [putSet_of _ _ rfl]; rfl)
      rw [putSet_of _ _ rfl] at hg2
      have H1 : Own c.h₀ _ ((S, fun o' => o' = _) :: L) := H.upd (.head (P' := fun o' => o' = _)) (Heap.SameBut.update ..) hg rfl
      refine ⟨_, H1.upd (.head (P' := pSet c.w (ps'.map (·.2)))) (Heap.SameBut.update ..) hg2 ?_, g, o, _, rfl, .inr ⟨hN, q2.trans hperm⟩⟩
      have hl' : (ps'.map (·.2)).length = es.length + 1 := by rw [q2.length_eq, hperm.length_eq]; rfl
      exact ⟨_, _, _, rfl, q1, rfl, q5.trans hp, q4.trans hl, fun z => by omega, by omega⟩
    · have hnf : ({ t with place := SetTable.insertAt t.place p j } : SetTable).tooFull = false := not_full (n := ps.length + 1) T.dm (by rw [p2.size, insP_len]) T.mq (fun q => by have := h7 q; have q' : t.mask = 7 := q; omega) (by omega)
      rw [hnf]
      simp only [Bool.and_false, Bool.false_eq_true, if_false]
      refine wpAny_pure ?_
      refine ⟨_, H.upd (.head (P' := pSet c.w ((insP ps p (j, rowHash r, .ref a)).map (·.2)))) (Heap.SameBut.update ..) hg ?_, g, o, _, rfl, .inr ⟨hN, hperm⟩⟩
      exact ⟨ep + 1, _, _, rfl, p2, rfl, hp, hl, fun q => by have := h7 q; have q' : t.mask = 7 := q; rw [List.length_map, insP_len]; omega, by rw [List.length_map, insP_len]; omega⟩
end
end Mine
namespace Mine
theorem slot_set_iter : Slot "set" "__iter__" "set.__iter__" :=
  .of (owner := "set") (n := "__iter__") (by rw [typeLookup_type, builtinLookup_eq_fast]; kernel_rfl) (by decide +kernel) (by decide +kernel) (by decide +kernel)
    (by first | exact .inl (by decide +kernel) | exact .inr (by decide +kernel)) (by rw [isSubtype_type]; kernel_rfl)
theorem entry_set_iter : entryFor table "set.__iter__" = some Builtin.«frozenset.__iter__» :=
  entryFor_alias (id' := "frozenset.__iter__") (by kernel_rfl) rfl (by decide +kernel) (by kernel_rfl)
theorem args_set_iter (a : Value) : argsOk "set.__iter__" ⟨[a], []⟩ := by
  unfold argsOk; rw [signature?_of (id := "set.__iter__") (n := ['_', '_', 'r', 'e', 't', 'i', '_', '_']) (o := ['t', 'e', 's']) (by kernel_rfl) F.owner_set]; kernel_rfl
theorem owner_setiter : Manifest.owners.lookup (String.ofList ['r', 'o', 't', 'a', 'r', 'e', 't', 'i', '_', 't', 'e', 's'].reverse) = some Manifest.sig_set_iterator := by kernel_rfl
theorem slot_setiter_next : Slot "set_iterator" "__next__" "set_iterator.__next__" :=
  .of (owner := "set_iterator") (n := "__next__") (by rw [typeLookup_type, builtinLookup_eq_fast]; kernel_rfl) (by decide +kernel) (by decide +kernel) (by decide +kernel)
    (by first | exact .inl (by decide +kernel) | exact .inr (by decide +kernel)) (by rw [isSubtype_type]; kernel_rfl)
theorem entry_setiter_next : entryFor table "set_iterator.__next__" = some Builtin.«set_iterator.__next__» := entryFor_of_tree (by kernel_rfl)
theorem args_setiter_next (a : Value) : argsOk "set_iterator.__next__" ⟨[a], []⟩ := by
  unfold argsOk; rw [signature?_of (id := "set_iterator.__next__") (n := ['_', '_', 't', 'x', 'e', 'n', '_', '_']) (o := ['r', 'o', 't', 'a', 'r', 'e', 't', 'i', '_', 't', 'e', 's']) (by kernel_rfl) owner_setiter]; kernel_rfl
theorem setiter_no_len : typeLookup (.type "set_iterator") "__len__" = pure none := by rw [typeLookup_type, builtinLookup_eq_fast]; kernel_rfl
theorem setiter_hint : typeLookup (.type "set_iterator") "__length_hint__" = pure (some (.builtin "set_iterator.__length_hint__")) := by rw [typeLookup_type, builtinLookup_eq_fast]; kernel_rfl
theorem sub_setiter : isSubtype (.type "set_iterator") (.type "set_iterator") = pure true := by rw [isSubtype_type]; kernel_rfl
theorem cons_erase_perm {α : Type} : ∀ (l : List α) (i : Nat) (h : i < l.length), List.Perm (l[i] :: l.eraseIdx i) l
  | a :: l, 0, _ => .refl _
  | a :: l, i + 1, h => by
    have := cons_erase_perm l i (by simpa using h)
    exact (List.Perm.swap _ _ _).trans (.cons _ this)
theorem pick_perm {α : Type} (next : Nat → Nat) : ∀ (fuel k : Nat) (left : List α) (out : Array α), fuel = left.length → List.Perm (pickOrder.go next fuel k left out).toList (out.toList ++ left) := by
  intro fuel
  induction fuel with
  | zero => intro k left out h; cases left with | nil => rw [List.append_nil]; exact .refl _ | cons => exact absurd h (by simp)
  | succ n ih =>
    intro k left out h
    have hl : 0 < left.length := by omega
    have hlt : next k % left.length < left.length := Nat.mod_lt _ hl
    unfold pickOrder.go
    rw [List.getElem?_eq_getElem hlt]
    dsimp only
    refine (ih _ _ _ (by rw [List.length_eraseIdx_of_lt hlt]; omega)).trans ?_
    rw [Array.toList_push, List.append_assoc]
    refine List.Perm.append_left _ ?_
    exact cons_erase_perm left _ hlt
theorem pickOrder_perm {α : Type} (next : Nat → Nat) (xs : Array α) : List.Perm (pickOrder next xs).toList xs.toList := by
  unfold pickOrder
  exact (pick_perm next _ 0 _ _ (by simp)).trans (by simp)
def ordOf (w : World) (S : Addr) (ep : Nat) (es : List (Int × Value)) : List (Int × Value) := if byText w then (pickOrder (w.params.setOrder S ep) es.toArray).toList else es
theorem ordOf_perm (w : World) (S : Addr) (ep : Nat) (es : List (Int × Value)) : List.Perm (ordOf w S ep es) es := by
  unfold ordOf
  split
  · exact (pickOrder_perm _ _).trans (by simp)
  · exact .refl _
def pSIter (S : Addr) (st i n ep : Nat) (o : Obj) : Prop := o = { cls := .type "set_iterator", dict := none, data := .fields #[.int st 0, .int i 0, .ref S, .int n 0, .int ep 0], slots := #[] }
def pSetT (es : List (Int × Value)) (ep : Nat) (t : SetTable) (o : Obj) : Prop := o = { cls := .type "set", dict := none, data := .set es.toArray ep t, slots := #[] }
def Stands (w : World) (t : SetTable) (st i : Nat) : Prop := byText w = true ∨ SetTable.below t.place st = i
theorem bel_unique {xs : Array Nat} {j a b : Nat} (ha : Bel xs j a) (hb : Bel xs j b) : a = b := by
  obtain ⟨a1, a2, a3⟩ := ha
  obtain ⟨b1, b2, b3⟩ := hb
  rcases Nat.lt_trichotomy a b with z | z | z
  · have := b2 a z; have := a3 a (Nat.le_refl _) (by omega); omega
  · exact z
  · have := a2 b z; have := b3 b (Nat.le_refl _) (by omega); omega
theorem below_zero {t : SetTable} {ps : List (Nat × Int × Value)} (T : TB t ps) : SetTable.below t.place 0 = 0 := by
  have h : Rising t.place.toList := by rw [T.pl]; exact T.ri
  refine bel_unique (below_bel h 0) ⟨Nat.zero_le _, fun k hk => absurd hk (Nat.not_lt_zero _), fun k _ _ => Nat.zero_le _⟩
theorem below_next {t : SetTable} {ps : List (Nat × Int × Value)} (T : TB t ps) {i : Nat} (hi : i < t.place.size) : SetTable.below t.place (t.place[i] + 1) = i + 1 := by
  have h : Rising t.place.toList := by rw [T.pl]; exact T.ri
  have gd : ∀ k (hk : k < t.place.size), t.place.getD k 0 = t.place[k] := fun k hk => by simp [Array.getD, hk]
  refine bel_unique (below_bel h _) ⟨hi, fun k hk => ?_, fun k hk hk2 => ?_⟩
  · rcases Nat.lt_or_ge k i with q | q
    · have := rising_lt h q hi; rw [gd i hi] at this; omega
    · have : k = i := by omega
      subst this; rw [gd k hi]; omega
  · have := rising_lt h (a := i) (b := k) (by omega) hk2; rw [gd i hi] at this; omega
section
variable {prog : Program} {w : World} {A : Around} {E : Value → Shared → Prop} {s : Shared}
theorem w_byText {Q : Bool → Shared → Prop} (h : Q (byText w) s) : wpAny (model prog w) A setsByText Q E s := by
  unfold setsByText
  exact wpAny_bind (wpAny_askSetting (wpAny_pure h))
theorem iter_set {S : Addr} {es : List (Int × Value)} {ep : Nat} {t : SetTable} {ps : List (Nat × Int × Value)} {o : Obj} {Q : Value → Shared → Prop} (ho : s.heap.get? S = some o) (hp : pSetT es ep t o) (T : TB t ps) (e : es = ps.map (·.2)) (hpl : t.plain = true)
    (h : Q (.ref s.heap.objs.size) { s with heap := s.heap.push { cls := .type "set_iterator", dict := none, data := .fields #[.int 0 0, .int 0 0, .ref S, .int es.length 0, .int ep 0], slots := #[] } }) : wpAny (model prog w) A (pyIter (.ref S)) Q E s := by
  unfold pSetT at hp
  subst hp
  have hf : t.fits es.toArray.size = true := T.fits e
  have hT : s.TypeIs (.ref S) "set" := ⟨_, ho, rfl⟩
  refine wpAny_pyIter_slot hT slot_set_iter (wpAny_call_entry slot_set_iter hT entry_set_iter ?_ (args_set_iter _))
  unfold Builtin.«frozenset.__iter__» Builtin.Frozenset.slot0 slotArgs
  simp only [List.isEmpty_nil, Bool.not_true, Bool.false_eq_true, ↓reduceIte, bind_assoc, List.length_nil, bne_self_eq_false]
  unfold Builtin.Frozenset.addrOf Builtin.Frozenset.sizeOf
  refine wpAny_bind (wpAny_pure ?_)
  try dsimp only
  refine wpAny_bind (wpAny_pure ?_)
  refine wpAny_bind (wpAny_bind (wpAny_setEntries_of ho rfl hf (wpAny_pure ?_)))
  refine wpAny_bind ?_
  unfold setDrawn
  refine wpAny_bind (wpAny_setState_of ho rfl hf ?_)
  refine wpAny_bind (w_byText ?_)
  refine wpAny_pure ?_
  have hd : (!byText w && (!t.plain && decide (es.toArray.size > 1))) = false := by rw [hpl]; simp
  show wpAny _ _ (if (!byText w && (!t.plain && decide (es.toArray.size > 1))) = true then _ else _) _ _ _
  rw [hd]
  simp only [Bool.false_eq_true, if_false]
  refine wpAny_bind (wpAny_pure ?_)
  refine wpAny_bind (wpAny_setEpoch_of ho rfl hf ?_)
  refine wpAny_bind (wpAny_newObj_type (wpAny_pure ⟨_, rfl, "set_iterator", _, ⟨_, Heap.get?_push_size _ rfl, rfl⟩, slot_setiter_next.lookup, ?_⟩))
  simpa [rawInt] using h
end
end Mine
namespace Mine
section
variable {prog : Program} {w : World} {A : Around} {E : Value → Shared → Prop} {s : Shared}
theorem setNext_spec {S : Addr} {es : List (Int × Value)} {ep st i : Nat} {t : SetTable} {ps : List (Nat × Int × Value)} {o : Obj} {Q : Option (Value × Nat) → Shared → Prop} (ho : s.heap.get? S = some o) (hp : pSetT es ep t o) (T : TB t ps) (e : es = ps.map (·.2)) (hpl : t.plain = true) (hl : t.led = !byText w) (hst : Stands w t st i)
    (h : ∀ st', ((ordOf w S ep es)[i]?.isSome → Stands w t st' (i + 1)) → Q ((ordOf w S ep es)[i]?.map fun e => (e.2, st')) s) : wpAny (model prog w) A (setNext S st i ep) Q E s := by
  unfold pSetT at hp
  subst hp
  have hf : t.fits es.toArray.size = true := T.fits e
  unfold setNext
  refine wpAny_bind (wpAny_setState_of ho rfl hf ?_)
  refine wpAny_bind (w_byText ?_)
  by_cases hb : byText w = true
  · rw [if_pos hb, if_neg (by simp)]
    refine wpAny_bind ?_
    unfold setWalk
    refine wpAny_bind (wpAny_setState_of ho rfl hf ?_)
    refine wpAny_bind (w_byText ?_)
    rw [if_pos hb]
    refine wpAny_bind (wpAny_askSetting ?_)
    refine wpAny_pure (wpAny_pure ?_)
    have hh := h st fun _ => .inl hb
    unfold ordOf at hh
    rw [if_pos hb] at hh
    rw [Array.getElem?_toList] at hh
    exact hh
  · have hb' : byText w = false := by simpa using hb
    have hled : t.led = true := by rw [hl, hb']; rfl
    rcases hst with q | q
    · exact absurd q hb
    rw [if_neg hb]
    show wpAny _ _ (if (!t.plain && decide (es.toArray.size > 1)) = true then _ else _) _ _ _
    rw [hpl]
    simp only [Bool.not_true, Bool.false_and, Bool.false_eq_true, if_false]
    refine wpAny_bind ?_
    show wpAny _ _ (if (!t.led && !es.toArray.isEmpty) = true then unsupported _ else pure ()) _ _ _
    rw [hled]
    simp only [Bool.not_true, Bool.false_and, Bool.false_eq_true, if_false]
    refine wpAny_pure (wpAny_pure ?_)
    have ho' : ordOf w S ep es = es := by unfold ordOf; rw [if_neg hb]
    rw [ho'] at h
    rw [q]
    have hsz : t.place.size = es.length := by rw [T.size, e, List.length_map]
    rcases Nat.lt_or_ge i es.length with z | z
    · have h1 : es.toArray[i]? = some es[i] := by simp [z]
      have h2 : t.place[i]? = some (t.place[i]'(by omega)) := by simp [hsz, z]
      have h3 : es[i]? = some es[i] := by simp [z]
      rw [h1, h2]
      have hh := h (t.place[i]'(by omega) + 1) fun _ => .inr (below_next T (by omega))
      rw [h3] at hh
      exact hh
    · have h1 : es.toArray[i]? = none := by simp [z]
      have h3 : es[i]? = none := by simp [z]
      rw [h1]
      have hh := h 0 fun x => by rw [h3] at x; exact nomatch x
      rw [h3] at hh
      exact hh
theorem next_set {S it : Addr} {es : List (Int × Value)} {ep st i : Nat} {t : SetTable} {ps : List (Nat × Int × Value)} {o oi : Obj} {x : Int × Value} {Q : Option Value → Shared → Prop} (ho : s.heap.get? S = some o) (hp : pSetT es ep t o) (T : TB t ps) (e : es = ps.map (·.2)) (hpl : t.plain = true) (hl : t.led = !byText w) (hst : Stands w t st i)
    (hi : s.heap.get? it = some oi) (hpi : pSIter S st i es.length ep oi) (hv : (ordOf w S ep es)[i]? = some x)
    (h : ∀ st' h', Stands w t st' (i + 1) → Heap.SameBut it s.heap h' → h'.get? it = some { cls := .type "set_iterator", dict := none, data := .fields #[.int st' 0, .int (i + 1 : Nat) 0, .ref S, .int es.length 0, .int ep 0], slots := #[] } → Q (some x.2) { s with heap := h' }) : wpAny (model prog w) A (pyNext (.ref it)) Q E s := by
  unfold pSIter at hpi
  subst hpi
  have hf : t.fits es.toArray.size = true := T.fits e
  have hT : s.TypeIs (.ref it) "set_iterator" := ⟨_, hi, rfl⟩
  have hp' := hp
  unfold pSetT at hp'
  unfold pyNext
  refine wpAny_bind (wpAny_attempt (wpAny_callSpecial?_slot (name := Str.ofString "__next__") hT slot_setiter_next (wpAny_call_entry slot_setiter_next hT entry_setiter_next ?_ (args_setiter_next _))))
  refine wpAny_bind (wpAny_pure ?_)
  refine wpAny_bind (wpAny_fieldsOf hi rfl ?_)
  show wpAny _ _ (setEntries S >>= _) _ _ _
  refine wpAny_bind (wpAny_setEntries_of ho (by rw [hp']) hf ?_)
  rw [if_neg (by simp)]
  show wpAny _ _ (setNext S st i ep >>= _) _ _ _
  refine wpAny_bind (setNext_spec ho hp T e hpl hl hst fun st' hs => ?_)
  rw [hv] at hs ⊢
  show wpAny _ _ (setField (.ref it) 0 (rawInt st') >>= fun _ => setField (.ref it) 1 (rawInt (i + 1)) >>= fun _ => ret x.2) _ _ _
  refine wpAny_bind (wpAny_setField hi rfl (by simp) ?_)
  have g1 := Heap.get?_update_self (Obj.mapFields (·.setIfInBounds 0 (rawInt (st' : Nat)))) hi rfl
  refine wpAny_bind (wpAny_setField g1 rfl (by simp) ?_)
  have g2 := Heap.get?_update_self (Obj.mapFields (·.setIfInBounds 1 (rawInt ((i : Int) + 1)))) g1 rfl
  exact wpAny_pure ⟨_, rfl, wpAny_pure (h st' _ (hs rfl) ((Heap.SameBut.update ..).trans (Heap.SameBut.update ..)) g2)⟩
theorem next_set_end {S it : Addr} {es : List (Int × Value)} {ep st i : Nat} {t : SetTable} {ps : List (Nat × Int × Value)} {o oi : Obj} {Q : Option Value → Shared → Prop} (hh : A.handled = none) (ho : s.heap.get? S = some o) (hp : pSetT es ep t o) (T : TB t ps) (e : es = ps.map (·.2)) (hpl : t.plain = true) (hl : t.led = !byText w) (hst : Stands w t st i)
    (hi : s.heap.get? it = some oi) (hpi : pSIter S st i es.length ep oi) (hv : (ordOf w S ep es)[i]? = none)
    (h : ∀ h', Heap.ExtBut it s.heap h' → Q none { s with heap := h' }) : wpAny (model prog w) A (pyNext (.ref it)) Q E s := by
  unfold pSIter at hpi
  subst hpi
  have hf : t.fits es.toArray.size = true := T.fits e
  have hT : s.TypeIs (.ref it) "set_iterator" := ⟨_, hi, rfl⟩
  have hp' := hp
  unfold pSetT at hp'
  unfold pyNext
  refine wpAny_bind (wpAny_attempt (wpAny_callSpecial?_slot (name := Str.ofString "__next__") hT slot_setiter_next (wpAny_call_entry slot_setiter_next hT entry_setiter_next ?_ (args_setiter_next _))))
  refine wpAny_bind (wpAny_pure ?_)
  refine wpAny_bind (wpAny_fieldsOf hi rfl ?_)
  show wpAny _ _ (setEntries S >>= _) _ _ _
  refine wpAny_bind (wpAny_setEntries_of ho (by rw [hp']) hf ?_)
  rw [if_neg (by simp)]
  show wpAny _ _ (setNext S st i ep >>= _) _ _ _
  refine wpAny_bind (setNext_spec ho hp T e hpl hl hst fun st' hs => ?_)
  rw [hv]
  show wpAny _ _ (setField (.ref it) 2 .none >>= fun _ => newExc (.type "StopIteration") [] >>= fun x => raiseNew x) _ _ _
  refine wpAny_bind (wpAny_setField hi rfl (by simp) ?_)
  refine wpAny_bind (m := newExc (.type "StopIteration") []) ?_
  simp only [newExc, newTuple]
  refine wpAny_bind (wpAny_newObj_type ?_ (by size_fits))
  refine wpAny_bind (m := firstArgMember _ _) (wpAny_of_eq (a := Value.none) (by first | rfl | (simp only [firstArgMember]; rfl)) ?_)
  refine wpAny_newObj_type ?_ (by size_fits)
  simp only [raiseNew]
  refine wpAny_bind (wpAny_handled ?_)
  rw [show A.in1.handled = none from hh]
  refine wpAny_bind (wpAny_pure (wpAny_throw ?_))
  refine wpAny_bind (wpAny_isInstance (T := "StopIteration") (b := true) ⟨_, Heap.get?_push_size _ rfl, rfl⟩ isSubtype_stop ?_)
  exact wpAny_pure (h _ (((Heap.SameBut.update ..).extBut.push _).push _))
end
end Mine
namespace Mine
section
variable {prog : Program} {w : World} {A : Around} {E : Value → Shared → Prop}
theorem collect_loop {S it l : Addr} {es : List (Int × Value)} {ep : Nat} {t : SetTable} {ps : List (Nat × Int × Value)} {o : Obj} {h₀ : Heap} {res : Value} {g : Array GenState} {os : OsState} {Rr : Result → Shared → Prop} (hh : A.handled = none) (ho : h₀.get? S = some o) (hp : pSetT es ep t o) (T : TB t ps) (e : es = ps.map (·.2)) (hpl : t.plain = true) (hl : t.led = !byText w) (hz : es.length ≤ 1000)
    (hR : ∀ s', Own h₀ s'.heap [(l, pList ((ordOf w S ep es).map (·.2)))] → s'.gens = g → s'.os = os → Rr (.ok (.ret res)) s') :
    ∀ (k i st : Nat) (s : Shared), es.length - i = k → i ≤ es.length → Stands w t st i → Own h₀ s.heap [(l, pList (((ordOf w S ep es).map (·.2)).take i)), (it, pSIter S st i es.length ep)] → s.gens = g → s.os = os →
      codeAny (model prog w) A (.builtin "list.extend.loop" ⟨[.ref l, .ref it, res], []⟩) Rr s := by
  have hlen : (ordOf w S ep es).length = es.length := (ordOf_perm w S ep es).length_eq
  have hsz := sz24
  intro k
  induction k with
  | zero =>
    intro i st s hk hi hst H hg hos
    have hin : i = es.length := by omega
    subst hin
    obtain ⟨oi, ei, pi⟩ := H.at (.tail _ (.head _))
    refine codeAny_builtin F.entry_extend_loop ?_
    rw [Around.under_plainId F.plain_extend_loop _]
    show wpAny _ A.in1 (pyNext (.ref it) >>= _) _ _ s
    refine wpAny_bind (next_set_end (show A.in1.handled = none from hh) (H.keep _ _ ho) hp T e hpl hl hst ei pi (by rw [List.getElem?_eq_none (by omega)]) fun h' hx => ?_)
    refine wpAny_pure (hR _ ?_ hg hos)
    have H1 := (H.perm (.swap _ _ _)).extBut hx
    rw [List.take_of_length_le (by rw [List.length_map, hlen]; omega)] at H1
    exact H1
  | succ k ih =>
    intro i st s hk hi hst H hg hos
    have hlt : i < (ordOf w S ep es).length := by omega
    obtain ⟨oi, ei, pi⟩ := H.at (.tail _ (.head _))
    refine codeAny_builtin F.entry_extend_loop ?_
    rw [Around.under_plainId F.plain_extend_loop _]
    show wpAny _ A.in1 (pyNext (.ref it) >>= _) _ _ s
    refine wpAny_bind (next_set (H.keep _ _ ho) hp T e hpl hl hst ei pi (x := (ordOf w S ep es)[i]) (List.getElem?_eq_getElem hlt) fun st' h' hst' hs hg' => ?_)
    have H1 : Own h₀ h' [(l, pList (((ordOf w S ep es).map (·.2)).take i)), (it, pSIter S st' (i + 1) es.length ep)] := H.upd (.tail .head) hs hg' rfl
    obtain ⟨ol, el, nn, rfl⟩ := H1.at (.head _)
    have hs2 := Heap.get?_update_self (Obj.mapSeq (·.push (ordOf w S ep es)[i].2)) el rfl
    have e1 : ((ordOf w S ep es).map (·.2)).take (i + 1) = ((ordOf w S ep es).map (·.2)).take i ++ [(ordOf w S ep es)[i].2] := by
      rw [List.take_add_one, List.getElem?_map, List.getElem?_eq_getElem hlt]; rfl
    have H2 : Own h₀ (h'.update l (Obj.mapSeq (·.push (ordOf w S ep es)[i].2))) [(l, pList (((ordOf w S ep es).map (·.2)).take (i + 1))), (it, pSIter S st' (i + 1) es.length ep)] := H1.upd .head (Heap.SameBut.update ..) hs2 ⟨_, by rw [e1]; simp [Obj.mapSeq]; rfl⟩
    show wpAny _ A.in1 (updateSeq l (·.push (ordOf w S ep es)[i].2) >>= _) _ _ _
    refine wpAny_bind ?_
    have hl1 : (((ordOf w S ep es).map (·.2)).take i).length ≤ 1000 := by rw [List.length_take, List.length_map]; omega
    exact wpAny_updateSeq el rfl (wpAny_pure ⟨plainId_quiet F.plain_extend_loop _, ih (i + 1) st' _ (by omega) (by omega) hst' H2 hg hos⟩) (by rw [List.size_toArray]; omega) (by rw [Array.size_push, List.size_toArray]; omega)
theorem wpAny_collect_set {s : Shared} {S : Addr} {es : List (Int × Value)} {o : Obj} {Q : List Value → Shared → Prop} (hh : A.handled = none) (hlim : s.heap.NoLimit) (ho : s.heap.get? S = some o) (hp : pSet w es o)
    (h : ∀ h' items, (∀ b o', s.heap.get? b = some o' → h'.get? b = some o') → List.Perm items (es.map (·.2)) → ∀ s' : Shared, s'.heap = h' → s'.gens = s.gens → s'.os = s.os → Q items s') :
    wpAny (model prog w) A (collect (.ref S)) Q E s := by
  obtain ⟨ep, t, ps, rfl, T, e, hpl, hled, h7, h17⟩ := hp
  have hnew : s.heap.get? s.heap.objs.size = none := (Own.start hlim).none
  have hSlt := Heap.lt_size ho
  unfold collect
  refine wpAny_bind (wpAny_runValue (codeAny_builtin F.entry_proto_collect ?_))
  rw [Around.under_plainId F.plain_proto_collect _]
  show wpAny _ A.in1 (newList [] >>= fun l => again (.builtin "list.__iadd__" ⟨[l, .ref S], []⟩)) _ _ s
  refine wpAny_bind (wpAny_newObj_type ?_)
  have H1 : Own s.heap (s.heap.push { cls := .type "list", data := .seq ([] : List Value).toArray }) [(s.heap.objs.size, pList [])] := (Own.start hlim).push (P := pList []) ⟨_, rfl⟩ rfl
  refine wpAny_pure ⟨plainId_quiet F.plain_list_iadd _, codeAny_builtin F.entry_list_iadd ?_⟩
  rw [Around.under_plainId F.plain_list_iadd _]
  show wpAny _ A.in1 (Builtin.List.listExtendWith (.ref s.heap.objs.size) (.ref S) (.ref s.heap.objs.size)) _ _ _
  have hS : (s.heap.push { cls := .type "list", data := .seq ([] : List Value).toArray }).get? s.heap.objs.size = some { cls := .type "list", data := .seq #[] 0 } := Heap.get?_push_size _ rfl
  have hne : s.heap.objs.size ≠ S := Nat.ne_of_gt hSlt
  generalize s.heap.objs.size = l at *
  unfold Builtin.List.listExtendWith
  have hSo := H1.keep _ _ ho
  refine wpAny_bind (wpAny_typeOf (T := "set") ⟨_, hSo, rfl⟩ ?_)
  have h1 : Builtin.List.listSameRef (.ref l) (.ref S) = false := by simp [Builtin.List.listSameRef, hne]
  have h2 : (Value.type "set" == Value.type "list") = false := by decide
  have h3 : (Value.type "set" == Value.type "tuple") = false := by decide
  simp only [h1, h2, h3, Bool.or_false, Bool.false_eq_true, if_false]
  refine wpAny_bind (iter_set hSo rfl T e hpl ?_)
  have H2 := (H1.push (P := pSIter S 0 0 es.length ep) (o := { cls := .type "set_iterator", dict := none, data := .fields #[.int 0 0, .int 0 0, .ref S, .int es.length 0, .int ep 0], slots := #[] }) rfl rfl).perm (.swap _ _ _)
  obtain ⟨oi, ei, pi⟩ := H2.at (.tail _ (.head _))
  obtain ⟨ol, el, pl⟩ := H2.at (.head _)
  unfold pSIter at pi
  subst pi
  refine wpAny_bind (wpAny_holding ?_)
  have hSo2 := H2.keep _ _ ho
  have hT2 : ∀ {s' : Shared}, s'.heap = _ → s'.TypeIs (.ref S) "set" := fun {s'} hs' => ⟨_, by rw [hs']; exact hSo2, rfl⟩
  unfold Builtin.List.listLengthHint
  refine wpAny_bind (wpAny_specialOf (T := "set") ⟨_, hSo2, rfl⟩ F.slot_set_len.lookup ?_)
  have hsp : splitId "set.__len__" = some ("set", "__len__") := by decide +kernel
  dsimp only
  rw [hsp]
  dsimp only
  refine wpAny_bind (wpAny_isInstance (T := "set") (b := true) ⟨_, hSo2, rfl⟩ sub_set_self ?_)
  simp only [Bool.not_true, Bool.false_eq_true, if_false]
  rw [if_pos (by decide +kernel)]
  refine wpAny_bind (wpAny_typeOf (T := "set") ⟨_, hSo2, rfl⟩ ?_)
  refine wpAny_pure ?_
  show wpAny _ A.in1 (rule "list.extend.makes-room" >>= fun _ => Builtin.List.listTouch (.ref l) >>= fun _ => again (.builtin "list.extend.loop" ⟨[.ref l, .ref (s.heap.push { cls := .type "list", data := .seq ([] : List Value).toArray }).objs.size, .ref l], []⟩)) _ _ _
  refine wpAny_bind (wpAny_rule ?_)
  refine wpAny_bind ?_
  show wpAny _ A.in1 (updateSeq l (·.push .none) >>= fun _ => updateSeq l (·.pop)) _ _ _
  obtain ⟨nn, rfl⟩ := pl
  refine wpAny_bind (wpAny_updateSeq el rfl ?_)
  have hS₃ := Heap.get?_update_self (Obj.mapSeq (·.push Value.none)) el rfl
  have H3 := H2.upd (.head (P' := pList [.none])) (Heap.SameBut.update ..) hS₃ ⟨_, rfl⟩
  refine wpAny_updateSeq (hz := by seq_fits) hS₃ rfl ?_
  have hS₄ := Heap.get?_update_self (Obj.mapSeq (·.pop)) hS₃ rfl
  have H4 := H3.upd (.head (P' := pList [])) (Heap.SameBut.update ..) hS₄ ⟨_, rfl⟩
  generalize (s.heap.push { cls := .type "list", data := .seq ([] : List Value).toArray }).objs.size = it at *
  refine wpAny_pure ⟨plainId_quiet F.plain_extend_loop _, collect_loop (h₀ := s.heap) (g := s.gens) (os := s.os) hh ho rfl T e hpl hled (by omega) (fun s' H' hg' ho' => ?_) es.length 0 0 _ (Nat.sub_zero _) (Nat.zero_le _) (.inr (below_zero T)) (by rw [List.take_zero]; exact H4) rfl rfl⟩
  obtain ⟨of, ef, nf, rfl⟩ := H'.at (.head _)
  have hQ := h s'.heap ((ordOf w S ep es).map (·.2)) H'.keep ((ordOf_perm w S ep es).map _) s' rfl hg' ho'
  show wpAny _ A (load l >>= _) _ _ _
  exact wpAny_bind (wpAny_load ef (wpAny_pure hQ))
end
end Mine
namespace Mine
section
variable {c : Cx} {L : List Cell} {n : Nat}
theorem tr_sorted_set {S : Addr} {es : List (Int × Value)} {Q : Value → List Cell → Prop} (R : Rm 3 c.A) (hS : (S, pSet c.w es) ∈ L)
    (hs : ∀ D items, items.Perm (es.map (·.2)) → Tr (c.wA c.A.in1) (call (.builtin "list.sort") [.ref D] []) ((D, pList items) :: L) fun v L' => Q (.ref D) L') : Tr c (call (.builtin "sorted") [.ref S] []) L Q := fun s H g o => by
  obtain ⟨ob, ho, hp⟩ := H.at hS
  refine Calls.call_function_entry kind_sorted plain_sorted entry_sorted (args_sorted1 _) ?_
  unfold Builtin.«sorted»
  refine wpAny_bind (m := checkCount "sorted" 1 1 _) (wpAny_pure ?_)
  refine wpAny_bind (wpAny_collect_set (show c.A.in1.handled = none from R.hd) H.limit ho hp fun h' items hk pm s' e1 e2 e3 => ?_)
  subst e1
  have H1 : Own c.h₀ s'.heap L := H.ext hk
  have hz : items.length ≤ sizeLine := by
    obtain ⟨ep, t, ps, rfl, T, e, hpl, hled, h7, h17⟩ := hp
    rw [pm.length_eq, List.length_map]; have := sz24; omega
  refine wpAny_bind (wpAny_newList ?_ hz)
  have H2 := H1.push (P := pList items) (o := seqObj "list" items.toArray 0) ⟨_, rfl⟩ rfl
  refine wpAny_bind (wpAny_holding ((hs _ items pm).use (s := { s' with heap := s'.heap.push (seqObj "list" items.toArray 0) }) H2 (by show c.G s'.gens; rw [e2]; exact g) (by show s'.os = c.O; rw [e3]; exact o) fun v s2 L2 H3 g3 o3 q => ?_))
  exact wpAny_pure ⟨_, rfl, L2, H3, g3, o3, q⟩
theorem tr_sorted_list {l : Addr} {P : Obj → Prop} {vs : List Value} {Q : Value → List Cell → Prop} (hl : (l, P) ∈ L) (hP : ∀ o, P o → ∃ k, o = seqObj "list" vs.toArray k) (hz : vs.length ≤ sizeLine)
    (hs : ∀ D, Tr (c.wA c.A.in1) (call (.builtin "list.sort") [.ref D] []) ((D, pList vs) :: L) fun v L' => Q (.ref D) L') : Tr c (call (.builtin "sorted") [.ref l] []) L Q := fun s H g o => by
  obtain ⟨ob, ho, hp⟩ := H.at hl
  obtain ⟨k, rfl⟩ := hP ob hp
  refine Calls.call_function_entry kind_sorted plain_sorted entry_sorted (args_sorted1 _) ?_
  unfold Builtin.«sorted»
  refine wpAny_bind (m := checkCount "sorted" 1 1 _) (wpAny_pure ?_)
  refine wpAny_bind (wpAny_collect_seq l (.inl rfl) ho rfl rfl (fun h' hk => ?_) (by rw [List.size_toArray]; exact hz))
  have H1 : Own c.h₀ h' L := H.ext hk
  refine wpAny_bind (wpAny_newList ?_ hz)
  have H2 := H1.push (P := pList vs) (o := seqObj "list" vs.toArray 0) ⟨_, rfl⟩ rfl
  refine wpAny_bind (wpAny_holding ((hs _).use (s := { s with heap := h'.push (seqObj "list" vs.toArray 0) }) H2 g o fun v s2 L2 H3 g3 o3 q => ?_))
  exact wpAny_pure ⟨_, rfl, L2, H3, g3, o3, q⟩
theorem ints_perm : ∀ {xs ys : List Value}, xs.Perm ys → ∀ {ns : List Int}, IntsAre ys ns → ∃ ms, IntsAre xs ms ∧ ms.Perm ns := by
  intro xs ys p
  induction p with
  | nil => intro ns h; exact ⟨ns, h, .refl _⟩
  | cons x p ih =>
    intro ns h
    cases h with
    | cons i t h =>
      obtain ⟨ms, a, b⟩ := ih h
      exact ⟨_, .cons i t a, .cons _ b⟩
  | swap x y l =>
    intro ns h
    cases h with
    | cons i t h =>
      cases h with
      | cons j u h => exact ⟨_, .cons j u (.cons i t h), .swap _ _ _⟩
  | trans p q ih1 ih2 =>
    intro ns h
    obtain ⟨ms, a, b⟩ := ih2 h
    obtain ⟨ks, a2, b2⟩ := ih1 a
    exact ⟨ks, a2, b2.trans b⟩
theorem tr_sortI {a : Addr} {vs : List Value} {ns : List Int} {Q : Value → List Cell → Prop} (hI : IntsAre vs ns) (h64 : vs.length < 64) (h : ∀ ns', ns'.Perm ns → ns'.Pairwise (· ≤ ·) → Q .none ((a, pInts ns') :: L)) : Tr c (call (.builtin "list.sort") [.ref a] []) ((a, pList vs) :: L) Q := fun s H g o => by
  obtain ⟨ob, e, k, rfl⟩ := H.at (.head _)
  refine wpAny_call_entry PyProof.Rows.slot_list_sort ⟨_, e, rfl⟩ PyProof.Rows.entry_list_sort ?_ (PyProof.Rows.args_list_sort _)
  refine list_sort_tree e hI h64 fun out ns' i1 i2 i3 => ⟨_, rfl, _, ?_, g, o, h ns' i2 i3⟩
  unfold sortedHeap
  have s1 := Heap.SameBut.update s.heap a (Obj.mapSeq fun _ => (#[] : Array Value))
  obtain ⟨e1, ho1⟩ : ∃ e1, (s.heap.update a (Obj.mapSeq fun _ => (#[] : Array Value))).get? a = some (seqObj "list" #[] e1) := ⟨_, get?_update_seq e fun _ => #[]⟩
  have H1 : Own c.h₀ _ ((a, pList []) :: L) := H.upd .head s1 ho1 ⟨_, rfl⟩
  have H2 : Own c.h₀ _ ((a, pList []) :: L) := (H1.push (P := fun _ => True) (o := seqObj "tuple" vs.toArray 0) trivial rfl).sub (List.sublist_cons_self ..)
  have H3 : Own c.h₀ _ ((a, pList []) :: L) := (H2.push (P := fun _ => True) (o := seqObj "list" #[] 0) trivial rfl).sub (List.sublist_cons_self ..)
  obtain ⟨o3, g3, k3, rfl⟩ := H3.at (.head _)
  have s4 := Heap.SameBut.update ((((s.heap.update a (Obj.mapSeq fun _ => (#[] : Array Value))).push (seqObj "tuple" vs.toArray 0)).push (seqObj "list" #[] 0))) a (Obj.mapSeq fun _ => out)
  have g4 := get?_update_seq g3 fun _ => out
  exact H3.upd .head s4 g4 ⟨out.toList, i1, _, rfl⟩
end
end Mine
namespace Mine
def code (r : List Int) : Int := r.foldl (fun a x => 5 * a + x) 0
abbrev Row := Addr × List Int
def Sm (m : Nat) (r : List Int) : Prop := r.length = m ∧ ∀ a ∈ r, 0 ≤ a ∧ a ≤ 4
def RowsIn (L : List Cell) (m : Nat) (RS : List Row) : Prop := ∀ x ∈ RS, (x.1, pTI x.2) ∈ L ∧ Sm m x.2
def rowVals (RS : List Row) : List Value := RS.map fun x => .ref x.1
def dRow : Row := (0, [])
def ltR (RS : List Row) (i j : Nat) : Bool := decide (code (RS.getD i dRow).2 < code (RS.getD j dRow).2)
theorem ints_kind : ∀ {r : List Value} {ns : List Int}, IntsAre r ns → ∀ v ∈ r, kindV v = 0
  | _, _, .nil, _, h => (nomatch h)
  | _, _, .cons i t r, v, h => by
    rcases List.mem_cons.mp h with rfl | h
    · rfl
    · exact ints_kind r v h
theorem rowLt_code {m : Nat} (hm : m = 2 ∨ m = 3) {r1 r2 : List Value} {n1 n2 : List Int} (h1 : IntsAre r1 n1) (h2 : IntsAre r2 n2) (s1 : Sm m n1) (s2 : Sm m n2) : rowLt r1 r2 = decide (code n1 < code n2) := by
  obtain ⟨l1, b1⟩ := s1
  obtain ⟨l2, b2⟩ := s2
  rcases hm with rfl | rfl
  · cases h1 with
    | nil => simp at l1
    | cons a t h1 => cases h1 with
      | nil => simp at l1
      | cons a2 t2 h1 => cases h1 with
        | cons _ _ _ => simp at l1
        | nil =>
          cases h2 with
          | nil => simp at l2
          | cons b u h2 => cases h2 with
            | nil => simp at l2
            | cons b2' u2 h2 => cases h2 with
              | cons _ _ _ => simp at l2
              | nil =>
                have := b1 a (by simp)
                have := b1 a2 (by simp)
                have := b2 b (by simp)
                have := b2 b2' (by simp)
                simp only [rowLt, lexB, List.zip_cons_cons, List.zip_nil_left, vEq, vLt, code, List.foldl_cons, List.foldl_nil, List.length_cons, List.length_nil, beq_iff_eq]
                by_cases e1 : a = b
                · rw [if_pos e1]
                  by_cases e2 : a2 = b2'
                  · rw [if_pos e2]; exact decide_eq_decide.mpr (by omega)
                  · rw [if_neg e2]; exact decide_eq_decide.mpr (by omega)
                · rw [if_neg e1]; exact decide_eq_decide.mpr (by omega)
  · cases h1 with
    | nil => simp at l1
    | cons a t h1 => cases h1 with
      | nil => simp at l1
      | cons a2 t2 h1 => cases h1 with
        | nil => simp at l1
        | cons a3 t3 h1 => cases h1 with
          | cons _ _ _ => simp at l1
          | nil =>
            cases h2 with
            | nil => simp at l2
            | cons b u h2 => cases h2 with
              | nil => simp at l2
              | cons b2' u2 h2 => cases h2 with
                | nil => simp at l2
                | cons b3 u3 h2 => cases h2 with
                  | cons _ _ _ => simp at l2
                  | nil =>
                    have := b1 a (by simp)
                    have := b1 a2 (by simp)
                    have := b1 a3 (by simp)
                    have := b2 b (by simp)
                    have := b2 b2' (by simp)
                    have := b2 b3 (by simp)
                    simp only [rowLt, lexB, List.zip_cons_cons, List.zip_nil_left, vEq, vLt, code, List.foldl_cons, List.foldl_nil, List.length_cons, List.length_nil, beq_iff_eq]
                    by_cases e1 : a = b
                    · rw [if_pos e1]
                      by_cases e2 : a2 = b2'
                      · rw [if_pos e2]
                        by_cases e3 : a3 = b3
                        · rw [if_pos e3]; exact decide_eq_decide.mpr (by omega)
                        · rw [if_neg e3]; exact decide_eq_decide.mpr (by omega)
                      · rw [if_neg e2]; exact decide_eq_decide.mpr (by omega)
                    · rw [if_neg e1]; exact decide_eq_decide.mpr (by omega)
section
variable {c : Cx} {L : List Cell}
theorem rowsKat {h : Heap} {m : Nat} (hm : 0 < m) (H : Own c.h₀ h L) : ∀ {RS : List Row}, RowsIn L m RS → ∃ fs, KatTups h (rowVals RS) fs ∧ fs.length = (rowVals RS).length ∧ ∀ v ∈ fs, ∃ i t, v = .int i t
  | [], _ => ⟨[], trivial, rfl, fun v h => nomatch h⟩
  | (T, ns) :: RS, hk => by
    obtain ⟨fs, a, b, d⟩ := rowsKat hm H (RS := RS) fun r' m' => hk r' (.tail _ m')
    obtain ⟨hm1, hs⟩ := hk _ (.head _)
    obtain ⟨o, e, vs, hi, k, rfl⟩ := H.at hm1
    cases hi with
    | nil => exact absurd hs.1 (by simp; omega)
    | cons i u hi =>
      exact ⟨.int i u :: fs, KatTups.cons e rfl rfl (by simp) a, by simp [b, rowVals], fun v hv => by
        rcases List.mem_cons.mp hv with rfl | hv
        · exact ⟨_, _, rfl⟩
        · exact d v hv⟩
theorem cmpRows {A : Around} {m : Nat} {RS : List Row} (hm : m = 2 ∨ m = 3) (hT : RowsIn L m RS) (h2 : 2 ≤ RS.length) : Cmp c A L (rowVals RS) (tuples' true) (ltR RS) := by
  refine ⟨fun s H Q E h => ?_, fun s H i j hi hj Q h => ?_⟩
  · obtain ⟨fs, a, b, d⟩ := rowsKat (by omega) H hT
    refine kat_kind (T := .type "int") a (by rw [b]; simp [rowVals]; omega) (fun v hv => ?_) (by decide) h
    obtain ⟨i, t, rfl⟩ := d v hv
    exact Looks.of_pure rfl
  · have hi : i < RS.length := by simpa [rowVals] using hi
    have hj : j < RS.length := by simpa [rowVals] using hj
    have gi : RS.getD i dRow = RS[i] := by simp [hi]
    have gj : RS.getD j dRow = RS[j] := by simp [hj]
    obtain ⟨m1, s1⟩ := hT _ (List.getElem_mem hi)
    obtain ⟨m2, s2⟩ := hT _ (List.getElem_mem hj)
    have e1 : (rowVals RS).getD i Value.none = .ref RS[i].1 := by simp [rowVals, hi]
    have e2 : (rowVals RS).getD j Value.none = .ref RS[j].1 := by simp [rowVals, hj]
    unfold ltR at h
    rw [gi, gj] at h
    rw [e1, e2]
    obtain ⟨o1, g1, r1, i1, k1, rfl⟩ := H.at m1
    obtain ⟨o2, g2, r2, i2, k2, rfl⟩ := H.at m2
    rw [← rowLt_code hm i1 i2 s1 s2] at h
    refine kat_lt g1 rfl g2 rfl ?_
    unfold rowLt at h
    rw [show r1.toArray.toList = r1 from rfl, show r2.toArray.toList = r2 from rfl, List.size_toArray, List.size_toArray]
    have hz : ∀ x ∈ r1.zip r2, kindV x.1 = 0 ∧ kindV x.2 = 0 := fun x hx => ⟨ints_kind i1 _ (List.of_mem_zip hx).1, ints_kind i2 _ (List.of_mem_zip hx).2⟩
    refine lexGo _ 0 (fun x hx => ?_) (fun _ x hx => ?_) h
    · have := hz x (by simpa using hx)
      rw [this.1, this.2]; exact ⟨rfl, by decide⟩
    · exact (hz x (by have := List.mem_of_mem_head? hx; simpa using this)).1
end
theorem srt_rows {RS : List Row} (hd : (RS.map fun x => code x.2).Nodup) : ∃ RS', List.Perm RS' RS ∧ srt (ltR RS) (rowVals RS) = rowVals RS' ∧ RS'.Pairwise fun x y => code x.2 < code y.2 := by
  by_cases h2 : RS.length < 2
  · refine ⟨RS, .refl _, ?_, ?_⟩
    · unfold srt; rw [if_pos (by simpa [rowVals] using h2)]
    · match RS, h2 with
      | [], _ => exact .nil
      | [a], _ => exact List.pairwise_singleton ..
  · have hn : (rowVals RS).length = RS.length := by simp [rowVals]
    have hlt : ∀ i j, i < RS.length → j < RS.length → ltR RS i j = decide ((fun i => code (RS.getD i dRow).2) i < (fun i => code (RS.getD i dRow).2) j) := fun i j _ _ => rfl
    have hinj : Inj RS.length (fun i => code (RS.getD i dRow).2) := fun i j hi hj e => by
      have gi : RS.getD i dRow = RS[i] := by simp [hi]
      have gj : RS.getD j dRow = RS[j] := by simp [hj]
      dsimp only at e
      rw [gi, gj] at e
      exact (List.getElem_inj (i := i) (j := j) (h₀ := by simpa using hi) (h₁ := by simpa using hj) hd).mp (by rw [List.getElem_map, List.getElem_map]; exact e)
    have hU := sort_run hlt hinj (by omega)
    have hA : Ap RS.length _ := (ask_sort (n := RS.length) (by omega)).run (ltR RS)
    have hs := hA.size
    refine ⟨(kasRun (ltR RS) (kas_sort RS.length)).toList.map fun i => RS.getD i dRow, ?_, ?_, ?_⟩
    · refine (List.Perm.map _ hA).trans (.of_eq ?_)
      refine List.ext_getElem (by simp) fun i h1 h2 => ?_
      simp at h1
      simp [h1]
    · unfold srt
      rw [if_neg (by omega), hn]
      unfold rowVals
      rw [List.map_map]
      refine List.map_congr_left fun i hi => ?_
      have : i < RS.length := by have := (hA.mem_iff).mp hi; simpa using this
      simp [this]
    · rw [List.pairwise_map]
      refine List.pairwise_iff_getElem.mpr fun i j hi hj hij => ?_
      rw [Array.length_toList] at hi hj
      have := hU i j hij (by omega)
      simp only [Array.getElem_toList]
      simpa [Array.getD, hi, hj] using this
section
variable {c : Cx} {L : List Cell}
theorem tr_sortR {a : Addr} {m : Nat} {RS : List Row} {Q : Value → List Cell → Prop} (hm : m = 2 ∨ m = 3) (hT : RowsIn L m RS) (h64 : RS.length < 64) (hd : (RS.map fun x => code x.2).Nodup)
    (h : ∀ RS', List.Perm RS' RS → (RS'.Pairwise fun x y => code x.2 < code y.2) → Q .none ((a, pList (rowVals RS')) :: L)) : Tr c (call (.builtin "list.sort") [.ref a] []) ((a, pList (rowVals RS)) :: L) Q := fun s H g o => by
  obtain ⟨ob, e, k, rfl⟩ := H.at (.head _)
  obtain ⟨RS', p1, p2, p3⟩ := srt_rows hd
  refine wpAny_call_entry PyProof.Rows.slot_list_sort ⟨_, e, rfl⟩ PyProof.Rows.entry_list_sort ?_ (PyProof.Rows.args_list_sort _)
  refine sort_body (c := c) (L1 := (a, pList []) :: L) (vs := rowVals RS) (lt := ltR RS) (κ := tuples' true) e (fun h' hs he => ?_) (fun h' H1 => ?_) (fun h2 => cmpRows hm (fun x hx => ⟨.tail _ (hT x hx).1, (hT x hx).2⟩) (by simpa [rowVals] using h2)) (by simpa [rowVals] using h64) fun h' e' H1 h'' hs hq => ?_
  · obtain ⟨e1, he⟩ := he
    exact H.upd .head hs he ⟨e1, rfl⟩
  · obtain ⟨o1, g1, k1, rfl⟩ := H1.at (.head _)
    exact ⟨k1, g1⟩
  · exact ⟨_, rfl, _, H1.upd .head hs hq ⟨e', by rw [p2]⟩, g, o, h RS' p1 p3⟩
end
end Mine
namespace Mine
section
variable {K : Frag} {mg mb : Str → Option Value} {c : Cx} {L : List Cell} {env : Env} {n : Nat} {pos : Pos}
theorem tr_floordiv {a b : Int} {t u : Tok} {Q : Value → List Cell → Prop} (hb : b ≠ 0) (hp : b.natAbs.log2 < 9000) (h : ∀ k, Q (.int (a.fdiv b) k) L) : Tr c (binaryOp .FloorDiv (.int a t) (.int b u)) L Q := fun s H g o =>
  floordiv_int hb ⟨L, H, g, o, h _⟩ (.inl (PyProof.noPylong_of_log2 hp))
theorem tr_pow {a b : Int} {t u : Tok} {Q : Value → List Cell → Prop} (hb : 0 ≤ b) (hp : (Builtin.Int.intBits a : Int) * b ≤ 2 ^ 27) (h : ∀ k, Q (.int (a ^ b.toNat) k) L) : Tr c (binaryOp .Pow (.int a t) (.int b u)) L Q := fun s H g o =>
  pow_int hb hp ⟨L, H, g, o, h _⟩
theorem Own.tup {h₀ h : Heap} (H : Own h₀ h L) {a : Addr} {ns : List Int} (m : (a, pTI ns) ∈ L) : ∃ vs k, IntsAre vs ns ∧ h.get? a = some { cls := .type "tuple", dict := Option.none, data := .seq vs.toArray k, slots := #[] } := by
  obtain ⟨o, e, vs, hi, k, rfl⟩ := H.at m
  exact ⟨vs, k, hi, e⟩
theorem tr_tupleL {l : Addr} {P : Obj → Prop} {vs : List Value} {Q : Value → List Cell → Prop} (hl : (l, P) ∈ L) (hP : ∀ o, P o → ∃ k, o = seqObj "list" vs.toArray k) (hz : vs.length ≤ sizeLine) (h : ∀ D, Q (.ref D) ((D, pTup vs) :: L)) : Tr c (call (.type "tuple") [.ref l] []) L Q := fun s H g o => by
  obtain ⟨ob, e, p⟩ := H.at hl
  obtain ⟨k, rfl⟩ := hP ob p
  refine call_tuple_list (items := vs.toArray) ⟨_, e, rfl, k, rfl⟩ (fun h' hk => ?_) (by simpa using hz)
  exact ⟨_, (H.ext hk).push (P := pTup vs) ⟨_, rfl⟩ rfl, g, o, h _⟩
def pTIter (t : Addr) (i : Nat) (o : Obj) : Prop := o.cls = .type "tuple_iterator" ∧ o.data = .fields #[.ref t, .int i 0]
theorem tr_iterTup {t : Addr} {ns : List Int} {Q : Value → List Cell → Prop} (ht : (t, pTI ns) ∈ L) (h : ∀ it, Q (.ref it) ((it, pTIter t 0) :: L)) : Tr c (pyIter (.ref t)) L Q := fun s H g o => by
  obtain ⟨vs, k, hi, e⟩ := H.tup ht
  exact wpAny_pyIter_tuple (items := vs.toArray) ⟨_, e, rfl, k, rfl⟩ ⟨_, H.push (P := pTIter t 0) ⟨rfl, rfl⟩ rfl, g, o, h _⟩
theorem tr_nextTup {it t : Addr} {i : Nat} {ns : List Int} {v : Int} {L' : List Cell} {Q : Option Value → List Cell → Prop} (U : Upd1 it (pTIter t i) (pTIter t (i + 1)) L L') (ht : (t, pTI ns) ∈ L) (hv : ns[i]? = some v) (h : ∀ k, Q (some (.int v k)) L') : Tr c (pyNext (.ref it)) L Q := fun s H g o => by
  obtain ⟨vs, k, hi, e⟩ := H.tup ht
  obtain ⟨oi, ei, p1, p2⟩ := H.at U.mem
  obtain ⟨tk, hx⟩ := ints_get hi hv
  refine wpAny_pyNext_tuple_item (i := i) (items := vs.toArray) ⟨_, ei, p1, p2⟩ ⟨_, e, rfl, k, rfl⟩ (x := .int v tk) (by simpa using hx) fun h' hit hs => ?_
  obtain ⟨o2, e2, q⟩ := hit
  exact ⟨L', H.upd U hs e2 q, g, o, h _⟩
theorem tr_nextTupEnd {it t : Addr} {i : Nat} {ns : List Int} {L' : List Cell} {Q : Option Value → List Cell → Prop} (R : Rm n c.A) (U : Rem1 it (pTIter t i) L L') (ht : (t, pTI ns) ∈ L) (hv : ns[i]? = none) (h : Q none L') : Tr c (pyNext (.ref it)) L Q := fun s H g o => by
  obtain ⟨vs, k, hi, e⟩ := H.tup ht
  obtain ⟨oi, ei, p1, p2⟩ := H.at U.mem
  exact wpAny_pyNext_tuple_end (i := i) (items := vs.toArray) R.hd ⟨_, ei, p1, p2⟩ ⟨_, e, rfl, k, rfl⟩ (by simpa using ints_none hi hv) fun h' hs => ⟨L', (H.perm U.perm).extBut hs, g, o, h⟩
theorem pyIter_tupiter {prog : Program} {w : World} {A : Around} {E : Value → Shared → Prop} {s : Shared} {it t : Addr} {i : Nat} {Q : Value → Shared → Prop} (hit : s.heap.IsTupleIter it t i) (h : Q (.ref it) s) : wpAny (model prog w) A (pyIter (.ref it)) Q E s := by
  refine wpAny_pyIter_slot hit.typeIs F.slot_tuple_iterator_iter (wpAny_call_entry F.slot_tuple_iterator_iter hit.typeIs F.entry_tuple_iterator_iter ?_ (F.args_tuple_iterator_iter_1 _))
  exact wpAny_pure ⟨_, rfl, "tuple_iterator", _, hit.typeIs, F.slot_tuple_iterator_next.lookup, h⟩
theorem selfTup {it t : Addr} {i : Nat} (m : (it, pTIter t i) ∈ L) : SelfG c it L := fun L' P h p s H g o => by
  obtain ⟨ob, e, p1, p2⟩ := H.at (h _ m)
  exact pyIter_tupiter ⟨_, e, p1, p2⟩ ⟨L', H, g, o, p⟩
theorem tr_addLists {a b : Addr} {P P' : Obj → Prop} {vs ws : List Value} {Q : Value → List Cell → Prop} (ha : (a, P) ∈ L) (hb : (b, P') ∈ L) (hP : ∀ o, P o → ∃ k, o = seqObj "list" vs.toArray k) (hP' : ∀ o, P' o → ∃ k, o = seqObj "list" ws.toArray k) (hz : vs.length + ws.length ≤ sizeLine)
    (h : ∀ D, Q (.ref D) ((D, pList (vs ++ ws)) :: L)) : Tr c (binaryOp .Add (.ref a) (.ref b)) L Q := fun s H g o => by
  obtain ⟨ob, e, p⟩ := H.at ha
  obtain ⟨k, rfl⟩ := hP ob p
  obtain ⟨ob2, e2, p2⟩ := H.at hb
  obtain ⟨k2, rfl⟩ := hP' ob2 p2
  refine PySem.P.add_list e e2 ⟨_, H.push (P := pList (vs ++ ws)) ⟨0, ?_⟩ rfl, g, o, h _⟩ (by simpa using hz)
  simp
theorem tr_addTup {a b : Addr} {ns : List Int} {v : Int} {tk : Tok} {Q : Value → List Cell → Prop} (ha : (a, pTI ns) ∈ L) (hz : ns.length ≤ 100) (h : ∀ D, Q (.ref D) ((D, pTI (ns ++ [v])) :: L)) : Tr c (binaryOp .Add (.ref a) (.ref b)) ((b, pTup [.int v tk]) :: L) Q := fun s H g o => by
  obtain ⟨vs, k, hi, e⟩ := H.tup (.tail _ ha)
  obtain ⟨ob2, e2, k2, rfl⟩ := H.at (.head _)
  have hlen := ints_len hi
  by_cases h0 : ns = []
  · subst h0
    cases hi
    refine concat_meets ⟨_, e, rfl⟩ ⟨_, e2, rfl⟩ noFill_tuple_add seq_tuple_add F.slot_tuple_add F.entry_tuple_add (F.args_tuple_add_2 _ _) (tuple_addW0 a b _ _ _ _ _ _ _ _ rfl) ⟨e, e2, ?_⟩
    exact ⟨(b, pTI ([] ++ [v])) :: L, H.loosen fun o p => ⟨_, ints_one v tk, p⟩, g, o, h b⟩
  · have h1 : ¬ vs.toArray.isEmpty = true := by
      cases hi with
      | nil => exact absurd rfl h0
      | cons i t hi => simp
    refine PySem.P.add_tuple e e2 h1 (by simp) ⟨_, (H.sub (List.sublist_cons_self ..)).push (P := pTI (ns ++ [v])) ⟨vs ++ [.int v tk], ints_app hi (ints_one v tk), 0, ?_⟩ rfl, g, o, h _⟩ (by have := sz24; simp; omega)
    simp
theorem tr_sum {l : Addr} {ns : List Int} {Q : Value → List Cell → Prop} (R : Rm 2 c.A) (hl : (l, pInts ns) ∈ L) (h : ∀ t, Q (.int ns.sum t) L) : Tr c (call (.builtin "sum") [.ref l] []) L Q := fun s H g o => by
  obtain ⟨vs, k, hi, e⟩ := H.ints hl
  obtain ⟨xs, hx⟩ := hi.allInts.items
  have hl' : s.heap.IsList l (intItems xs) := hx ▸ ⟨_, e, rfl, k, rfl⟩
  refine sum_intListG R.hd hl' fun h' tk t' hk => ?_
  have e1 : ns = xs.toList.map (·.1) := by
    rw [← nums_intItems, ← hx]
    exact (show numsOf vs.toArray.toList = ns from hi.numsOf).symm
  have e2 : preSum (numAt xs) xs.size = ns.sum := by
    rw [preSum_eq, List.take_of_length_le (by simp), e1]
  rw [e2]
  exact ⟨L, H.ext hk, g, o, h _⟩
theorem eqAtRow {h₀ : Heap} {s : Shared} (H : Own h₀ s.heap L) {A : Around} (hu : A.units < cLine) {a b : Addr} {r1 r2 : List Int} (m1 : (a, pTI r1) ∈ L) (m2 : (b, pTI r2) ∈ L) : SeqAt.EqAt A s (.ref a) (.ref b) (decide (r1 = r2)) :=
  fun prog w E Q h => wpAny_eqBool_tuple hu (H.tupKey m1 prog w) (H.tupKey m2 prog w) h
theorem rows_all {RS RS2 : List Row} (hl : RS.length = RS2.length) : ((List.range RS.length).all fun j => decide ((RS.getD j dRow).2 = (RS2.getD j dRow).2)) = decide (RS.map (·.2) = RS2.map (·.2)) := by
  rw [Bool.eq_iff_iff, List.all_eq_true, decide_eq_true_iff]
  constructor
  · intro h
    refine List.ext_getElem (by simpa using hl) fun i h1 h2 => ?_
    have h1 : i < RS.length := by simpa using h1
    have h2 : i < RS2.length := by simpa using h2
    have := h i (List.mem_range.mpr h1)
    simpa [h1, h2] using this
  · intro h j hj
    have hj := List.mem_range.mp hj
    have hj2 : j < RS2.length := by omega
    have := congrArg (fun l => l[j]?) h
    simp only [List.getElem?_map, List.getElem?_eq_getElem hj, List.getElem?_eq_getElem hj2, Option.map_some, Option.some.injEq] at this
    simp [hj, hj2, this]
theorem isList_of {h₀ : Heap} {s : Shared} (H : Own h₀ s.heap L) {a : Addr} {P : Obj → Prop} {vs : List Value} (m : (a, P) ∈ L) (hP : ∀ o, P o → ∃ k, o = seqObj "list" vs.toArray k) : s.heap.IsList a vs.toArray := by
  obtain ⟨ob, e, p⟩ := H.at m
  obtain ⟨k, rfl⟩ := hP ob p
  exact ⟨_, e, rfl, k, rfl⟩
theorem pList_is {vs : List Value} : ∀ o, pList vs o → ∃ k, o = seqObj "list" vs.toArray k := fun o ⟨k, e⟩ => ⟨k, e⟩
theorem tr_eqRows {a b : Addr} {RS RS2 : List Row} {Q : Value → List Cell → Prop} (R : Rm 2 c.A) (ha : (a, pList (rowVals RS)) ∈ L) (hb : (b, pList (rowVals RS2)) ∈ L) (h1 : ∀ x ∈ RS, (x.1, pTI x.2) ∈ L) (h2 : ∀ x ∈ RS2, (x.1, pTI x.2) ∈ L)
    (h : Q (.bool (decide (RS.map (·.2) = RS2.map (·.2)))) L) : Tr c (compareOp .Eq (.ref a) (.ref b)) L Q := fun s H g o => by
  have la := isList_of H ha pList_is
  have lb := isList_of H hb pList_is
  by_cases hl : RS.length = RS2.length
  · refine SeqAt.eq_listAt la lb (e := fun j => decide ((RS.getD j dRow).2 = (RS2.getD j dRow).2)) (by simpa [rowVals] using hl) R.units (fun j h3 h4 => ?_) ⟨L, H, g, o, ?_⟩
    · have h3 : j < RS.length := by simpa [rowVals] using h3
      have h4 : j < RS2.length := by simpa [rowVals] using h4
      have := eqAtRow H (Rm.in1 (R.le (k := 2))).units (h1 _ (List.getElem_mem h3)) (h2 _ (List.getElem_mem h4))
      simpa [rowVals, h3, h4] using this
    · have := rows_all hl
      rw [show (rowVals RS).toArray.size = RS.length by simp [rowVals], this]
      exact h
  · refine SeqAt.eq_list_lengthsAt la lb (by simpa [rowVals] using hl) R.units ⟨L, H, g, o, ?_⟩
    rw [decide_eq_false (fun e => hl (by have := congrArg List.length e; simpa using this))] at h
    exact h
theorem tr_neRows {a b : Addr} {RS RS2 : List Row} {Q : Value → List Cell → Prop} (R : Rm 2 c.A) (ha : (a, pList (rowVals RS)) ∈ L) (hb : (b, pList (rowVals RS2)) ∈ L) (h1 : ∀ x ∈ RS, (x.1, pTI x.2) ∈ L) (h2 : ∀ x ∈ RS2, (x.1, pTI x.2) ∈ L)
    (h : Q (.bool (!decide (RS.map (·.2) = RS2.map (·.2)))) L) : Tr c (compareOp .NotEq (.ref a) (.ref b)) L Q := fun s H g o => by
  have la := isList_of H ha pList_is
  have lb := isList_of H hb pList_is
  by_cases hl : RS.length = RS2.length
  · refine SeqAt.RcNeAt.lists la lb (e := fun j => decide ((RS.getD j dRow).2 = (RS2.getD j dRow).2)) (by simpa [rowVals] using hl) R.units (fun j h3 h4 => ?_) _ _ _ _ ⟨L, H, g, o, ?_⟩
    · have h3 : j < RS.length := by simpa [rowVals] using h3
      have h4 : j < RS2.length := by simpa [rowVals] using h4
      have := eqAtRow H (Rm.in1 (R.le (k := 2))).units (h1 _ (List.getElem_mem h3)) (h2 _ (List.getElem_mem h4))
      simpa [rowVals, h3, h4] using this
    · have := rows_all hl
      rw [show (rowVals RS).toArray.size = RS.length by simp [rowVals], this]
      exact h
  · refine SeqAt.RcNeAt.lists_lengths la lb (by simpa [rowVals] using hl) R.units _ _ _ _ ⟨L, H, g, o, ?_⟩
    rw [decide_eq_false (fun e => hl (by have := congrArg List.length e; simpa using this))] at h
    exact h
theorem tr_inRows {t b : Addr} {r : List Int} {RS : List Row} {Q : Value → List Cell → Prop} (R : Rm 2 c.A) (ht : (t, pTI r) ∈ L) (hb : (b, pList (rowVals RS)) ∈ L) (h1 : ∀ x ∈ RS, (x.1, pTI x.2) ∈ L)
    (h : Q (.bool (decide (r ∈ RS.map (·.2)))) L) : Tr c (compareOp .In (.ref t) (.ref b)) L Q := fun s H g o => by
  have lb := isList_of H hb pList_is
  refine SeqAt.in_listAt (fun y => (RS.any fun x => decide (y = .ref x.1) && decide (x.2 = r))) lb (fun y hy => ?_) ⟨L, H, g, o, ?_⟩
  · have hy : y ∈ rowVals RS := by simpa using hy
    obtain ⟨x, hx, rfl⟩ := List.mem_map.mp hy
    have := eqAtRow H (Rm.in1 (R.le (k := 2))).units (h1 _ hx) ht
    have e : (RS.any fun z => decide (Value.ref x.1 = .ref z.1) && decide (z.2 = r)) = decide (x.2 = r) := by
      rw [Bool.eq_iff_iff, List.any_eq_true, decide_eq_true_iff]
      constructor
      · rintro ⟨z, hz, hq⟩
        simp only [Bool.and_eq_true, decide_eq_true_iff, Value.ref.injEq] at hq
        obtain ⟨q1, q2⟩ := hq
        have k1 := H.tupKey (h1 _ hx) c.prog c.w
        have k2 := H.tupKey (h1 _ hz) c.prog c.w
        rw [← q1] at k2
        rw [k1.inj k2]; exact q2
      · intro q
        exact ⟨x, hx, by simp [q]⟩
    rw [e]; exact this
  · have e : ((rowVals RS).toArray.any fun y => (RS.any fun x => decide (y = .ref x.1) && decide (x.2 = r))) = decide (r ∈ RS.map (·.2)) := by
      rw [Bool.eq_iff_iff, decide_eq_true_iff, ← Array.any_toList]
      show (rowVals RS).any _ = true ↔ _
      rw [List.any_eq_true]
      constructor
      · rintro ⟨y, hy, hq⟩
        obtain ⟨z, hz, hq⟩ := List.any_eq_true.mp hq
        simp only [Bool.and_eq_true, decide_eq_true_iff] at hq
        exact List.mem_map.mpr ⟨z, hz, hq.2⟩
      · intro hm
        obtain ⟨z, hz, rfl⟩ := List.mem_map.mp hm
        exact ⟨.ref z.1, List.mem_map.mpr ⟨z, hz, rfl⟩, List.any_eq_true.mpr ⟨z, hz, by simp⟩⟩
    rw [e]; exact h
end
end Mine
namespace Mine
section
variable {K : Frag} {mg mb : Str → Option Value} {c : Cx} {L : List Cell} {env : Env} {n : Nat} {pos : Pos}
theorem Own.listH {h₀ h : Heap} (H : Own h₀ h L) {l : Addr} {vs : Array Value} (hl : h₀.IsList l vs) : h.IsList l vs := let ⟨o, e, hc, k, hd⟩ := hl; ⟨o, H.keep _ _ e, hc, k, hd⟩
theorem tr_lenH {l : Addr} {vs : List Value} {Q : Value → List Cell → Prop} (hl : c.h₀.IsList l vs.toArray) (hz : vs.length ≤ sizeLine) (h : ∀ t, Q (.int vs.length t) L) : Tr c (call (.builtin "len") [.ref l] []) L Q := fun s H g o =>
  call_len_list (H.listH hl) (by rw [List.size_toArray]; have := sz24; omega) (by rw [List.size_toArray]; exact ⟨L, H, g, o, h _⟩)
theorem tr_gpH {l : Addr} {vs : List Value} (hl : c.h₀.IsList l vs.toArray) : Tr c (getitemInPython (.ref l)) L fun b L' => b = false ∧ L' = L := fun s H g o => by
  obtain ⟨ob, e, hc, k, hd⟩ := H.listH hl
  unfold getitemInPython
  exact wpAny_bind (wpAny_specialOf (T := "list") ⟨_, e, hc⟩ slot_list_getitem.lookup (wpAny_pure ⟨L, H, g, o, rfl, rfl⟩))
theorem tr_itemH {l : Addr} {vs : List Value} {k : Nat} {u : Tok} {x : Value} {value slice : Expr} {Q : Value → List Cell → Prop} (hl : c.h₀.IsList l vs.toArray) (hx : vs[k]? = some x) (hz : vs.length ≤ sizeLine) (h : Q x L)
    (hs : subscripted slice false (.ref l) (.int k u) = operate [.ref l, .int k u] (getItem (.ref l) (.int k u)) := by rfl) : Tr c (subscriptTail value slice (.ref l) (.int k u)) L Q :=
  tr_tail (tr_gpH hl) (fun s H g o => by
    exact wpAny_getItem_list (items := vs.toArray) (H.listH hl) (by omega) (by have := (List.getElem?_eq_some_iff.mp hx).1; have := sz24; omega) (by simpa using hx) ⟨L, H, g, o, h⟩) (.inl hs)
def abc (m : Int) : Str := if m = 2 then Str.ofString "ab" else Str.ofString "abc"
theorem tr_abc {value u : Expr} {p : Pos} {Q : Value → List Cell → Prop} (h : Tr c (eval value env) L fun o L1 => Tr c (eval u env) L1 fun v L2 => ∃ t m k, o = .str (Str.ofString "abc") t ∧ v = .int m k ∧ (m = 2 ∨ m = 3) ∧ ∀ t', Q (.str (abc m) t') L2) :
    Tr c (eval (.Subscript value (.Slice none (some u) none p) pos) env) L Q := by
  refine tr_Subscript (h.mono fun o L1 q => ?_)
  have key : Tr c (eval (.Slice none (some u) none p) env) L1 fun i L3 => ∃ a v L2, i = .ref a ∧ L3 = (a, pSlice .none v .none) :: L2 ∧ ∃ t m k, o = .str (Str.ofString "abc") t ∧ v = .int m k ∧ (m = 2 ∨ m = 3) ∧ ∀ t', Q (.str (abc m) t') L2 := fun s H g oo => by
    refine wpAny_Slice ?_
    show wpAny _ _ (pure Value.none) _ _ s
    refine wpAny_pure ?_
    refine q.use H g oo fun v s2 L2 H2 g2 o2 q2 => ?_
    exact wpAny_pure ⟨_, H2.push (P := pSlice .none v .none) rfl rfl, g2, o2, _, v, L2, rfl, rfl, q2⟩
  refine key.mono fun i L3 q3 => ?_
  obtain ⟨a, v, L2, rfl, rfl, t, m, k, rfl, rfl, hm, hq⟩ := q3
  refine tr_tail (fun s H g o => ?_) (fun s H g o => ?_) (.inr rfl)
  · unfold getitemInPython
    exact wpAny_bind (wpAny_specialOf (T := "str") (typeIs_str s _ t) F.slot_str_getitem.lookup (wpAny_pure ⟨_, H, g, o, rfl, rfl⟩))
  · obtain ⟨ob, e, pp⟩ := H.at (.head _)
    unfold pSlice at pp
    subst pp
    have H3 := H.sub (List.sublist_cons_self ..)
    refine wpAny_getItem_str_slice (l := none) (u := some (m, k)) (st := none) ⟨_, e, rfl, rfl⟩ rfl ?_
    rcases hm with rfl | rfl
    · have e : sliceMade (Str.ofString "abc") t none (some ((2 : Int), k)) none = .str (Str.ofString "ab") := by rfl
      rw [e]
      exact ⟨by decide, L2, H3, g, o, hq _⟩
    · have e : sliceMade (Str.ofString "abc") t none (some ((3 : Int), k)) none = .val (.str (Str.ofString "abc") t) := by rfl
      rw [e]
      exact ⟨L2, H3, g, o, hq _⟩
end
end Mine
namespace Mine
theorem Own.newAt {h₀ h h' : Heap} {L : List Cell} (H : Own h₀ h L) {o : Obj} {P : Obj → Prop} (e : h'.get? h.objs.size = some o) (p : P o) (k : ∀ b o, h.get? b = some o → h'.get? b = some o) : Own h₀ h' ((h.objs.size, P) :: L) := by
  refine ⟨fun b o e => k b o (H.keep b o e), fun c m' => ?_, fun c m' => ?_, fun c m' => ?_, ?_, H.lim⟩
  · rcases List.mem_cons.mp m' with rfl | m'
    · exact ⟨o, e, p⟩
    · obtain ⟨o, e, p⟩ := H.has c m'
      exact ⟨o, k _ _ e, p⟩
  · rcases List.mem_cons.mp m' with rfl | m'
    · exact H.none
    · exact H.new c m'
  · rcases List.mem_cons.mp m' with rfl | m'
    · exact H.two
    · exact H.hi c m'
  · rw [List.map_cons, List.nodup_cons]
    refine ⟨fun hm => ?_, H.nd⟩
    obtain ⟨c, hc, e⟩ := List.mem_map.mp hm
    exact absurd (H.lt hc) (by rw [e]; exact Nat.lt_irrefl _)
def nmA : Str := Str.ofString "a"
def nmB : Str := Str.ofString "b"
def nmC : Str := Str.ofString "c"
def nms (m : Int) : List Str := if m = 2 then [nmA, nmB] else [nmA, nmB, nmC]
section
variable {K : Frag} {mg mb : Str → Option Value} {c : Cx} {L : List Cell} {env : Env} {n : Nat} {pos : Pos}
theorem strs_of {x : Str} : ∀ {acc : List Value} {ys : List Str}, acc.length = ys.length → (∀ (j : Nat) (v : Value), acc[j]? = some v → ∃ y u, ys[j]? = some y ∧ v = Value.str y u) → StrsAre acc ys
  | [], [], _, _ => .nil
  | v :: acc, y :: ys, hl, h => by
    obtain ⟨y', u, e, rfl⟩ := h 0 v rfl
    cases e
    exact .cons _ _ (strs_of (x := x) (by simpa using hl) fun j v hv => h (j + 1) v hv)
theorem tr_listAbc {m : Int} {t : Tok} {Q : Value → List Cell → Prop} (R : Rm 2 c.A) (hm : m = 2 ∨ m = 3) (h : ∀ D nvs, StrsAre nvs (nms m) → Q (.ref D) ((D, pList nvs) :: L)) : Tr c (call (.type "list") [.str (abc m) t] []) L Q := fun s H g o => by
  refine call_list_str R.hd (abc m) t (fun h' tk acc' c' hk hS hI => ?_) (by rcases hm with rfl | rfl <;> decide)
  refine ⟨_, H.newAt (P := pList acc'.toList) hS ⟨c', by simp⟩ hk, g, o, h _ _ (strs_of (x := abc m) ?_ fun j v hv => ?_)⟩
  · rw [Array.length_toList, hI.1]; rcases hm with rfl | rfl <;> decide
  · rw [Array.getElem?_toList] at hv
    obtain ⟨cp, u, e, rfl⟩ := hI.2 j v hv
    refine ⟨_, u, ?_, rfl⟩
    rcases hm with rfl | rfl
    · have : (abc 2).cps = #[97, 98] := by decide
      rw [this] at e
      have hj : j < 2 := by
        rcases Nat.lt_or_ge j 2 with q | q
        · exact q
        · rw [Array.getElem?_eq_none (by simpa using q)] at e; exact nomatch e
      have : j = 0 ∨ j = 1 := by omega
      rcases this with rfl | rfl <;> (cases e; rfl)
    · have : (abc 3).cps = #[97, 98, 99] := by decide
      rw [this] at e
      have hj : j < 3 := by
        rcases Nat.lt_or_ge j 3 with q | q
        · exact q
        · rw [Array.getElem?_eq_none (by simpa using q)] at e; exact nomatch e
      have : j = 0 ∨ j = 1 ∨ j = 2 := by omega
      rcases this with rfl | rfl | rfl <;> (cases e; rfl)
theorem draw_list {prog : Program} {w : World} {A : Around} {E : Value → Shared → Prop} {it t : Addr} {items : Array Value} (hne : t ≠ it) : ∀ (n i : Nat) (s : Shared) (Q : List Value → Shared → Prop), s.heap.IsListIter it t i → s.heap.IsList t items → i + n ≤ items.size →
    (∀ h', h'.IsListIter it t (i + n) → Heap.SameBut it s.heap h' → Q ((items.toList.drop i).take n) { s with heap := h' }) → wpAny (model prog w) A (draw (.ref it) n) Q E s
  | 0, i, s, Q, hit, _, _, hQ => by
    show wpAny _ _ (pure []) Q E s
    exact wpAny_pure (by simpa using hQ s.heap hit (Heap.SameBut.refl ..))
  | n + 1, i, s, Q, hit, ht, hle, hQ => by
    have hlt : i < items.size := by omega
    show wpAny _ _ (pyNext (.ref it) >>= _) Q E s
    refine wpAny_bind (wpAny_pyNext_list_item hit ht (x := items[i]) (by simp [hlt]) fun h₁ hit₁ hs₁ => ?_)
    have ht₁ : h₁.IsList t items := let ⟨o, e, r⟩ := ht; ⟨o, hs₁.extBut t o hne e, r⟩
    refine wpAny_bind (wpAny_holding (draw_list hne n (i + 1) _ _ hit₁ ht₁ (by omega) fun h₂ hit₂ hs₂ => wpAny_pure ?_))
    have hd : items.toList.drop i = items[i] :: items.toList.drop (i + 1) := by simp [List.drop_eq_getElem_cons, hlt]
    have := hQ h₂ (by rw [show i + (n + 1) = i + 1 + n by omega]; exact hit₂) (hs₁.trans hs₂)
    rw [hd, List.take_succ_cons] at this
    exact this
theorem unpackItems_list {prog : Program} {w : World} {A : Around} {E : Value → Shared → Prop} {s : Shared} {t : Addr} {items : Array Value} {Q : List Value → Shared → Prop} (hh : A.handled = none) (ht : s.heap.IsList t items)
    (hQ : ∀ h', Heap.ExtBut s.heap.objs.size s.heap h' → Q items.toList { s with heap := h' }) : wpAny (model prog w) A (unpackItems (.ref t) items.size none) Q E s := by
  have hlt : t ≠ s.heap.objs.size := by obtain ⟨o, ho, _⟩ := ht; exact Nat.ne_of_lt (Heap.lt_size ho)
  have hT : s.TypeIs (.ref t) "list" := by obtain ⟨o, ho, hc, _⟩ := ht; exact ⟨o, ho, hc⟩
  unfold unpackItems
  refine wpAny_bind ?_
  · unfold notIterableAtAll
    refine wpAny_bind (wpAny_specialOf hT slot_list_iter.lookup ?_)
    refine wpAny_pure ?_
    simp only [Bool.false_eq_true, if_false]
    refine wpAny_bind (wpAny_holding (wpAny_pyIter_list ht ?_))
    have ht0 : (s.heap.push { cls := .type "list_iterator", data := .fields #[.ref t, .int 0 0] }).IsList t items := let ⟨o, e, r⟩ := ht; ⟨o, Heap.get?_push_of_some _ e, r⟩
    refine wpAny_bind (wpAny_holding (draw_list hlt items.size 0 _ _ ⟨_, Heap.get?_push_size _ rfl, rfl, rfl⟩ ht0 (by omega) fun h₁ hit₁ hs₁ => ?_))
    have hall : List.take items.size (List.drop 0 items.toList) = items.toList := by
      rw [List.drop_zero]; exact List.take_of_length_le (by simp)
    rw [hall]
    rw [if_neg (by simp)]
    have ht₁ : h₁.IsList t items := let ⟨o, e, r⟩ := ht0; ⟨o, hs₁.extBut t o hlt e, r⟩
    refine wpAny_bind (wpAny_holding (wpAny_pyNext_list_end hh hit₁ ht₁ (by simp) fun h₂ he₂ => ?_))
    simp only [Option.isSome_none, Bool.false_eq_true, if_false]
    refine wpAny_pure (hQ h₂ fun b o hb e => he₂ b o hb (hs₁.extBut b o hb (Heap.get?_push_of_some _ e)))
theorem tr_List3 {T : Addr} {t1 t2 t3 : Expr} {x y z : Value} {k : Nat} {Q : Unit → List Cell → Prop} (R : Rm n c.A) (hT : (T, pList [x, y, z]) ∈ L) (h : Tr c (assign t1 env x) L fun _ L1 => Tr c (assign t2 env y) L1 fun _ L2 => Tr c (assign t3 env z) L2 Q)
    (he : assignEach [t1, t2, t3] env = [(false, assign t1 env), (false, assign t2 env), (false, assign t3 env)] := by rfl) : Tr c (assign (.Tuple [t1, t2, t3] k pos) env (.ref T)) L Q := fun s H g o => by
  obtain ⟨ob, e, j, rfl⟩ := H.at hT
  rw [arm_assign_Tuple]
  refine wpAny_bind (wpAny_standAt ?_)
  unfold unpack
  rw [he]
  show wpAny _ _ (PySem.holding [.ref T] (unpackItems (.ref T) #[x, y, z].size none) >>= _) _ _ _
  refine wpAny_bind (wpAny_holding (unpackItems_list (items := #[x, y, z]) R.hd ⟨_, e, rfl, j, rfl⟩ fun h' hx => ?_))
  have H' : Own c.h₀ h' L := ⟨fun b ob e => hx b ob (fun q => by subst q; rw [H.none] at e; cases e) (H.keep b ob e), fun c' m => let ⟨ob, e, p⟩ := H.has c' m; ⟨ob, hx _ _ (Nat.ne_of_lt (Heap.lt_size e)) e, p⟩, H.new, H.hi, H.nd, H.lim⟩
  show wpAny _ _ (assignInOrder [assign t1 env, assign t2 env, assign t3 env] [x, y, z]) _ _ _
  unfold assignInOrder
  refine wpAny_bind (wpAny_holding (h.use (s := { s with heap := h' }) H' g o fun _ s1 L1 H1 g1 o1 q => ?_))
  unfold assignInOrder
  refine wpAny_bind (wpAny_holding (q.use H1 g1 o1 fun _ s2 L2 H2 g2 o2 q2 => ?_))
  unfold assignInOrder
  refine wpAny_bind (wpAny_holding (q2.use H2 g2 o2 fun _ s3 L3 H3 g3 o3 q3 => ?_))
  exact wpAny_pure ⟨L3, H3, g3, o3, q3⟩
end
end Mine
namespace Mine
theorem ints_mem : ∀ {vs : List Value} {ns : List Int}, IntsAre vs ns → ∀ {v}, v ∈ vs → ∃ i t, v = .int i t ∧ i ∈ ns
  | _, _, .nil, v, h => (nomatch h)
  | _, _, .cons i t r, v, h => by
    rcases List.mem_cons.mp h with rfl | h
    · exact ⟨i, t, rfl, .head _⟩
    · obtain ⟨j, u, e, m⟩ := ints_mem r h
      exact ⟨j, u, e, .tail _ m⟩
theorem ints_mem' : ∀ {vs : List Value} {ns : List Int}, IntsAre vs ns → ∀ {i}, i ∈ ns → ∃ t, .int i t ∈ vs
  | _, _, .nil, v, h => (nomatch h)
  | _, _, .cons i t r, v, h => by
    rcases List.mem_cons.mp h with rfl | h
    · exact ⟨t, .head _⟩
    · obtain ⟨u, m⟩ := ints_mem' r h
      exact ⟨u, .tail _ m⟩
theorem pmi {α β : Type} (f : α → β) : ∀ {xs ys : List β}, xs.Perm ys → ∀ {l : List α}, ys = l.map f → ∃ l', List.Perm l' l ∧ xs = l'.map f := by
  intro xs ys p
  induction p with
  | nil => intro l e; cases l with | nil => exact ⟨[], .refl _, rfl⟩ | cons => cases e
  | cons x p ih =>
    intro l e
    cases l with
    | nil => cases e
    | cons a l =>
      rw [List.map_cons, List.cons.injEq] at e
      obtain ⟨l', q, e2⟩ := ih e.2
      exact ⟨a :: l', .cons _ q, by rw [List.map_cons, ← e.1, ← e2]⟩
  | swap x y l0 =>
    intro l e
    cases l with
    | nil => cases e
    | cons a l =>
      cases l with
      | nil => rw [List.map_cons, List.cons.injEq] at e; cases e.2
      | cons b l =>
        rw [List.map_cons, List.map_cons, List.cons.injEq, List.cons.injEq] at e
        exact ⟨b :: a :: l, .swap _ _ _, by rw [List.map_cons, List.map_cons, e.1, e.2.1, e.2.2]⟩
  | trans p q ih1 ih2 =>
    intro l e
    obtain ⟨l1, a1, e1⟩ := ih2 e
    obtain ⟨l2, a2, e2⟩ := ih1 e1
    exact ⟨l2, a2.trans a1, e2⟩
theorem code_inj {m : Nat} (hm : m = 2 ∨ m = 3) {a b : List Int} (ha : Sm m a) (hb : Sm m b) (e : code a = code b) : a = b := by
  obtain ⟨l1, b1⟩ := ha
  obtain ⟨l2, b2⟩ := hb
  rcases hm with rfl | rfl
  · match a, l1, b, l2 with
    | [x, y], _, [u, v], _ =>
      have := b1 x (by simp); have := b1 y (by simp); have := b2 u (by simp); have := b2 v (by simp)
      simp only [code, List.foldl_cons, List.foldl_nil] at e
      have : x = u := by omega
      have : y = v := by omega
      subst_vars; rfl
  · match a, l1, b, l2 with
    | [x, y, z], _, [u, v, w], _ =>
      have := b1 x (by simp); have := b1 y (by simp); have := b1 z (by simp); have := b2 u (by simp); have := b2 v (by simp); have := b2 w (by simp)
      simp only [code, List.foldl_cons, List.foldl_nil] at e
      have : x = u := by omega
      have : y = v := by omega
      have : z = w := by omega
      subst_vars; rfl
theorem Sm.univ {m : Nat} (hm : m = 2 ∨ m = 3) {r : List Int} (h : Sm m r) : r ∈ univ := univ_mem (by rw [h.1]; exact hm) h.2
theorem codes_nodup {m : Nat} (hm : m = 2 ∨ m = 3) : ∀ {RS : List Row}, (∀ x ∈ RS, Sm m x.2) → (RS.map (·.2)).Nodup → (RS.map fun x => code x.2).Nodup := by
  intro RS h nd
  have e : (RS.map fun x => code x.2) = (RS.map (·.2)).map code := by rw [List.map_map]; rfl
  rw [e]
  refine List.pairwise_map.mpr (nd.imp_of_mem fun {a b} ha hb hne hc => hne ?_)
  obtain ⟨x, hx, rfl⟩ := List.mem_map.mp ha
  obtain ⟨y, hy, rfl⟩ := List.mem_map.mp hb
  exact code_inj hm (h x hx) (h y hy) hc
theorem Tr.openI {c : Cx} {α : Type} {t : Sem α} {L : List Cell} {Q : α → List Cell → Prop} {a : Addr} {ns : List Int} (h : ∀ vs, IntsAre vs ns → Tr c t ((a, pList vs) :: L) Q) : Tr c t ((a, pInts ns) :: L) Q := fun s H g o => by
  obtain ⟨ob, e, vs, hi, p⟩ := H.at (.head _)
  refine h vs hi s ⟨H.keep, fun c' m => ?_, fun c' m => ?_, fun c' m => ?_, H.nd, H.lim⟩ g o
  · rcases List.mem_cons.mp m with rfl | m
    · exact ⟨ob, e, p⟩
    · exact H.has c' (.tail _ m)
  · rcases List.mem_cons.mp m with rfl | m
    · exact H.new (a, pInts ns) (.head _)
    · exact H.new c' (.tail _ m)
  · rcases List.mem_cons.mp m with rfl | m
    · exact H.hi (a, pInts ns) (.head _)
    · exact H.hi c' (.tail _ m)
section
variable {c : Cx} {L : List Cell}
theorem tr_setInts {l : Addr} {vs : List Value} {ns : List Int} {Q : Value → List Cell → Prop} (R : Rm 8 c.A) (hl : (l, pList vs) ∈ L) (hI : IntsAre vs ns) (h3 : ns.length ≤ 3)
    (h : ∀ S es ns', IntsAre (es.map (·.2)) ns' → ns'.Nodup → (∀ a, a ∈ ns' ↔ a ∈ ns) → Q (.ref S) ((S, pSet c.w es) :: L)) : Tr c (call (.type "set") [.ref l] []) L Q := by
  refine tr_setOf R hl pList_is (fun i es => ElemsOf (intKind c.prog c.w) es ∧ es.length ≤ i ∧ ∃ ns', IntsAre (es.map (·.2)) ns' ∧ ns'.Nodup ∧ ∀ a, a ∈ ns' ↔ a ∈ ns.take i) ⟨fun e h => (nomatch h), Nat.le_refl _, [], .nil, List.nodup_nil, fun a => by simp⟩ ?_ ?_
  · intro A S it i es v R2 hv hIi
    obtain ⟨h1, h2, ns', i1, i2, i3⟩ := hIi
    have hlt : i < ns.length := by
      rw [← ints_len hI]
      rcases Nat.lt_or_ge i vs.length with q | q
      · exact q
      · rw [List.getElem?_eq_none q] at hv; exact nomatch hv
    obtain ⟨t, hx⟩ := ints_get hI (List.getElem?_eq_getElem hlt)
    rw [hx] at hv
    cases hv
    have ht : ∀ a, a ∈ ns.take (i + 1) ↔ a ∈ ns.take i ∨ a = ns[i] := fun a => by
      rw [List.take_add_one, List.getElem?_eq_getElem hlt, List.mem_append]; simp
    refine (set_add_int (tk := t) h1 (by omega)).mono fun b L' q => ?_
    obtain ⟨es', rfl, q⟩ := q
    refine ⟨es', ?_, .refl⟩
    rcases q with ⟨⟨e, he, hk⟩, rfl⟩ | ⟨hno, pm⟩
    · refine ⟨h1, by omega, ns', i1, i2, fun a => ?_⟩
      rw [ht, i3]
      constructor
      · exact .inl
      · rintro (q | rfl)
        · exact q
        · obtain ⟨j, u, e2, m⟩ := ints_mem i1 (List.mem_map.mpr ⟨e, he, rfl⟩)
          rw [e2] at hk
          have : j = ns[i] := by simpa [intKind, Value.isInt] using hk
          rw [← this]; exact (i3 j).mp m
    · obtain ⟨ms, m1, m2⟩ := ints_perm (pm.map (fun x : Int × Value => x.2)) (.cons ns[i] t i1)
      refine ⟨fun e he => ?_, by rw [pm.length_eq, List.length_cons]; omega, ms, m1, m2.nodup_iff.mpr (List.nodup_cons.mpr ⟨fun hm => ?_, i2⟩), fun a => ?_⟩
      · rcases List.mem_cons.mp (pm.mem_iff.mp he) with rfl | he
        · exact ⟨⟨ns[i], intKind_is _ _ _ _, rfl⟩, rfl⟩
        · exact h1 e he
      · obtain ⟨u, hu⟩ := ints_mem' i1 hm
        obtain ⟨e, he, e2⟩ := List.mem_map.mp hu
        have := hno e he
        rw [e2, intKind_is] at this
        cases this
      · rw [m2.mem_iff, ht, List.mem_cons, i3]
        constructor
        · rintro (q | q)
          · exact .inr q
          · exact .inl q
        · rintro (q | q)
          · exact .inr q
          · exact .inl q
  · intro S es hIi
    obtain ⟨h1, h2, ns', i1, i2, i3⟩ := hIi
    refine h S es ns' i1 i2 fun a => ?_
    rw [i3, List.take_of_length_le (by rw [ints_len hI]; exact Nat.le_refl _)]
theorem tr_setRows {l : Addr} {m : Nat} {RS : List Row} {W : List (List Int)} {Q : Value → List Cell → Prop} (R : Rm 8 c.A) (hm : m = 2 ∨ m = 3) (hl : (l, pList (rowVals RS)) ∈ L) (hT : RowsIn L m RS) (hW : ∀ x ∈ RS, x.2 ∈ W) (hW2 : W.length ≤ 12)
    (h : ∀ S es (RS' : List Row), es = RS'.map (fun x => (rowHash x.2, Value.ref x.1)) → (RS'.map (·.2)).Nodup → (∀ x ∈ RS', x ∈ RS) → (∀ x ∈ RS, ∃ y ∈ RS', y.2 = x.2) → Q (.ref S) ((S, pSet c.w es) :: L)) : Tr c (call (.type "set") [.ref l] []) L Q := by
  refine tr_setOf R hl pList_is (fun i es => ∃ RS' : List Row, es = RS'.map (fun x => (rowHash x.2, Value.ref x.1)) ∧ (RS'.map (·.2)).Nodup ∧ (∀ x ∈ RS', x ∈ RS) ∧ (∀ x ∈ RS.take i, ∃ y ∈ RS', y.2 = x.2)) ⟨[], rfl, List.nodup_nil, fun _ h => (nomatch h), fun _ h => by simp at h⟩ ?_ ?_
  · intro A S it i es v R2 hv hIi
    obtain ⟨RS', rfl, i2, i3, i4⟩ := hIi
    have hlt : i < RS.length := by
      rcases Nat.lt_or_ge i RS.length with q | q
      · exact q
      · rw [List.getElem?_eq_none (by simpa [rowVals] using q)] at hv; exact nomatch hv
    have hv' : v = .ref RS[i].1 := by
      simp [rowVals, hlt] at hv
      exact hv.symm
    subst hv'
    have ht : ∀ a, a ∈ RS.take (i + 1) ↔ a ∈ RS.take i ∨ a = RS[i] := fun a => by
      rw [List.take_add_one, List.getElem?_eq_getElem hlt, List.mem_append]; simp
    obtain ⟨mi, si⟩ := hT _ (List.getElem_mem hlt)
    have hlen : RS'.length ≤ 12 := by
      have := len_le_of_subset i2 (l2 := W) fun r hr => by
        obtain ⟨x, hx, rfl⟩ := List.mem_map.mp hr
        exact hW x (i3 x hx)
      rw [List.length_map] at this; omega
    refine (set_add_tup (a := RS[i].1) (r := RS[i].2) R2.units (.tail _ mi) (si.univ hm) (fun x hx => ?_) (by rw [List.length_map]; exact hlen)).mono fun b L' q => ?_
    · obtain ⟨y, hy, rfl⟩ := List.mem_map.mp hx
      obtain ⟨my, sy⟩ := hT _ (i3 y hy)
      exact ⟨y.1, y.2, rfl, sy.univ hm, .tail _ my⟩
    · obtain ⟨es', rfl, q⟩ := q
      refine ⟨es', ?_, .refl⟩
      rcases q with ⟨⟨b, hb⟩, rfl⟩ | ⟨hno, pm⟩
      · refine ⟨RS', rfl, i2, i3, fun x hx => ?_⟩
        rcases (ht x).mp hx with q | rfl
        · exact i4 x q
        · obtain ⟨y, hy, e⟩ := List.mem_map.mp hb
          rw [Prod.mk.injEq] at e
          exact ⟨y, hy, rowHash_inj ((hT _ (i3 y hy)).2.univ hm) (si.univ hm) e.1⟩
      · obtain ⟨RS2, p2, e2⟩ := pmi (fun x : Row => (rowHash x.2, Value.ref x.1)) pm (l := RS[i] :: RS') rfl
        refine ⟨RS2, e2, ?_, fun x hx => ?_, fun x hx => ?_⟩
        · refine (p2.map (·.2)).nodup_iff.mpr (List.nodup_cons.mpr ⟨fun hm2 => ?_, i2⟩)
          obtain ⟨y, hy, e⟩ := List.mem_map.mp hm2
          exact hno _ (List.mem_map.mpr ⟨y, hy, rfl⟩) (congrArg rowHash e)
        · rcases List.mem_cons.mp (p2.mem_iff.mp hx) with rfl | hx
          · exact List.getElem_mem hlt
          · exact i3 x hx
        · rcases (ht x).mp hx with q | rfl
          · obtain ⟨y, hy, e⟩ := i4 x q
            exact ⟨y, p2.mem_iff.mpr (.tail _ hy), e⟩
          · exact ⟨RS[i], p2.mem_iff.mpr (.head _), rfl⟩
  · intro S es hIi
    obtain ⟨RS', rfl, i2, i3, i4⟩ := hIi
    refine h S _ RS' rfl i2 i3 fun x hx => i4 x ?_
    rw [List.take_of_length_le (by simp [rowVals])]; exact hx
theorem tr_sortedSetI {S : Addr} {es : List (Int × Value)} {ns : List Int} {Q : Value → List Cell → Prop} (R : Rm 3 c.A) (hS : (S, pSet c.w es) ∈ L) (hI : IntsAre (es.map (·.2)) ns) (h3 : ns.length < 64)
    (h : ∀ D ns', ns'.Perm ns → ns'.Pairwise (· ≤ ·) → Q (.ref D) ((D, pInts ns') :: L)) : Tr c (call (.builtin "sorted") [.ref S] []) L Q := by
  refine tr_sorted_set R hS fun D items pm => ?_
  obtain ⟨ms, m1, m2⟩ := ints_perm pm hI
  exact tr_sortI m1 (by rw [ints_len m1, m2.length_eq]; exact h3) fun ns' p1 p2 => h D ns' (p1.trans m2) p2
theorem tr_sortedSetR {S : Addr} {m : Nat} {es : List (Int × Value)} {RS : List Row} {Q : Value → List Cell → Prop} (R : Rm 3 c.A) (hm : m = 2 ∨ m = 3) (hS : (S, pSet c.w es) ∈ L) (he : es = RS.map (fun x => (rowHash x.2, Value.ref x.1))) (hT : RowsIn L m RS) (hnd : (RS.map (·.2)).Nodup) (h64 : RS.length < 64)
    (h : ∀ D RS', List.Perm RS' RS → (RS'.Pairwise fun x y => code x.2 < code y.2) → Q (.ref D) ((D, pList (rowVals RS')) :: L)) : Tr c (call (.builtin "sorted") [.ref S] []) L Q := by
  refine tr_sorted_set R hS fun D items pm => ?_
  have e1 : es.map (·.2) = rowVals RS := by rw [he, List.map_map]; rfl
  rw [e1] at pm
  obtain ⟨RS1, p1, rfl⟩ := pmi (fun x : Row => Value.ref x.1) pm (l := RS) rfl
  have hT1 : RowsIn L m RS1 := fun x hx => hT x (p1.mem_iff.mp hx)
  exact tr_sortR hm hT1 (by rw [p1.length_eq]; exact h64) (codes_nodup hm (fun x hx => (hT1 x hx).2) ((p1.map _).nodup_iff.mpr hnd)) fun RS' q1 q2 => h D RS' (q1.trans p1) q2
theorem tr_sortedListR {l : Addr} {m : Nat} {RS : List Row} {Q : Value → List Cell → Prop} (hm : m = 2 ∨ m = 3) (hl : (l, pList (rowVals RS)) ∈ L) (hT : RowsIn L m RS) (hnd : (RS.map (·.2)).Nodup) (h64 : RS.length < 64)
    (h : ∀ D RS', List.Perm RS' RS → (RS'.Pairwise fun x y => code x.2 < code y.2) → Q (.ref D) ((D, pList (rowVals RS')) :: L)) : Tr c (call (.builtin "sorted") [.ref l] []) L Q := by
  refine tr_sorted_list hl pList_is (by have := sz24; simp [rowVals]; omega) fun D => ?_
  exact tr_sortR hm hT h64 (codes_nodup hm (fun x hx => (hT x hx).2) hnd) fun RS' q1 q2 => h D RS' q1 q2
end
end Mine
namespace Mine
theorem bits_of_lt {x : Int} {k : Nat} (h : x.natAbs < 2 ^ k) : Builtin.Int.intBits x ≤ k := by
  unfold Builtin.Int.intBits
  split
  · exact Nat.zero_le _
  · rename_i h0
    have h0 : x.natAbs ≠ 0 := by
      intro e
      exact h0 (by simpa using Int.natAbs_eq_zero.mp e)
    exact (Nat.log2_lt h0).mpr h
theorem lt_of_bits {x : Int} {k : Nat} (h : Builtin.Int.intBits x ≤ k) : x.natAbs < 2 ^ k := by
  unfold Builtin.Int.intBits at h
  split at h
  · rename_i h0
    have : x = 0 := by simpa using h0
    subst this
    exact Nat.two_pow_pos _
  · rename_i h0
    have h0 : x.natAbs ≠ 0 := by
      intro e
      exact h0 (by simpa using Int.natAbs_eq_zero.mp e)
    exact (Nat.log2_lt h0).mp h
theorem mix_bits {n k : Int} {N : Nat} (h : Builtin.Int.intBits n ≤ N) (hk : 0 ≤ k ∧ k ≤ 1) : Builtin.Int.intBits (n * 6364136223846793005 + (k + 1) * 1442695040888963407) ≤ N + 64 := by
  have h1 := lt_of_bits h
  apply bits_of_lt
  rw [Nat.pow_add]
  generalize hP : 2 ^ N = P at h1 ⊢
  have e : (2 : Nat) ^ 64 = 18446744073709551616 := by decide
  rw [e]
  omega
end Mine
namespace Mine
set_option maxHeartbeats 4000000
local macro_rules | `(tactic| k_extra "mem") => `(tactic| first | exact List.Mem.head _ | (refine List.Mem.tail _ ?_; k_extra "mem") | exact List.mem_append_left _ (by assumption) | (refine List.mem_append_right _ ?_; k_extra "mem"))
local macro_rules | `(tactic| k_extra "upd") => `(tactic| first | exact Upd1.head | (apply Upd1.tail; k_extra "upd") | (apply Upd1.skip; k_extra "upd"))
local macro_rules | `(tactic| k_extra "rem") => `(tactic| first | exact Rem1.head | (apply Rem1.tail; k_extra "rem") | (apply Rem1.skip; k_extra "rem"))
local macro_rules | `(tactic| k_extra "remb") => `(tactic| first | exact RemB.head | (apply RemB.tail; k_extra "remb") | (apply RemB.skip; k_extra "remb"))
local macro_rules | `(tactic| k_extra "sel") => `(tactic| first | exact Sel.refl | exact Sel.nil | (apply Sel.cons; k_extra "rem"; k_extra "sel") | (apply Sel.block; k_extra "remb"; k_extra "sel") | (apply Sel.drop; k_extra "sel") | (apply Sel.dropB; k_extra "sel"))
local macro_rules | `(tactic| k_extra "hv") => `(tactic| first | exact rfl | (refine (if_neg (by decide)).trans ?_; k_extra "hv") | (refine' FrHas.get ?f ?g; (case f => assumption); (case g => k_extra "mem")))
local macro_rules | `(tactic| k_extra "fr") => `(tactic| first | assumption | with_reducible exact FrHas.nil | ((with_reducible refine FrHas.cons ?hv ?_); (case hv => k_extra "hv"); k_extra "fr"))
local macro_rules | `(tactic| k_extra "B") => `(tactic| first | assumption | exact Bs.deeper (by assumption) _ | exact Bs.wA (by assumption) _ | exact Bs.deeper (Bs.wA (by assumption) _) _)
local macro_rules | `(tactic| k_extra "R") => `(tactic| first | assumption | exact Rm.deeper (Rm.le (by assumption)) _ | exact Rm.le (by assumption) | exact Rm.le (Rm.deeper (Rm.le (by assumption)) _))
local macro_rules | `(tactic| k_extra "getok") => `(tactic| first | (refine' GetOk.obj ?a ?b; (case a => k_is); (case b => k_is)) | (refine' GetOk.lst ?a ?b ?c; (case a => k_is); (case b => k_is); (case c => k_is)))
local macro_rules | `(tactic| k_extra "isinst") => `(tactic| first | exact pDomL_is | exact pInst_is | exact pSub_is)
local macro_rules | `(tactic| k_extra "len") => `(tactic| first | assumption | (simp only [List.length_append, List.length_cons, List.length_nil] at *; have := sz24; omega) | (have := sz24; omega))
local macro_rules | `(tactic| k_extra "enter") => `(tactic| (
  (case ho => k_is)
  (case hcd => k_is)
  (case hb => exact fun _ _ => BindsTo.of_eq rfl)
  (case hloc => exact locs rfl)
  (case c1 => decide)
  (case c2 => exact rfl)
  (case c3 => exact rfl)
  (case c4 => exact rfl)))
local macro_rules | `(tactic| k_extra "enterD") => `(tactic| (
  (case ho => k_is)
  (case hcd => k_is)
  (case hb => exact fun _ X => binds_K X rfl (by k_is) rfl rfl rfl)
  (case hloc => exact locs rfl)
  (case c1 => decide)
  (case c2 => exact rfl)
  (case c3 => exact rfl)
  (case c4 => exact rfl)))
local macro_rules | `(tactic| k_extra "all") => `(tactic| (intro x hx; repeat (first | exact List.mem_append_left _ hx | refine List.Mem.tail _ ?_ | refine List.mem_append_right _ ?_)))
local macro_rules | `(tactic| k_extra "focus") => `(tactic| first | exact focus_base | (apply focus_step; k_extra "focus") | (apply focus_Z; k_extra "focus"))
local macro_rules | `(tactic| k_extra "unfocus") => `(tactic| first | exact unfocus | (apply unfocus_step; k_extra "unfocus") | (apply unfocus_Z; k_extra "unfocus"))
local macro_rules | `(tactic| k_extra "back") => `(tactic| (refine' Sel.trans ?u ?v; (case u => k_extra "unfocus"); (case v => k_extra "sel")))
local macro_rules | `(tactic| k_extra "pull") => `(tactic| first | exact Sel.refl | (apply pull_step; k_extra "pull") | (apply pull_Z; k_extra "pull"))
local macro_rules | `(tactic| k_extra "pull1") => `(tactic| (apply pull_step; k_extra "pull"))
local macro_rules | `(tactic| k_extra "name") => `(tactic| first
     | (refine' tr_local ?hm ?hv ?_ ?a ?b ?c; (case a => exact rfl); (case b => exact rfl); (case hm => k_extra "mem"); (case hv => k_extra "hv"); (case c => decide))
     | (refine' tr_global ?B ?he ?_ ?g ?a ?b ?c; (case B => k_extra "B"); (case a => exact rfl); (case b => exact rfl); (case he => k_is); (case g => exact rfl); (case c => decide))
     | (refine' tr_builtin ?B ?he ?hv ?_ ?n ?g ?g2 ?a ?b ?c; (case B => k_extra "B"); (case a => exact rfl); (case b => exact rfl); (case he => k_is); (case hv => boot_fast); (case n => decide); (case g => exact rfl); (case g2 => exact rfl); (case c => decide))
     | (refine' tr_cell ?hc ?hm ?_ ?a ?b ?c; (case a => exact rfl); (case b => exact rfl); (case hc => exact rfl); (case hm => k_extra "mem"); (case c => decide))
     | (refine' tr_free ?hc ?hm ?_ ?a ?b ?c ?d; (case a => exact rfl); (case b => exact rfl); (case hc => exact rfl); (case hm => k_extra "mem"); (case c => decide); (case d => decide)))
local macro_rules | `(tactic| k_extra "methu") => `(tactic| first
     | (refine' tr_getMethod ?B ?hx ?hP ?hd ?hg ?hf ?ht ?hv ?_; (case B => k_extra "B"); (case hx => k_extra "mem"); (case hP => k_extra "isinst"); (case hd => k_extra "mem"); (case hf => k_is); (case ht => k_is); (case hv => exact rfl); (case hg => k_extra "getok"))
     | (refine' tr_getMethodB ?B ?hx ?hP ?hd ?hg ?hf ?ht ?hv ?_; (case B => k_extra "B"); (case hx => k_extra "mem"); (case hP => k_extra "isinst"); (case hd => k_extra "mem"); (case hf => k_is); (case ht => first | with_reducible exact PySem.F.type_list_extend | with_reducible exact PySem.F.type_list_remove | with_reducible exact type_list_append); (case hv => exact rfl); (case hg => k_extra "getok")))
local macro_rules | `(tactic| k_extra "meth") => `(tactic| first
     | ((with_reducible show Tr _ (getMethod _ (PySem.Str.ofString "append") _) _ _); first
        | (refine' tr_getMethodL ?hl slot_list_append type_list_append ?_; (case hl => k_extra "mem"))
        | (refine' tr_getMethodI ?hl slot_list_append type_list_append ?_; (case hl => k_extra "mem"))
        | k_extra "methu")
     | ((with_reducible show Tr _ (getMethod _ (PySem.Str.ofString "pop") _) _ _); first
        | (refine' tr_getMethodI ?hl PySem.F.slot_list_pop PySem.F.type_list_pop ?_; (case hl => k_extra "mem"))
        | (refine' tr_getMethodL ?hl PySem.F.slot_list_pop PySem.F.type_list_pop ?_; (case hl => k_extra "mem")))
     | ((with_reducible show Tr _ (getMethod _ (PySem.Str.ofString "sort") _) _ _); (refine' tr_getMethodL ?hl PySem.F.slot_list_sort PySem.F.type_list_sort ?_; (case hl => k_extra "mem")))
     | ((with_reducible show Tr _ (getMethod _ (PySem.Str.ofString "copy") _) _ _); (refine' tr_getMethodD ?hl PySem.F.slot_dict_copy PySem.F.type_dict_copy ?_; (case hl => k_extra "mem")))
     | k_extra "methu")
local macro_rules | `(tactic| k_extra "callb") => `(tactic| first
  | ((with_reducible show Tr _ (call (Value.builtin "len") [Value.ref _] []) _ _); first
     | (refine' tr_lenList ?hl ?hz ?_; (case hl => k_extra "mem"); (case hz => k_extra "len"); intro _)
     | (refine' tr_lenInts ?hl ?hz ?_; (case hl => k_extra "mem"); (case hz => k_extra "len"); intro _)
     | (refine' tr_lenDom ?B ?S ?hx ?hz ?_; (case B => k_extra "B"); (case hx => k_extra "mem"); (case S => exact dsub _); (case hz => k_extra "len"); intro _))
  | ((with_reducible show Tr _ (call (Value.builtin "list.append") [Value.ref _, _] []) _ _); first
     | (refine' tr_appendI ?U ?hz ?_; (case U => k_extra "upd"); (case hz => k_extra "len"))
     | (refine' tr_append ?U ?_ ?hz; (case U => k_extra "upd"); (case hz => k_extra "len")))
  | ((with_reducible show Tr _ (call (Value.builtin "list.remove") [Value.ref _, _] []) _ _); refine' tr_remove ?B ?S ?U ?hi ?hz ?_; (case B => k_extra "B"); (case S => exact dsub _); (case U => k_extra "upd"); (case hi => assumption); (case hz => k_extra "len"))
  | ((with_reducible show Tr _ (call (Value.builtin "list.extend") [Value.ref _, _] []) _ _); refine' tr_extend ?B ?S ?U ?hb ?hz ?_; (case B => k_extra "B"); (case S => exact dsub _); (case U => k_extra "upd"); (case hb => k_extra "mem"); (case hz => k_extra "len"))
  | ((with_reducible show Tr _ (call (Value.builtin "list.pop") [Value.ref _] []) _ _); first
     | (refine' tr_popI ?U ?hz ?_; (case U => k_extra "upd"); (case hz => k_extra "len"); intro _)
     | (refine' tr_pop ?U ?hz ?_; (case U => k_extra "upd"); (case hz => k_extra "len")))
  | ((with_reducible show Tr _ (call (Value.builtin "dict.copy") [Value.ref _] []) _ _); refine' tr_dictCopy ?hd ?hz ?_; (case hd => k_extra "mem"); (case hz => k_extra "len"); intro _))
local macro_rules | `(tactic| k_extra "truthy") => `(tactic| first
  | with_reducible refine tr_truthy_bool ?_
  | with_reducible refine tr_truthyNone ?_
  | with_reducible refine tr_truthyInt ?_
  | (refine' tr_truthyInts ?hl ?hz ?_; (case hl => k_extra "mem"); (case hz => k_extra "len"))
  | (refine' tr_truthyList ?hl ?hz ?_; (case hl => k_extra "mem"); (case hz => k_extra "len"))
  | (refine' tr_truthyDom ?B ?S ?hx ?hz ?_; (case B => k_extra "B"); (case hx => k_extra "mem"); (case S => exact dsub _); (case hz => k_extra "len")))
local macro_rules | `(tactic| k_extra "cmp") => `(tactic| first
  | with_reducible refine tr_gt ?_ | with_reducible refine tr_lt ?_ | with_reducible refine tr_le ?_ | with_reducible refine tr_ge ?_ | with_reducible refine tr_eq ?_ | with_reducible refine tr_ne ?_
  | ((with_reducible show Tr _ (compareOp CmpOp.Is (Value.type _) (Value.type _)) _ _); (refine' tr_isTypes ?hp ?_; (case hp => exact rfl)))
  | (refine' tr_dictIn ?hd ?hP ?_; (case hd => k_extra "mem"); (case hP => first | exact pDict_refl | exact pDictE_dict))
  | (refine' tr_dictNotIn ?hd ?hP ?_; (case hd => k_extra "mem"); (case hP => first | exact pDict_refl | exact pDictE_dict)))
local macro_rules | `(tactic| k_extra "sub") => `(tactic| first
  | ((with_reducible show Tr _ (subscriptTail _ _ (Value.ref _) (Value.int _ _)) _ _); (refine' tr_itemTup ?ht ?a ?b ?hj ?hx ?_ ?hs; (case ht => k_extra "mem"); (case a => decide); (case b => decide); (case hj => exact rfl); (case hx => exact rfl); (case hs => exact rfl)))
  | ((with_reducible show Tr _ (subscriptTail _ (Expr.Slice none none none _) (Value.ref _) (Value.ref _)) _ _); first
     | (refine' tr_copyDom ?B ?S ?hq ?hx ?hs ?hz ?_; (case B => k_extra "B"); (case S => exact dsub _); (case hx => k_extra "mem"); (case hq => k_is); (case hs => k_extra "mem"); (case hz => k_extra "len"); intro _)
     | (refine' tr_copyList ?hx ?hs ?hz ?_; (case hx => k_extra "mem"); (case hs => k_extra "mem"); (case hz => k_extra "len"); intro _))
  | ((with_reducible show Tr _ (subscriptTail _ _ (Value.ref _) (Value.str _ _)) _ _); (refine' tr_itemDict ?hd ?hP ?hv ?_ ?hs; (case hd => k_extra "mem"); (case hs => exact rfl); (case hP => first | exact pDict_refl | exact pDictE_dict); (case hv => first | assumption | exact rfl))))
local macro_rules | `(tactic| k_extra "store") => `(tactic| first
  | (refine' tr_store ?U ?_ ?hk ?hl; (case hk => exact rfl); (case hl => exact rfl); (case U => k_extra "upd"))
  | (refine' tr_storeCell ?hc ?U ?_ ?hk ?hl; (case hk => exact rfl); (case hl => exact rfl); (case hc => exact rfl); (case U => k_extra "upd")))
local macro_rules | `(tactic| k_extra "st") => `(tactic| first
  | with_reducible refine tr_execs_cons ?_
  | with_reducible refine tr_execs_nil ?_
  | with_reducible refine Nx.next ?_
  | with_reducible refine Nx.ret ?_
  | with_reducible refine Nx.brk ?_
  | ((with_reducible show Tr _ (exec _ _) _ _); first
     | ((with_reducible show Tr _ (exec (Stmt.Expr _ _) _) _ _); refine tr_Expr ?_)
     | ((with_reducible show Tr _ (exec (Stmt.Return (some _) _) _) _ _); refine tr_Return ?_)
     | ((with_reducible show Tr _ (exec (Stmt.Return none _) _) _ _); refine tr_Return_none ?_)
     | ((with_reducible show Tr _ (exec (Stmt.If _ _ _ _) _) _ _); refine tr_If ?_)
     | ((with_reducible show Tr _ (exec (Stmt.For _ _ _ _ _) _) _ _); refine tr_For ?_)
     | ((with_reducible show Tr _ (exec (Stmt.While _ _ _ _) _) _ _); refine tr_While ?_)
     | ((with_reducible show Tr _ (exec (Stmt.Assign [Expr.Name _ _] _ _) _) _ _); refine tr_AssignName ?_)
     | ((with_reducible show Tr _ (exec (Stmt.Assign [Expr.Attribute _ _ _] _ _) _) _ _); refine tr_AssignAttr ?_)
     | ((with_reducible show Tr _ (exec (Stmt.Assign [Expr.Subscript _ _ _] _ _) _) _ _); refine tr_AssignItem ?_)
     | ((with_reducible show Tr _ (exec (Stmt.AugAssign (Expr.Name _ _) _ _ _) _) _ _); refine tr_AugAssign ?_)
     | ((with_reducible show Tr _ (exec (Stmt.Delete _ _) _) _ _); refine tr_Delete ?_)
     | ((with_reducible show Tr _ (exec (Stmt.Break _) _) _ _); refine tr_Break ?_)
     | ((with_reducible show Tr _ (exec (Stmt.Pass _) _) _ _); refine tr_Pass ?_))
  | ((with_reducible show Tr _ (eval _ _) _ _); first
     | ((with_reducible show Tr _ (eval (Expr.Name _ _) _) _ _); k_extra "name")
     | ((with_reducible show Tr _ (eval (Expr.Constant (Const.int _) _ _) _) _ _); refine tr_int fun _ => ?_)
     | ((with_reducible show Tr _ (eval (Expr.Constant (Const.bool _) _ _) _) _ _); refine tr_bool ?_)
     | ((with_reducible show Tr _ (eval (Expr.Constant Const.none _ _) _) _ _); refine tr_none ?_)
     | ((with_reducible show Tr _ (eval (Expr.Constant (Const.str _) _ _) _) _ _); refine tr_str fun _ => ?_)
     | ((with_reducible show Tr _ (eval (Expr.Call (Expr.Attribute _ _ _) _ _ _) _) _ _); refine tr_MethodCall ?_)
     | ((with_reducible show Tr _ (eval (Expr.Call _ _ _ _) _) _ _); refine tr_Call ?_)
     | ((with_reducible show Tr _ (eval (Expr.Attribute _ _ _) _) _ _); refine tr_Attribute ?_)
     | ((with_reducible show Tr _ (eval (Expr.Subscript _ _ _) _) _ _); refine tr_Subscript ?_)
     | ((with_reducible show Tr _ (eval (Expr.Slice none none none _) _) _ _); refine tr_sliceAll fun _ => ?_)
     | ((with_reducible show Tr _ (eval (Expr.Slice (some _) none none _) _) _ _); refine tr_sliceFrom ?_)
     | ((with_reducible show Tr _ (eval (Expr.BinOp _ _ _ _) _) _ _); refine tr_BinOp ?_)
     | ((with_reducible show Tr _ (eval (Expr.UnaryOp _ _ _) _) _ _); refine tr_UnaryOp ?_)
     | ((with_reducible show Tr _ (eval (Expr.Compare _ _ _ _) _) _ _); refine tr_Compare ?_)
     | ((with_reducible show Tr _ (eval (Expr.IfExp _ _ _ _) _) _ _); refine tr_IfExp ?_)
     | ((with_reducible show Tr _ (eval (Expr.BoolOp BoolOp.Or (_ :: _ :: _) _) _) _ _); refine tr_BoolOr ?_)
     | ((with_reducible show Tr _ (eval (Expr.BoolOp _ [_] _) _) _ _); refine tr_BoolOne ?_)
     | ((with_reducible show Tr _ (eval (Expr.List [] _) _) _ _); refine tr_List0 fun _ => ?_)
     | ((with_reducible show Tr _ (eval (Expr.List _ _) _) _ _); refine tr_List ?_)
     | ((with_reducible show Tr _ (eval (Expr.Tuple _ _ _) _) _ _); refine tr_Tuple ?_)
     | ((with_reducible show Tr _ (eval (Expr.Dict [] [] _) _) _ _); refine tr_Dict fun _ => ?_))
  | ((with_reducible show Tr _ (isTrue _ _ _) _ _); first
     | ((with_reducible show Tr _ (isTrue (Expr.Compare _ _ _ _) _ _) _ _); refine tr_isTrue_Compare ?_)
     | ((with_reducible show Tr _ (isTrue (Expr.UnaryOp UnaryOp.Not _ _) _ _) _ _); refine tr_isTrue_Not ?_)
     | ((with_reducible show Tr _ (isTrue (Expr.BoolOp _ _ _) _ _) _ _); refine tr_isTrue_BoolOp ?_)
     | refine tr_isTrue_value ?_)
  | ((with_reducible show Tr _ (callWith _ (Value.builtin _) _ _ _) _ _); first | refine tr_callBuiltin0 ?_ | refine tr_callBuiltin1 ?_)
  | ((with_reducible show Tr _ (callWith _ (Value.ref _) _ _ _) _ _); first
     | (refine' tr_callFn0 ?B ?hf ?_ ?p; (case B => k_extra "B"); (case hf => k_is); (case p => exact rfl))
     | (refine' tr_callFn1 ?B ?hf ?_ ?p; (case B => k_extra "B"); (case hf => k_is); (case p => exact rfl))
     | (refine' tr_callCls ?B ?hf ?_ ?p; (case B => k_extra "B"); (case hf => k_is); (case p => exact rfl)))
  | with_reducible refine tr_args_nil ?_
  | with_reducible refine noref_none ?_
  | ((with_reducible show ∀ _ : Addr, Tr _ _ _ _); intro _)
  | ((with_reducible show Tr _ (spliced (backTo _ (starEach (_ :: _) _))) _ _); refine tr_args_cons ?_)
  | ((with_reducible show Tr _ (getAttr (Value.ref _) _ _) _ _); refine' tr_getAttr ?B ?hx ?hP ?hd ?hg ?hh ?ha ?hn ?hv ?_ ?hi; (case B => k_extra "B"); (case hx => k_extra "mem"); (case hP => k_extra "isinst"); (case hd => k_extra "mem"); (case hg => k_extra "getok"); (case hh => k_is); (case ha => k_is); (case hn => k_is); (case hv => exact rfl); (case hi => exact rfl))
  | ((with_reducible show Tr _ (setAttr (Value.ref _) _ _) _ _); refine' tr_setAttr ?B ?hx ?hP ?U ?hs ?hp ?ht ?hh ?_ ?hz; (case B => k_extra "B"); (case hx => k_extra "mem"); (case hP => k_extra "isinst"); (case U => k_extra "upd"); (case hs => k_is); (case hp => k_is); (case ht => k_is); (case hh => k_is); (case hz => decide))
  | ((with_reducible show Tr _ (getMethod (Value.ref _) _ _) _ _); k_extra "meth")
  | ((with_reducible show Tr _ (call (Value.builtin _) _ _) _ _); k_extra "callb")
  | ((with_reducible show Tr _ (storeName _ _ _) _ _); k_extra "store")
  | ((with_reducible show Tr _ (loadName _ _) _ _); refine' tr_ldlocal ?hm ?hv ?_ ?a ?b; (case a => exact rfl); (case b => exact rfl); (case hm => k_extra "mem"); (case hv => k_extra "hv"))
  | ((with_reducible show Tr _ (truthy _) _ _); k_extra "truthy")
  | ((with_reducible show Tr _ (compareOp _ _ _) _ _); k_extra "cmp")
  | ((with_reducible show Tr _ (setItem (Value.ref _) (Value.str _ _) _) _ _); (refine' tr_dictSet ?U ?hz ?_; (case U => k_extra "upd"); (case hz => k_extra "len")))
  | with_reducible refine tr_add fun _ => ?_
  | with_reducible refine tr_iadd fun _ => ?_
  | with_reducible refine tr_sub fun _ => ?_
  | with_reducible refine tr_neg fun _ => ?_
  | with_reducible refine tr_not ?_
  | ((with_reducible show Tr _ (subscriptTail _ _ _ _) _ _); k_extra "sub")
  | ((with_reducible show Tr _ (delete (Expr.Subscript _ _ _) _) _ _); refine tr_delSubscript ?_)
  | ((with_reducible show Tr _ (letOwnedTupleGo (Expr.Name _ _) _ _) _ _); refine tr_letGoName ?_)
  | ((with_reducible show Tr _ (assign (Expr.Name _ _) _ _) _ _); refine tr_assignName ?_)
  | ((with_reducible show Tr _ (callWith _ (Value.type _) _ _ _) _ _); refine tr_callType ?_)
  | ((with_reducible show Tr _ (call (Value.type "zip") _ _) _ _); (refine' tr_zipNew ?h1 ?h2 ?_; (case h1 => k_extra "mem"); (case h2 => k_extra "mem"); intro _ _ _ _ _))
  | ((with_reducible show Tr _ (call (Value.type "type") [Value.int _ _] _) _ _); refine tr_typeInt ?_)
  | ((with_reducible show Tr _ (pyIter _) _ _); first
     | with_reducible refine tr_iterZip ?_
     | (refine' tr_iterInts ?hl ?_; (case hl => k_extra "mem"); intro _)
     | (refine' tr_iterList ?hl ?_; (case hl => k_extra "mem"); intro _)
     | (refine' tr_iterDom ?B ?S ?hx ?_; (case B => k_extra "B"); (case S => exact dsub _); (case hx => k_extra "mem"); intro _)))
section
theorem PdOk.congr {pdv : Value} {pb : Bool} {Zp : List Cell} {U U' : List Dm} (h : PdOk pdv pb Zp U) (e : pds U' = pds U) : PdOk pdv pb Zp U' := by
  cases h with
  | off => exact .off
  | @on pd U =>
    have : U'.isEmpty = U.isEmpty := by
      have := congrArg List.length e
      simp only [pds, List.length_map] at this
      cases U <;> cases U' <;> simp_all
    rw [← e, ← this]
    exact .on
section
variable {mg mb : Str → Option Value} {c : Cx} {X : List Cell}
theorem push_allT {env : Env} {m0 : Str → Option Value} {ctx : List (Str × Value)} {q2 q3 p1 p2 p3 p4 p5 : Pos} {kvs : List (Str × Value)} {Ds : List Dm} {pb : Bool} {pdv : Value} {Zp : List Cell} {Q : Flow → List Cell → Prop} {n : Nat}
    (B : Bs (hd.heap_39 c.w.params) c mg mb) (R : Rm (n + 3) c.A) (hpd : PdOk pdv pb Zp (uns kvs Ds)) (hsz : ∀ D ∈ Ds, D.vs.length + D.hs.length ≤ 1000 ∧ D.ss.length ≤ 1000) (hlen : Ds.length ≤ 1000)
    (hctx : ∀ p ∈ ctx, p.1 ≠ Str.ofString "domain") (hF : FrHas m0 ((Str.ofString "pushdomains", pdv) :: ctx))
    (h : ∀ m Dp L', FrHas m ((Str.ofString "pushdomains", pdv) :: ctx) → PushR kvs pb Ds Dp → Sel ((env.locals, pNs m) :: (Zp ++ (dcl Dp ++ X))) L' → Q .next L')
    {pl : Sem Bool} (hmc : eval (.Call (.Attribute (.Name "domain" p2) "pushState" p3) [] [] p4) env = (do
      let ov ← eval (.Name "domain" p2) env
      standAt p3.atName
      let (f, first) ← holding [ov] (getMethod ov "pushState" pl)
      callWith p4 f first (backTo p4 (starEach [] env)) []) := by rfl)
    (hsw : swapsWith (.Call (.Attribute (.Name "domain" p2) "pushState" p3) [] [] p4) none p5.line env = pure false := by rfl)
    (hl : env.kindOf "domain" = some .local := by rfl) (hlp : env.kindOf "pushdomains" = some .local := by rfl) (hk : env.scope.kind = .function := by rfl) (hi : interactive env = false := by rfl) :
    Tr c (truthy pdv) ((env.locals, pNs m0) :: (Zp ++ (dcl Ds ++ X))) fun b L1 => (b = true → Tr c (execs [.For (.Name "domain" p1) (.Name "pushdomains" q2) [.Expr (.Call (.Attribute (.Name "domain" p2) "pushState" p3) [] [] p4) p5] [] q3] env) L1 Q) ∧ (b = false → Tr c (execs [] env) L1 Q) := by
  have hz := sz24
  have hul : (uns kvs Ds).length ≤ 1000 := Nat.le_trans (List.length_filter_le _ _) hlen
  refine tr_truthyFw (hpd.fw hul) (fun x hx => .tail _ (List.mem_append_left _ hx)) ⟨fun hb => ?_, fun hb => ?_⟩
  · subst hb
    obtain ⟨pd, rfl, rfl⟩ := hpd.tru
    have hszU : ∀ D ∈ uns kvs Ds, D.vs.length + D.hs.length ≤ 1000 ∧ D.ss.length ≤ 1000 := fun D hD => hsz D (List.mem_filter.mp hD).1
    refine tr_execs_cons (tr_For (tr_local (.head _) (hF.get (.head _)) ?_ hk hlp (by decide)))
    refine tr_iterList (by k_extra "mem") fun it => ?_
    refine TrC.sel (split_sel (kvs := kvs) (Ds := Ds) (by k_extra "sel")) ?_
    refine' TrC.sel ?hsl2 (push_loop (n := n) B R hl hk hi hsw hmc (ctx := (Str.ofString "pushdomains", .ref pd) :: ctx) ?hctx2 hF hszU hul ?_)
    (case hsl2 => k_extra "sel")
    (case hctx2 => intro x hx; rcases List.mem_cons.mp hx with rfl | hx; (dsimp only; decide); exact hctx x hx)
    intro m2 hF2
    refine Nx.next (tr_execs_nil ?_)
    obtain ⟨Dp, hDp, hperm⟩ := merge (kvs := kvs) (R := fun D D' => D' = { D with ss := D.ss ++ [(D.vs.length : Int)] }) Ds (All2.mapR _ _ fun D _ => rfl)
    refine h m2 Dp _ hF2 (.inr ⟨rfl, hDp⟩) ?_
    refine' Sel.trans ?u2 (merge_sel hperm ?v2)
    (case u2 => k_extra "pull1")
    (case v2 => k_extra "sel")
  · exact tr_execs_nil (h m0 Ds _ hF (.inl ⟨hb, rfl⟩) Sel.refl)
theorem push_all {env : Env} {m0 : Str → Option Value} {ctx : List (Str × Value)} {q1 q2 q3 q4 p1 p2 p3 p4 p5 : Pos} {kvs : List (Str × Value)} {Ds : List Dm} {pb : Bool} {pdv : Value} {Zp : List Cell} {Q : Flow → List Cell → Prop} {n : Nat}
    (B : Bs (hd.heap_39 c.w.params) c mg mb) (R : Rm (n + 3) c.A) (hpd : PdOk pdv pb Zp (uns kvs Ds)) (hsz : ∀ D ∈ Ds, D.vs.length + D.hs.length ≤ 1000 ∧ D.ss.length ≤ 1000) (hlen : Ds.length ≤ 1000)
    (hctx : ∀ p ∈ ctx, p.1 ≠ Str.ofString "domain") (hF : FrHas m0 ((Str.ofString "pushdomains", pdv) :: ctx))
    (h : ∀ m Dp L', FrHas m ((Str.ofString "pushdomains", pdv) :: ctx) → PushR kvs pb Ds Dp → Sel ((env.locals, pNs m) :: (Zp ++ (dcl Dp ++ X))) L' → Q .next L')
    {pl : Sem Bool} (hmc : eval (.Call (.Attribute (.Name "domain" p2) "pushState" p3) [] [] p4) env = (do
      let ov ← eval (.Name "domain" p2) env
      standAt p3.atName
      let (f, first) ← holding [ov] (getMethod ov "pushState" pl)
      callWith p4 f first (backTo p4 (starEach [] env)) []) := by rfl)
    (hsw : swapsWith (.Call (.Attribute (.Name "domain" p2) "pushState" p3) [] [] p4) none p5.line env = pure false := by rfl)
    (hl : env.kindOf "domain" = some .local := by rfl) (hlp : env.kindOf "pushdomains" = some .local := by rfl) (hk : env.scope.kind = .function := by rfl) (hi : interactive env = false := by rfl) :
    Tr c (exec (.If (.Name "pushdomains" q1) [.For (.Name "domain" p1) (.Name "pushdomains" q2) [.Expr (.Call (.Attribute (.Name "domain" p2) "pushState" p3) [] [] p4) p5] [] q3] [] q4) env) ((env.locals, pNs m0) :: (Zp ++ (dcl Ds ++ X))) Q :=
  tr_If (tr_isTrue_value (tr_local (.head _) (hF.get (.head _)) (push_allT (n := n) B R hpd hsz hlen hctx hF h hmc hsw hl hlp hk hi) hk hlp (by decide)))
theorem pop_allT {env : Env} {m0 : Str → Option Value} {ctx : List (Str × Value)} {q2 q3 p1 p2 p3 p4 p5 : Pos} {kvs : List (Str × Value)} {Ds Dr : List Dm} {pb : Bool} {pdv : Value} {Zp : List Cell} {Q : Flow → List Cell → Prop} {n : Nat}
    (B : Bs (hd.heap_39 c.w.params) c mg mb) (R : Rm (n + 3) c.A) (hpd : PdOk pdv pb Zp (uns kvs Ds)) (hR : RelPb kvs pb Ds Dr) (hsz : ∀ D ∈ Ds, D.vs.length + D.hs.length ≤ 1000 ∧ D.ss.length ≤ 1000) (hlen : Ds.length ≤ 1000)
    (hctx : ∀ p ∈ ctx, p.1 ≠ Str.ofString "domain") (hF : FrHas m0 ((Str.ofString "pushdomains", pdv) :: ctx))
    (h : ∀ m Do L', FrHas m ((Str.ofString "pushdomains", pdv) :: ctx) → PermDs kvs Ds Do → Sel ((env.locals, pNs m) :: (Zp ++ (dcl Do ++ X))) L' → Q .next L')
    {pl : Sem Bool} (hmc : eval (.Call (.Attribute (.Name "domain" p2) "popState" p3) [] [] p4) env = (do
      let ov ← eval (.Name "domain" p2) env
      standAt p3.atName
      let (f, first) ← holding [ov] (getMethod ov "popState" pl)
      callWith p4 f first (backTo p4 (starEach [] env)) []) := by rfl)
    (hsw : swapsWith (.Call (.Attribute (.Name "domain" p2) "popState" p3) [] [] p4) none p5.line env = pure false := by rfl)
    (hl : env.kindOf "domain" = some .local := by rfl) (hlp : env.kindOf "pushdomains" = some .local := by rfl) (hk : env.scope.kind = .function := by rfl) (hi : interactive env = false := by rfl) :
    Tr c (truthy pdv) ((env.locals, pNs m0) :: (Zp ++ (dcl Dr ++ X))) fun b L1 => (b = true → Tr c (execs [.For (.Name "domain" p1) (.Name "pushdomains" q2) [.Expr (.Call (.Attribute (.Name "domain" p2) "popState" p3) [] [] p4) p5] [] q3] env) L1 Q) ∧ (b = false → Tr c (execs [] env) L1 Q) := by
  have hz := sz24
  have hul : (uns kvs Ds).length ≤ 1000 := Nat.le_trans (List.length_filter_le _ _) hlen
  refine tr_truthyFw (hpd.fw hul) (fun x hx => .tail _ (List.mem_append_left _ hx)) ⟨fun hb => ?_, fun hb => ?_⟩
  · subst hb
    obtain ⟨pd, rfl, rfl⟩ := hpd.tru
    have hRP : All2 (RelP kvs) Ds Dr := by
      rcases hR with ⟨z, _⟩ | ⟨_, z⟩
      · cases z
      · exact z
    obtain ⟨hFe, hUr⟩ := relP_split hRP
    have hszU : ∀ D ∈ uns kvs Ds, D.vs.length + D.hs.length ≤ 1000 ∧ D.ss.length ≤ 1000 := fun D hD => hsz D (List.mem_filter.mp hD).1
    refine tr_execs_cons (tr_For (tr_local (.head _) (hF.get (.head _)) ?_ hk hlp (by decide)))
    refine tr_iterList (by k_extra "mem") fun it => ?_
    refine TrC.sel (split_sel (kvs := kvs) (Ds := Dr) (by k_extra "sel")) ?_
    rw [hFe]
    refine' TrC.sel ?hsl2 (pop_loop (n := n) B R hl hk hi hsw hmc (ctx := (Str.ofString "pushdomains", .ref pd) :: ctx) ?hctx2 hF hszU hul hUr ?_)
    (case hsl2 => k_extra "sel")
    (case hctx2 => intro x hx; rcases List.mem_cons.mp hx with rfl | hx; (dsimp only; decide); exact hctx x hx)
    intro m2 O hF2 hO
    refine Nx.next (tr_execs_nil ?_)
    obtain ⟨Do, hDo, hperm⟩ := merge Ds hO
    have hPo : PermDs kvs Ds Do := hDo.imp fun D D' r => by
      cases z : asgd kvs D.nm with
      | true => rw [r.1 z]; exact PermD.refl D
      | false => exact ⟨(r.2 z).1, (r.2 z).2, fun y => absurd (z.symm.trans y) (by decide)⟩
    refine h m2 Do _ hF2 hPo ?_
    refine' Sel.trans ?u2 (merge_sel hperm ?v2)
    (case u2 => k_extra "pull1")
    (case v2 => k_extra "sel")
  · have hPo : PermDs kvs Ds Dr := by
      rcases hR with ⟨_, z⟩ | ⟨z, _⟩
      · exact z
      · rw [hb] at z; cases z
    exact tr_execs_nil (h m0 Dr _ hF hPo Sel.refl)
theorem pop_all {env : Env} {m0 : Str → Option Value} {ctx : List (Str × Value)} {q1 q2 q3 q4 p1 p2 p3 p4 p5 : Pos} {kvs : List (Str × Value)} {Ds Dr : List Dm} {pb : Bool} {pdv : Value} {Zp : List Cell} {Q : Flow → List Cell → Prop} {n : Nat}
    (B : Bs (hd.heap_39 c.w.params) c mg mb) (R : Rm (n + 3) c.A) (hpd : PdOk pdv pb Zp (uns kvs Ds)) (hR : RelPb kvs pb Ds Dr) (hsz : ∀ D ∈ Ds, D.vs.length + D.hs.length ≤ 1000 ∧ D.ss.length ≤ 1000) (hlen : Ds.length ≤ 1000)
    (hctx : ∀ p ∈ ctx, p.1 ≠ Str.ofString "domain") (hF : FrHas m0 ((Str.ofString "pushdomains", pdv) :: ctx))
    (h : ∀ m Do L', FrHas m ((Str.ofString "pushdomains", pdv) :: ctx) → PermDs kvs Ds Do → Sel ((env.locals, pNs m) :: (Zp ++ (dcl Do ++ X))) L' → Q .next L')
    {pl : Sem Bool} (hmc : eval (.Call (.Attribute (.Name "domain" p2) "popState" p3) [] [] p4) env = (do
      let ov ← eval (.Name "domain" p2) env
      standAt p3.atName
      let (f, first) ← holding [ov] (getMethod ov "popState" pl)
      callWith p4 f first (backTo p4 (starEach [] env)) []) := by rfl)
    (hsw : swapsWith (.Call (.Attribute (.Name "domain" p2) "popState" p3) [] [] p4) none p5.line env = pure false := by rfl)
    (hl : env.kindOf "domain" = some .local := by rfl) (hlp : env.kindOf "pushdomains" = some .local := by rfl) (hk : env.scope.kind = .function := by rfl) (hi : interactive env = false := by rfl) :
    Tr c (exec (.If (.Name "pushdomains" q1) [.For (.Name "domain" p1) (.Name "pushdomains" q2) [.Expr (.Call (.Attribute (.Name "domain" p2) "popState" p3) [] [] p4) p5] [] q3] [] q4) env) ((env.locals, pNs m0) :: (Zp ++ (dcl Dr ++ X))) Q :=
  tr_If (tr_isTrue_value (tr_local (.head _) (hF.get (.head _)) (pop_allT (n := n) B R hpd hR hsz hlen hctx hF h hmc hsw hl hlp hk hi) hk hlp (by decide)))
end
end
section
structure GenF (Pp : Params) (mg mb : Str → Option Value) (name qual : Str) (params : Arguments) (body : List Stmt) (scope : Scope) (dV kV doc pm cdv ct oc : Value) (an od : Option Addr) (osl : Array (Option Value)) : Prop where
  hlk : (hd.heap_39 Pp).lookup 169 = some ⟨oc, od, .func (fnOf name qual params body scope dV kV doc pm an cdv ct), osl⟩
  hcd : codeIn (hd.heap_39 Pp) cdv qual = true
  hb : ∀ {self dm vcd : Addr} {cons : Value}, bindArgs (fnOf name qual params body scope dV kV doc pm an cdv ct) ⟨[.ref self, .ref dm, cons, .ref vcd], []⟩ = pure [(Str.ofString "self", .ref self), (Str.ofString "domains", .ref dm), (Str.ofString "constraints", cons), (Str.ofString "vconstraints", .ref vcd)]
  hcs : ∀ m, cellsFrom (m + 1) scope.names [] = [(Str.ofString "variable", m + 4), (Str.ofString "assignments", m + 3), (Str.ofString "vconstraints", m + 2), (Str.ofString "domains", m + 1)]
  hloc : ∀ m : Nat, ∀ {self dm vcd : Addr} {cons : Value}, ∀ x ∈ [(Str.ofString "self", .ref self), (Str.ofString "domains", .ref dm), (Str.ofString "constraints", cons), (Str.ofString "vconstraints", .ref vcd)], scope.names.lookup x.1 = some .local ∨ (scope.names.lookup x.1 = some .cell ∧ (([(Str.ofString "variable", m + 4), (Str.ofString "assignments", m + 3), (Str.ofString "vconstraints", m + 2), (Str.ofString "domains", m + 1)] : List (Str × Addr)).lookup x.1).isSome = true)
  hL : ∀ {self dm vcd : Addr} {cons : Value}, bindL (fun y => scope.names.lookup y) [(Str.ofString "self", .ref self), (Str.ofString "domains", .ref dm), (Str.ofString "constraints", cons), (Str.ofString "vconstraints", .ref vcd)] (fun _ => Option.none) = (fun y => if y = Str.ofString "constraints" then some cons else if y = Str.ofString "self" then some (.ref self) else none)
  hC : ∀ {self dm vcd : Addr} {cons : Value}, bindC (fun y => scope.names.lookup y) [(Str.ofString "self", .ref self), (Str.ofString "domains", .ref dm), (Str.ofString "constraints", cons), (Str.ofString "vconstraints", .ref vcd)] (fun _ => Option.none) = (fun y => if y = Str.ofString "vconstraints" then some (.ref vcd) else if y = Str.ofString "domains" then some (.ref dm) else none)
  h1 : scope.isCoroutine = false
  h2 : scope.isGenerator = true
  h3 : scope.kind = .function
  run : ∀ {c : Cx} {A : Around} {X V : List Cell} {fwc : Bool} {k : Cn} {S a Lf self sd vl dm vcd : Addr} {g : Nat} {cons : Value} {nvs : List Value} {D₀ : List Dm} {ep : Nat}
      (hw : c.w.params = Pp) (B : Bs (hd.heap_39 c.w.params) c mg mb) (RA : Rm 50 A) (W : Rw D₀.length nvs [] D₀) (h3 : D₀.length ≤ 3) (hk : k.kind < 3) (hf1 : k.fl = none → ∀ D ∈ D₀, D.f = 1) (hne : ∀ D ∈ D₀, D.vs ≠ [])
      (hV : ∀ D ∈ D₀, (D.vc, pList [.ref D.tp]) ∈ V ∧ (D.tp, pTup [.ref k.con, .ref vl]) ∈ V),
      Sg c A (PR c S (fun acc L2 => ∃ new, acc = srefs new ∧ IsSolsP (fun g => Ext [] D₀ g ∧ SatK k.kind k.M D₀ g) (D₀.map (·.nm)) new ∧ new.length ≤ 64 ∧ Sel (scs c new ++ ((vl, pList nvs) :: (flC k.fl D₀ ++ X))) L2)) (PY c a g S) 64 (.func body (envX qual scope Lf 169 cdv (let m := Lf; [(Str.ofString "variable", m + 4), (Str.ofString "assignments", m + 3), (Str.ofString "vconstraints", m + 2), (Str.ofString "domains", m + 1)]))) [] ((model c.prog c.w).den (.func body (envX qual scope Lf 169 cdv (let m := Lf; [(Str.ofString "variable", m + 4), (Str.ofString "assignments", m + 3), (Str.ofString "vconstraints", m + 2), (Str.ofString "domains", m + 1)]))))
        ((S, pList []) :: (a, pGen g) :: (Lf, pNs (fun y => if y = Str.ofString "constraints" then some cons else if y = Str.ofString "self" then some (.ref self) else none)) :: (Lf + 4, pCel none) :: (Lf + 3, pCel none) :: (Lf + 2, pCel (some (.ref vcd))) :: (Lf + 1, pCel (some (.ref dm))) :: (self, pInst 186 sd) :: (sd, pAttr 1 (solA fwc)) :: (k.con, pInst (clsOf k.kind) k.cd) :: (k.cd, pAttr 2 (conA (attrOf k.kind) k.M k.tM (mulV k.fl))) :: (vl, pList nvs) :: (dm, pDictE c ep (dmap D₀)) :: (vcd, pDict c (vmap D₀)) :: (flC k.fl D₀ ++ (V ++ (dcl D₀ ++ X))))
theorem GenF.ex {Pp : Params} {mg mb : Str → Option Value} {name qual : Str} {params : Arguments} {body : List Stmt} {scope : Scope} {dV kV doc pm cdv ct oc : Value} {an od : Option Addr} {osl : Array (Option Value)} (h : GenF Pp mg mb name qual params body scope dV kV doc pm cdv ct oc an od osl) :
    ∃ name qual params body scope dV kV doc pm cdv ct oc an od osl, GenF Pp mg mb name qual params body scope dV kV doc pm cdv ct oc an od osl := ⟨_, _, _, _, _, _, _, _, _, _, _, _, _, _, _, h⟩
section
variable {mg mb : Str → Option Value}
theorem gen_run (Pp : Params) : ∃ name qual params body scope dV kV doc pm cdv ct oc an od osl, GenF Pp mg mb name qual params body scope dV kV doc pm cdv ct oc an od osl := by
  refine' GenF.ex (GenF.mk ?hlk ?hcd ?hb ?hcs ?hloc ?hL ?hC ?h1 ?h2 ?h3 ?run)
  (case hlk => k_is)
  (case hcd => k_is)
  (case hb => intros; exact rfl)
  (case hcs => intro _; rfl)
  (case hloc => intro m self dm vcd cons x hx; simp only [List.mem_cons, List.not_mem_nil, or_false] at hx; rcases hx with rfl | rfl | rfl | rfl <;> first | exact .inl rfl | exact .inr ⟨rfl, rfl⟩)
  (case hL => intros; exact rfl)
  (case hC => intros; exact rfl)
  (case h1 => exact rfl)
  (case h2 => exact rfl)
  (case h3 => exact rfl)
  intro c AR X V fwc k S a Lf self sd vl dm vcd g cons nvs D₀ ep hw B RA W h3 hk hf1 hne hV
  subst hw
  dsimp only
  generalize Lf + 1 = a1
  generalize Lf + 2 = a2
  generalize Lf + 3 = a3
  generalize Lf + 4 = a4
  have hz24 := sz24
  refine sgq_func fun code K H hc hret => ?_
  refine sgq_cons (m := 40) (RA.le (by omega)) .nil hc fun A1 R1 => ?_
  repeat k_extra "st"
  refine sgq_cons (m := 40) (RA.le (by omega)) .nil hc fun A1 R1 => ?_
  repeat k_extra "st"
  rename_i asg
  refine sgq_cons (m := 40) (RA.le (by omega)) .nil hc fun A1 R1 => ?_
  repeat k_extra "st"
  rename_i qa
  refine sgq_While .nil hc fun fs1 ok1 pop1 => ?_
  have hfin1 : ∀ n code' L new L2, Sel ((S, pList (srefs new)) :: L2) L → IsSolsP (fun g => Ext [] D₀ g ∧ SatK k.kind k.M D₀ g) (D₀.map (·.nm)) new → new.length ≤ 64 → Sel (scs c new ++ ((vl, pList nvs) :: (flC k.fl D₀ ++ X))) L2 → Sg c AR (PR c S (fun acc L2 => ∃ new, acc = srefs new ∧ IsSolsP (fun g => Ext [] D₀ g ∧ SatK k.kind k.M D₀ g) (D₀.map (·.nm)) new ∧ new.length ≤ 64 ∧ Sel (scs c new ++ ((vl, pList nvs) :: (flC k.fl D₀ ++ X))) L2)) (PY c a g S) n code' fs1 (.pure (.done (.ret .none))) L := fun n code' L new L2 sl e1 e2 e3 => pop1 n code' (.ret .none) L (hret n L _ L2 sl ⟨new, rfl, e1, e2, e3⟩)
  clear pop1 hret
  generalize PR c S (fun acc L2 => ∃ new, acc = srefs new ∧ IsSolsP (fun g => Ext [] D₀ g ∧ SatK k.kind k.M D₀ g) (D₀.map (·.nm)) new ∧ new.length ≤ 64 ∧ Sel (scs c new ++ ((vl, pList nvs) :: (flC k.fl D₀ ++ X))) L2) = RR at hfin1 ⊢
  refine sgq_whileLoop (m := 38) (RA.le (by omega)) ok1 (fun T L' => ∃ u kvs Ds stk new m vv, T = 4 ^ u + Phi stk u ∧ Node (Pb.mk k.kind k.M nvs D₀) u kvs Ds ∧ Chain (Pb.mk k.kind k.M nvs D₀) stk u kvs Ds ∧ new.length + T ≤ 64 ∧ IsSolsP (DoneP (Pb.mk k.kind k.M nvs D₀) stk) (D₀.map (·.nm)) new ∧ Sel ((S, pList (srefs new)) :: (a, pGen g) :: (Lf, pNs m) :: (a4, pCel vv) :: (a3, pCel (some (.ref asg))) :: (a2, pCel (some (.ref vcd))) :: (a1, pCel (some (.ref dm))) :: (qa, pList (stv stk)) :: (asg, pDict c (kvs)) :: (self, pInst 186 sd) :: (sd, pAttr 1 (solA fwc)) :: (k.con, pInst (clsOf k.kind) k.cd) :: (k.cd, pAttr 2 (conA (attrOf k.kind) k.M k.tM (mulV k.fl))) :: (vl, pList nvs) :: (dm, pDictE c ep (dmap D₀)) :: (vcd, pDict c (vmap D₀)) :: (flC k.fl D₀ ++ (V ++ (ecl stk ++ (scs c new ++ (dcl Ds ++ X)))))) L' ∧ FrHas m [(Str.ofString "forwardcheck", .bool fwc), (Str.ofString "queue", .ref qa)]) ?_ (4 ^ D₀.length) 64 _ (Nat.le_trans (Nat.pow_le_pow_right (by decide) h3) (by decide)) ?hI
  rotate_left
  · refine' ⟨D₀.length, [], D₀, [], [], _, none, by simp [Phi], ⟨W, by rw [uns_nil], by simp; omega, fun q => absurd ((missg_nil W.wf.ne).symm.trans q) (by decide), hne, All2.refl (R := SameD) (fun _ => rfl) _⟩, ⟨by omega, rfl, fun g => Iff.rfl⟩, ?hc, .nil (fun g a => a), ?hs, ?hf⟩
    (case hc => simpa using Nat.le_trans (Nat.pow_le_pow_right (by decide) h3) (show 4 ^ 3 ≤ 64 by decide))
    (case hs => rw [show srefs [] = [] from rfl, show stv [] = [] from rfl, show ecl [] = [] from rfl, show scs c [] = [] from rfl, List.nil_append, List.nil_append]; k_extra "sel")
    (case hf => k_extra "fr")
  intro code2 K2 H2 hc2 hret2 T n L' hTn hI IH A2 R2
  obtain ⟨u, kvs, Ds, stk, new, m, vv, hT, hN, hCh, hcnt, hSol, hsel, hF⟩ := hI
  refine Tr.sel hsel ?_
  clear hsel
  repeat k_extra "st"
  refine ⟨rfl, ?_⟩
  have hS := hN.same
  have hdm : dmap Ds = dmap D₀ := same_dm hS
  have hvm : vmap Ds = vmap D₀ := same_vm hS
  have hWn := hN.rw
  have hV' : ∀ D ∈ Ds, (D.vc, pList [.ref D.tp]) ∈ V ∧ (D.tp, pTup [.ref k.con, .ref vl]) ∈ V := fun D hD => by obtain ⟨E, hE, r⟩ := hS.right D hD; rw [show D.vc = E.vc by rw [r], show D.tp = E.tp by rw [r]]; exact hV E hE
  have hkl := hN.kl
  have hkz : kvs.length ≤ sizeLine := by omega
  rw [← hdm, ← hvm]
  refine sgq_cons (m := 36) (RA.le (by omega)) ok1 hc2 fun A3 R3 => ?_
  refine' tr_AssignComp ?hsw ?hclos ?hcell ?hkind ?hnames ?hs ?_
  (case hsw => with_unfolding_all rfl)
  (case hclos => with_unfolding_all rfl)
  (case hcell => decide)
  (case hkind => exact rfl)
  (case hnames => decide)
  (case hs => intro _; rfl)
  repeat k_extra "st"
  refine tr_iterDict (by k_extra "mem") fun it => ⟨it, rfl, .key (.head _), fun C Dl => ?_⟩
  refine tr_compLoop (fun n L' => ∃ A Bs ts m', Ds = A ++ Bs ∧ n = Bs.length ∧ Sel ((C, pNs m') :: (Dl, pList (refs ts.reverse)) :: (it, pKIter dm A.length (dmap Ds).length ep) :: (tcs ts ++ ((S, pList (srefs new)) :: (a, pGen g) :: (Lf, pNs m) :: (a4, pCel vv) :: (a3, pCel (some (.ref asg))) :: (a2, pCel (some (.ref vcd))) :: (a1, pCel (some (.ref dm))) :: (qa, pList (stv stk)) :: (asg, pDict c (kvs)) :: (self, pInst 186 sd) :: (sd, pAttr 1 (solA fwc)) :: (k.con, pInst (clsOf k.kind) k.cd) :: (k.cd, pAttr 2 (conA (attrOf k.kind) k.M k.tM (mulV k.fl))) :: (vl, pList nvs) :: (dm, pDictE c ep (dmap Ds)) :: (vcd, pDict c (vmap Ds)) :: (flC k.fl D₀ ++ (V ++ (ecl stk ++ (scs c new ++ (dcl Ds ++ X)))))))) L' ∧
    All2 (fun D p => ∃ i1 i2 t1 t2 t3, p.2 = [.int i1 t1, .int i2 t2, .str D.nm t3]) A ts.reverse) ?_ Ds.length ⟨[], Ds, [], _, rfl, rfl, by k_extra "sel", .nil⟩
  intro n0 L' hI
  obtain ⟨A, Bs, ts, m', hD, rfl, hsel, hA⟩ := hI
  refine Tr.sel hsel ?_
  clear hsel
  cases Bs with
  | cons D Bs =>
    have hdl := dmap_len Ds
    subst hD
    have hDm : D ∈ A ++ D :: Bs := by simp
    have hdv := dmap_find hWn.wf.nd hDm
    have hvv := vmap_find hWn.wf.nd hDm
    have hv1 := (hV' D hDm).1
    have hsz := hWn.wf.sz D hDm
    have htl : (refs ts.reverse).length ≤ sizeLine := by have := hA.len; have := hWn.wf.len; simp [refs] at *; omega
    refine tr_nextKey (k := D.nm) (v := .ref D.d) (by k_extra "upd") (by k_extra "mem") rfl (by simp [dmap]) fun t => ?_
    dsimp only
    refine Tr.sel (by k_extra "focus") ?_
    repeat k_extra "st"
    refine tr_tests_nil ⟨fun _ => ?_, fun q => (nomatch q)⟩
    repeat k_extra "st"
    refine ⟨by have := sz24; simp only [List.length_cons, List.length_nil]; omega, fun T => ?_⟩
    repeat k_extra "st"
    rename_i t1 t2
    refine' ⟨Bs.length, _, by simp, Sel.refl, A ++ [D], Bs, (T, _) :: ts, _, by simp, rfl, ?hs, ?hf⟩
    (case hs => rw [List.reverse_cons, refs_snoc, List.length_append, List.length_singleton]; k_extra "back")
    (case hf => rw [List.reverse_cons]; exact hA.app (.cons ⟨_, _, _, _, _, rfl⟩ .nil))
  | nil =>
    rw [List.append_nil] at hD
    refine tr_nextKeyEnd R3 (by k_extra "rem") (by k_extra "mem") rfl (by rw [hD]; simp [dmap]) ?_
    dsimp only
    repeat k_extra "st"
    refine ⟨m', _, by k_extra "sel", ?_⟩
    have hA := hD ▸ hA
    have hAl := hA.len
    have hts : All2 (fun D p => ∃ i1 i2 t1 t2 t3, p.2 = [.int i1 t1, .int i2 t2, .str D.nm t3]) Ds ts.reverse := hA
    repeat k_extra "st"
    refine sgq_cons (m := 36) (RA.le (by omega)) ok1 hc2 fun A4 R4 => ?_
    repeat k_extra "st"
    refine' tr_sort (rows := ts.reverse.map (·.2)) (ks := [0, 1]) ?U ?U2 ?hT ?hk ?hks ?h64 ?_
    (case U => k_extra "upd")
    (case U2 => k_extra "upd")
    (case hT => exact tupsIn_of fun p hm => by have hm := mem_tcs (List.mem_reverse.mp hm); k_extra "mem")
    (case hk => intro r hr; obtain ⟨p, hp, rfl⟩ := List.mem_map.mp hr; obtain ⟨D, _, i1, i2, t1, t2, t3, e⟩ := hts.right p hp; rw [e]; rfl)
    (case hks => intro x hx; simp at hx; omega)
    (case h64 => have := hWn.wf.len; simp [refs] at *; omega)
    obtain ⟨ts', hperm, he⟩ := srt_refs (lts (ts.reverse.map (·.2))) ts.reverse
    rw [he]
    repeat k_extra "st"
    clear hA hAl he
    have h4u : 1 ≤ 4 ^ u := Nat.one_le_pow _ _ (by decide)
    obtain ⟨n, rfl⟩ : ∃ n1, n = n1 + 1 := ⟨n - 1, by omega⟩
    have hql : (stv stk).length ≤ sizeLine := by have := hCh.len; simp [stv]; omega
    refine sgq_ForJ (m := 36) (RA.le (by omega)) ok1 hc2 (fun n' L' => ∃ u x tx rem tried kvs kvd Ds stk new m va pdv pb Zp, Try (Pb.mk k.kind k.M nvs D₀) stk u x rem tried kvs Ds ∧ (kvd = kvs ∧ rem ≠ [] ∨ ∃ w, kvd = stored kvs x w) ∧ PdOk pdv pb Zp (uns (stored kvs x .none) Ds) ∧ (rem.length * 4 ^ u + Phi stk (u + 1)) ≤ n' ∧ (rem.length * 4 ^ u + Phi stk (u + 1)) < T ∧ new.length + (rem.length * 4 ^ u + Phi stk (u + 1)) ≤ 64 ∧
      IsSolsP (TryDone (Pb.mk k.kind k.M nvs D₀) stk x tried kvs Ds) (D₀.map (·.nm)) new ∧ Sel ((va, pInts (rem)) :: (Zp ++ ((S, pList (srefs new)) :: (a, pGen g) :: (Lf, pNs m) :: (a4, pCel (some (.str x tx))) :: (a3, pCel (some (.ref asg))) :: (a2, pCel (some (.ref vcd))) :: (a1, pCel (some (.ref dm))) :: (qa, pList (stv stk)) :: (asg, pDict c (kvd)) :: (self, pInst 186 sd) :: (sd, pAttr 1 (solA fwc)) :: (k.con, pInst (clsOf k.kind) k.cd) :: (k.cd, pAttr 2 (conA (attrOf k.kind) k.M k.tM (mulV k.fl))) :: (vl, pList nvs) :: (dm, pDictE c ep (dmap D₀)) :: (vcd, pDict c (vmap D₀)) :: (flC k.fl D₀ ++ (V ++ (ecl stk ++ (scs c new ++ (dcl Ds ++ X)))))))) L' ∧ FrHas m [(Str.ofString "pushdomains", pdv), (Str.ofString "values", .ref va), (Str.ofString "forwardcheck", .bool fwc), (Str.ofString "queue", .ref qa)]) ?_ ?_
    rotate_left
    · intro A5 R5
      repeat k_extra "st"
      rename_i it2
      intro fs2 ok2 popN popR
      have hfin2 : ∀ n code' L new L2, Sel ((S, pList (srefs new)) :: L2) L → IsSolsP (fun g => Ext [] D₀ g ∧ SatK k.kind k.M D₀ g) (D₀.map (·.nm)) new → new.length ≤ 64 → Sel (scs c new ++ ((vl, pList nvs) :: (flC k.fl D₀ ++ X))) L2 → Sg c AR RR (PY c a g S) n code' fs2 (.pure (.done (.ret .none))) L :=
        fun n code' L new L2 sl e1 e2 e3 => popR n code' .none L (hret2 n .none L (hfin1 n code2 L new L2 sl e1 e2 e3))
      clear popR
      refine sgq_forLoop (m := 36) (RA.le (by omega)) ok2 (fun n' L' => ∃ Pf Sf m, ts' = Pf ++ Sf ∧ n' = Sf.length ∧ Sel ((it2, pLIter Dl Pf.length) :: (Dl, pList (refs ts')) :: (tcs ts ++ ((S, pList (srefs new)) :: (a, pGen g) :: (Lf, pNs m) :: (a4, pCel vv) :: (a3, pCel (some (.ref asg))) :: (a2, pCel (some (.ref vcd))) :: (a1, pCel (some (.ref dm))) :: (qa, pList (stv stk)) :: (asg, pDict c (kvs)) :: (self, pInst 186 sd) :: (sd, pAttr 1 (solA fwc)) :: (k.con, pInst (clsOf k.kind) k.cd) :: (k.cd, pAttr 2 (conA (attrOf k.kind) k.M k.tM (mulV k.fl))) :: (vl, pList nvs) :: (dm, pDictE c ep (dmap Ds)) :: (vcd, pDict c (vmap Ds)) :: (flC k.fl D₀ ++ (V ++ (ecl stk ++ (scs c new ++ (dcl Ds ++ X)))))))) L' ∧ FrHas m [(Str.ofString "forwardcheck", .bool fwc), (Str.ofString "queue", .ref qa)] ∧ ∀ p ∈ Pf, ∀ D ∈ Ds, ∀ i1 i2 t1 t2 t3, p.2 = [.int i1 t1, .int i2 t2, .str D.nm t3] → asgd kvs D.nm = true) ?_ ts'.length _ ?init
      rotate_left
      · refine' ⟨[], ts', _, rfl, rfl, ?hs, ?hf, fun p hp => nomatch hp⟩
        (case hs => k_extra "sel")
        (case hf => k_extra "fr")
      clear hF
      intro code3 A6 hc3 R6 n' L' hI
      obtain ⟨Pf, Sf, m, hT', rfl, hsel, hF, hP⟩ := hI
      refine Tr.sel hsel ?_
      clear hsel
      cases Sf with
      | nil =>
        rw [List.append_nil] at hT'
        subst hT'
        have hm : missg kvs Ds = false := by
          cases q : missg kvs Ds with
          | false => rfl
          | true =>
            obtain ⟨D, hD, hq⟩ := List.any_eq_true.mp q
            obtain ⟨p, hp, i1, i2, t1, t2, t3, e⟩ := hts.left D hD
            have := hP p (hperm.mem_iff.mpr hp) D hD _ _ _ _ _ e
            rw [this] at hq; cases hq
        have hu0 : u = 0 := by
          rw [← hN.un, List.length_eq_zero_iff]
          refine List.filter_eq_nil_iff.mpr fun D hD hq => ?_
          have := List.any_eq_false.mp hm D hD
          exact this hq
        subst hu0
        refine tr_nextEnd R6 (by k_extra "rem") (by k_extra "mem") pList_seq (by simp [refs]) ?_
        dsimp only
        intro code4 K4 H4 hc4 hK4
        refine sgq_yield (m := 35) (RA.le (by omega)) ok2 hc4 fun A7 R7 => ?_
        repeat k_extra "st"
        rename_i cp
        have e1 : srefs new ++ [.ref cp] = srefs (new ++ [(cp, kvs)]) := by simp [srefs]
        have e2 : scs c (new ++ [(cp, kvs)]) = scs c new ++ [(cp, pDict c kvs)] := by simp [scs]
        have hSol2 : IsSolsP (NodeDone (Pb.mk k.kind k.M nvs D₀) stk kvs Ds) (D₀.map (·.nm)) (new ++ [(cp, kvs)]) := by
          refine (hSol.app (Ok' := fun g => Ext kvs Ds g ∧ Pb.sat (Pb.mk k.kind k.M nvs D₀) g) ?_ fun g g' z z' => hCh.apart z z'.1 z'.2).congr fun g => Iff.rfl
          have := IsSolsP.one (Sat := Pb.sat (Pb.mk k.kind k.M nvs D₀)) hWn.wf.kv hm (hN.sat hm) cp
          rw [same_nms hS] at this
          exact this
        have hcnt2 : (new ++ [(cp, kvs)]).length + Phi stk 0 ≤ 64 := by rw [List.length_append, List.length_singleton]; omega
        refine' ⟨srefs new, (a, pGen g) :: (cp, pDict c kvs) :: (Lf, pNs m) :: (a4, pCel vv) :: (a3, pCel (some (.ref asg))) :: (a2, pCel (some (.ref vcd))) :: (a1, pCel (some (.ref dm))) :: (qa, pList (stv stk)) :: (asg, pDict c (kvs)) :: (self, pInst 186 sd) :: (sd, pAttr 1 (solA fwc)) :: (k.con, pInst (clsOf k.kind) k.cd) :: (k.cd, pAttr 2 (conA (attrOf k.kind) k.M k.tM (mulV k.fl))) :: (vl, pList nvs) :: (dm, pDictE c ep (dmap Ds)) :: (vcd, pDict c (vmap Ds)) :: (flC k.fl D₀ ++ (V ++ (ecl stk ++ (scs c new ++ (dcl Ds ++ X))))), by simp [srefs]; omega, .head _, ?hs, ?_⟩
        (case hs => k_extra "sel")
        rw [e1]
        refine sgq_cons (m := 35) (RA.le (by omega)) ok2 hc4 fun A8 R8 => ?_
        repeat k_extra "st"
        refine ⟨fun hb => ?_, fun hb => ?_⟩
        · have hs0 : stk = [] := by
            cases stk with
            | nil => rfl
            | cons e r => simp [stv] at hb
          subst hs0
          repeat k_extra "st"
          refine hK4 _ _ _ (hfin2 _ _ _ (new ++ [(cp, kvs)]) ((vl, pList nvs) :: (flC k.fl D₀ ++ (scs c new ++ ((cp, pDict c kvs) :: X)))) (by k_extra "sel") (hSol2.congr fun g => ?_) (by omega) (by rw [e2, List.append_assoc]; k_extra "sel"))
          obtain ⟨_, rfl, hE⟩ := hCh
          show _ ↔ (False ∨ (Ext [] Ds g ∧ SatK k.kind k.M D₀ g))
          rw [hE g]
          exact ⟨.inr, fun q => q.resolve_left id⟩
        · cases stk with
          | nil => simp [stv] at hb
          | cons e rest =>
            obtain ⟨hNe, hfe, hke, _, hRe, hpe, _, _⟩ := id hCh
            have hsz : ∀ D ∈ e.Ds, D.vs.length + D.hs.length ≤ 1000 ∧ D.ss.length ≤ 1000 := fun D hD => ⟨hNe.rw.wf.sz D hD, by have := hNe.rw.hss D hD; omega⟩
            have hlen : e.Ds.length ≤ 1000 := by have := hNe.rw.wf.len; omega
            rw [stv_cons, ecl_cons, List.cons_append, List.cons_append, List.append_assoc e.Zp]
            have hq2 : (stv rest).length + 1 ≤ sizeLine := by have := hCh.len; simp [stv] at *; omega
            repeat k_extra "st"
            refine sgq_cons (m := 35) (RA.le (by omega)) ok2 hc4 fun A9 R9 => ?_
            refine tr_AssignTup ?_
            repeat k_extra "st"
            refine tr_Tup3 R9 (by k_extra "mem") ?_
            repeat k_extra "st"
            refine sgq_cons (m := 35) (RA.le (by omega)) ok2 hc4 fun A9 R9 => ?_
            refine' Tr.sel ?hsl (pop_all (n := 30) (kvs := kvs) (Ds := e.Ds) (Dr := Ds) (ctx := [(Str.ofString "values", .ref e.va), (Str.ofString "forwardcheck", .bool fwc), (Str.ofString "queue", .ref qa)]) (Bs.wA B _) (R9.le (by omega)) hpe hRe hsz hlen ?hctx ?hF2 ?_)
            (case hsl => k_extra "sel")
            (case hctx => intro x hx; simp only [List.mem_cons, List.not_mem_nil, or_false] at hx; rcases hx with rfl | rfl | rfl <;> (dsimp only; decide))
            (case hF2 => k_extra "fr")
            intro m2 Do L' hF2 hpo hsel
            refine Nx.next (sg_nil (hK4 _ _ _ (popN _ _ _ ?_)))
            obtain ⟨hTry, hDone⟩ := hCh.toTry hpo
            have hpk : PdOk e.pdv e.pb e.Zp (uns (stored e.kvs e.nm .none) Do) := hpe.congr (by rw [pds_uns hpo, hke, uns_val hfe])
            have hPhi : Phi (e :: rest) 0 = e.rem.length * 4 ^ 0 + Phi rest (0 + 1) := rfl
            refine' ⟨0, e.nm, e.tn, e.rem, e.tried ++ [e.v], e.kvs, kvs, Do, rest, new ++ [(cp, kvs)], m2, e.va, e.pdv, e.pb, e.Zp, hTry, .inr ⟨_, hke⟩, hpk, by omega, by omega, by omega, hSol2.congr fun g => (hDone g), ?hs, hF2⟩
            (case hs => rw [e2, ← hdm, ← hvm]; refine Sel.trans ?_ hsel; rw [List.append_assoc (scs c new)]; k_extra "sel")
      | cons p Sf =>
        have hpm : p ∈ ts.reverse := hperm.mem_iff.mp (by rw [hT']; simp)
        obtain ⟨Dx, hDx, i1, i2, t1, t2, t3, e⟩ := hts.right p hpm
        have hm := mem_tcs (List.mem_reverse.mp hpm)
        rw [e] at hm
        refine tr_nextItem (by k_extra "upd") (by k_extra "mem") pList_seq (v := .ref p.1) (by rw [hT']; simp [refs]) ?_
        dsimp only
        repeat k_extra "st"
        refine ⟨fun hu => ?_, fun hu => ?_⟩
        rotate_left
        · have hu' : asgd kvs Dx.nm = true := by simpa [asgd] using hu
          repeat k_extra "st"
          refine' ⟨Sf.length, _, by simp, Sel.refl, Pf ++ [p], Sf, _, by simp [hT'], rfl, ?hs, ?hf, ?hq⟩
          (case hs => rw [List.length_append, List.length_singleton]; k_extra "sel")
          (case hf => k_extra "fr")
          (case hq => intro q hq D hD j1 j2 s1 s2 s3 e'; rcases List.mem_append.mp hq with hq | hq; exact hP q hq D hD _ _ _ _ _ e'; rw [List.mem_singleton.mp hq, e] at e'; simp at e'; rw [← e'.2.2.1]; exact hu')
        have hu' : asgd kvs Dx.nm = false := by simpa [asgd] using hu
        clear hP
        have hdv0 := dmap_find hWn.wf.nd hDx
        have hasgx : ∀ y w, asgd (stored kvs Dx.nm w) y = (decide (y = Dx.nm) || asgd kvs y) := fun y w => asgd_stored hu'
        obtain ⟨A0, B0, hDs⟩ := List.append_of_mem hDx
        have hzx : Dx.vs.length ≤ sizeLine := by have := hWn.wf.sz Dx hDx; omega
        rw [show dcl Ds = dcl (A0 ++ Dx :: B0) from by rw [← hDs]]
        refine Tr.sel (by k_extra "focus") ?_
        repeat k_extra "st"
        rename_i va
        refine join2 (J := fun L' => ∃ m pdv pb Zp, PdOk pdv pb Zp (uns (stored kvs Dx.nm .none) Ds) ∧ Sel (Zp ++ ((va, pInts Dx.vs) :: ((S, pList (srefs new)) :: (a, pGen g) :: (Lf, pNs m) :: (a4, pCel (some (.str Dx.nm t3))) :: (a3, pCel (some (.ref asg))) :: (a2, pCel (some (.ref vcd))) :: (a1, pCel (some (.ref dm))) :: (qa, pList (stv stk)) :: (asg, pDict c (kvs)) :: (self, pInst 186 sd) :: (sd, pAttr 1 (solA fwc)) :: (k.con, pInst (clsOf k.kind) k.cd) :: (k.cd, pAttr 2 (conA (attrOf k.kind) k.M k.tM (mulV k.fl))) :: (vl, pList nvs) :: (dm, pDictE c ep (dmap Ds)) :: (vcd, pDict c (vmap Ds)) :: (flC k.fl D₀ ++ (V ++ (ecl stk ++ (scs c new ++ (dcl Ds ++ X)))))))) L' ∧ FrHas m [(Str.ofString "pushdomains", pdv), (Str.ofString "values", .ref va), (Str.ofString "forwardcheck", .bool fwc), (Str.ofString "queue", .ref qa)]) ?_ ?_ ?_
        rotate_left
        · intro hfc
          refine Tr.sel (L' := (va, pInts Dx.vs) :: ((S, pList (srefs new)) :: (a, pGen g) :: (Lf, pNs _) :: (a4, pCel (some (.str Dx.nm t3))) :: (a3, pCel (some (.ref asg))) :: (a2, pCel (some (.ref vcd))) :: (a1, pCel (some (.ref dm))) :: (qa, pList (stv stk)) :: (asg, pDict c (kvs)) :: (self, pInst 186 sd) :: (sd, pAttr 1 (solA fwc)) :: (k.con, pInst (clsOf k.kind) k.cd) :: (k.cd, pAttr 2 (conA (attrOf k.kind) k.M k.tM (mulV k.fl))) :: (vl, pList nvs) :: (dm, pDictE c ep (dmap Ds)) :: (vcd, pDict c (vmap Ds)) :: (flC k.fl D₀ ++ (V ++ (ecl stk ++ (scs c new ++ (dcl Ds ++ X))))))) (by rw [show dcl Ds = dcl (A0 ++ Dx :: B0) from by rw [← hDs]]; k_extra "back") ?_
          repeat k_extra "st"
          refine' tr_AssignComp ?hsw ?hclos ?hcell ?hkind ?hnames ?hs ?_
          (case hsw => with_unfolding_all rfl)
          (case hclos => with_unfolding_all rfl)
          (case hcell => decide)
          (case hkind => exact rfl)
          (case hnames => decide)
          (case hs => intro _; rfl)
          repeat k_extra "st"
          refine tr_iterDict (by k_extra "mem") fun it3 => ⟨it3, rfl, .key (.head _), fun C2 Dl2 => ?_⟩
          refine tr_compLoop (fun n L' => ∃ A Bs m mm, Ds = A ++ Bs ∧ n = Bs.length ∧ Sel ((C2, pNs m) :: (Dl2, pList (pds (uns (stored kvs Dx.nm .none) A))) :: (it3, pKIter dm A.length (dmap Ds).length ep) :: (va, pInts Dx.vs) :: ((S, pList (srefs new)) :: (a, pGen g) :: (Lf, pNs mm) :: (a4, pCel (some (.str Dx.nm t3))) :: (a3, pCel (some (.ref asg))) :: (a2, pCel (some (.ref vcd))) :: (a1, pCel (some (.ref dm))) :: (qa, pList (stv stk)) :: (asg, pDict c (kvs)) :: (self, pInst 186 sd) :: (sd, pAttr 1 (solA fwc)) :: (k.con, pInst (clsOf k.kind) k.cd) :: (k.cd, pAttr 2 (conA (attrOf k.kind) k.M k.tM (mulV k.fl))) :: (vl, pList nvs) :: (dm, pDictE c ep (dmap Ds)) :: (vcd, pDict c (vmap Ds)) :: (flC k.fl D₀ ++ (V ++ (ecl stk ++ (scs c new ++ (dcl Ds ++ X))))))) L' ∧ FrHas mm [(Str.ofString "values", .ref va), (Str.ofString "forwardcheck", .bool fwc), (Str.ofString "queue", .ref qa)]) ?_ Ds.length ?init2
          rotate_left
          · refine' ⟨[], Ds, _, _, rfl, rfl, ?hs, ?hf⟩
            (case hs => k_extra "sel")
            (case hf => k_extra "fr")
          intro n0 L' hI
          obtain ⟨A1, Bs, m, mm, hD1, rfl, hsel, hF2⟩ := hI
          refine Tr.sel hsel ?_
          clear hsel
          cases Bs with
          | cons D Bs =>
            have hDm : D ∈ Ds := by simp [hD1]
            have hdv := dmap_find hWn.wf.nd hDm
            have hpl : (pds (uns (stored kvs Dx.nm .none) A1)).length ≤ sizeLine := by have := List.length_filter_le (fun D => !asgd (stored kvs Dx.nm .none) D.nm) A1; have := hWn.wf.len; rw [hD1] at this; simp [pds, uns] at *; omega
            refine tr_nextKey (k := D.nm) (v := .ref D.d) (by k_extra "upd") (by k_extra "mem") rfl (by rw [hD1]; simp [dmap]) fun t => ?_
            dsimp only
            repeat k_extra "st"
            refine tr_tests_one ?_
            repeat k_extra "st"
            refine tr_And_cons ?_
            repeat k_extra "st"
            have hno : asgd (stored kvs Dx.nm .none) D.nm = true → ∀ X, pds (uns (stored kvs Dx.nm .none) (A1 ++ [D])) ++ X = pds (uns (stored kvs Dx.nm .none) A1) ++ X := fun ha' X => by simp [pds, uns, ha']
            refine ⟨fun ha => ⟨fun q => (nomatch q), fun _ => ?_⟩, fun ha => ?_⟩
            · have ha' : asgd kvs D.nm = true := by simpa [asgd] using ha
              refine' ⟨Bs.length, _, by simp, Sel.refl, A1 ++ [D], Bs, _, _, by simp [hD1], rfl, ?hs, hF2⟩
              (case hs => rw [List.length_append, List.length_singleton, show pds (uns (stored kvs Dx.nm .none) (A1 ++ [D])) = pds (uns (stored kvs Dx.nm .none) A1) by simp [pds, uns, hasgx, ha']]; k_extra "sel")
            · have ha' : asgd kvs D.nm = false := by simpa [asgd] using ha
              refine tr_And_cons ?_
              repeat k_extra "st"
              refine tr_neStr ?_
              repeat k_extra "st"
              refine ⟨fun hb => ⟨fun q => (nomatch q), fun _ => ?_⟩, fun hb => tr_And_nil ⟨fun _ => ?_, fun q => (nomatch q)⟩⟩
              · have hb' : D.nm = Dx.nm := by simpa using hb
                refine' ⟨Bs.length, _, by simp, Sel.refl, A1 ++ [D], Bs, _, _, by simp [hD1], rfl, ?hs, hF2⟩
                (case hs => rw [List.length_append, List.length_singleton, show pds (uns (stored kvs Dx.nm .none) (A1 ++ [D])) = pds (uns (stored kvs Dx.nm .none) A1) by simp [pds, uns, hasgx, hb']]; k_extra "sel")
              · have hb' : ¬ D.nm = Dx.nm := by simpa using hb
                repeat k_extra "st"
                refine' ⟨Bs.length, _, by simp, Sel.refl, A1 ++ [D], Bs, _, _, by simp [hD1], rfl, ?hs, hF2⟩
                (case hs => rw [List.length_append, List.length_singleton, show pds (uns (stored kvs Dx.nm .none) (A1 ++ [D])) = pds (uns (stored kvs Dx.nm .none) A1) ++ [.ref D.d] by simp [pds, uns, hasgx, ha', hb']]; k_extra "sel")
          | nil =>
            rw [List.append_nil] at hD1
            refine tr_nextKeyEnd R6 (by k_extra "rem") (by k_extra "mem") rfl (by rw [hD1]; simp [dmap]) ?_
            dsimp only
            repeat k_extra "st"
            rw [← hD1]
            refine ⟨m, _, by k_extra "sel", ?_⟩
            repeat k_extra "st"
            refine' ⟨_, .ref Dl2, _, _, .on, ?hs, ?hf⟩
            (case hs => k_extra "sel")
            (case hf => k_extra "fr")
        · intro hfc
          repeat k_extra "st"
          refine' ⟨_, .none, _, _, .off, ?hs, ?hf⟩
          (case hs => rw [List.nil_append, show dcl Ds = dcl (A0 ++ Dx :: B0) from by rw [← hDs]]; k_extra "back")
          (case hf => k_extra "fr")
        rintro L' ⟨m2, pdv, pb, Zp, hpd, hsel, hF2⟩
        refine Tr.sel hsel ?_
        clear hsel
        repeat k_extra "st"
        refine popN _ _ _ ?_
        obtain ⟨u, rfl⟩ : ∃ u', u = u' + 1 := ⟨u - 1, by have : 0 < (uns kvs Ds).length := List.length_pos_of_mem (List.mem_filter.mpr ⟨hDx, by rw [hu']; rfl⟩); have := hN.un; omega⟩
        obtain ⟨hTry, hDone⟩ := hN.toTry hCh hDx hu'
        have h3x := hWn.h3 Dx hDx
        have h4 : 4 ^ (u + 1) = 4 * 4 ^ u := by rw [Nat.pow_succ]; omega
        have h41 : 1 ≤ 4 ^ u := Nat.one_le_pow _ _ (by decide)
        have h3v : Dx.vs.length * 4 ^ u ≤ 3 * 4 ^ u := Nat.mul_le_mul_right _ h3x
        refine' ⟨u, Dx.nm, t3, Dx.vs, [], kvs, kvs, Ds, stk, new, m2, va, pdv, pb, Zp, hTry, .inl ⟨rfl, hN.ne Dx hDx⟩, hpd, by omega, by omega, by omega, hSol.congr hDone, ?hs, hF2⟩
        (case hs => rw [← hdm, ← hvm]; k_extra "sel")
    · clear hts hperm hql hSol hcnt hCh hN hWn hkl hkz hV' hS hdm hvm hT
      rintro n' L' ⟨u, x, tx, rem, tried, kvs, kvd, Ds, stk, new, m, va, pdv, pb, Zp, hTry, hkd, hpd, hn', hlt, hcnt, hSol, hsel, hF⟩
      refine Sg.sel hsel ?_
      clear hsel
      refine sgq_cons (m := 36) (RA.le (by omega)) ok1 hc2 fun A4 R4 => ?_
      refine Tr.cut (J := fun L' => ∃ u x tx rem v tv tried kvs Ds stk new m va pdv pb Zp Dp Dc, Try (Pb.mk k.kind k.M nvs D₀) stk u x (rem ++ [v]) tried kvs Ds ∧ PushR (stored kvs x (.int v tv)) pb Ds Dp ∧ CRes (SatK k.kind k.M Dp) (stored kvs x (.int v tv)) pb Dp true Dc ∧ PdOk pdv pb Zp (uns (stored kvs x (.int v tv)) Ds) ∧ 4 ^ u + Phi (En.mk x tx v tv rem tried kvs Ds pb pdv Zp va 0 :: stk) u ≤ n' ∧ 4 ^ u + Phi (En.mk x tx v tv rem tried kvs Ds pb pdv Zp va 0 :: stk) u < T ∧ new.length + (4 ^ u + Phi (En.mk x tx v tv rem tried kvs Ds pb pdv Zp va 0 :: stk) u) ≤ 64 ∧
      IsSolsP (TryDone (Pb.mk k.kind k.M nvs D₀) stk x tried kvs Ds) (D₀.map (·.nm)) new ∧ Sel ((va, pInts (rem)) :: (Zp ++ ((S, pList (srefs new)) :: (a, pGen g) :: (Lf, pNs m) :: (a4, pCel (some (.str x tx))) :: (a3, pCel (some (.ref asg))) :: (a2, pCel (some (.ref vcd))) :: (a1, pCel (some (.ref dm))) :: (qa, pList (stv stk)) :: (asg, pDict c (stored kvs x (.int v tv))) :: (self, pInst 186 sd) :: (sd, pAttr 1 (solA fwc)) :: (k.con, pInst (clsOf k.kind) k.cd) :: (k.cd, pAttr 2 (conA (attrOf k.kind) k.M k.tM (mulV k.fl))) :: (vl, pList nvs) :: (dm, pDictE c ep (dmap D₀)) :: (vcd, pDict c (vmap D₀)) :: (flC k.fl D₀ ++ (V ++ (ecl stk ++ (scs c new ++ (dcl Dc ++ X)))))))) L' ∧ FrHas m [(Str.ofString "pushdomains", pdv), (Str.ofString "values", .ref va), (Str.ofString "forwardcheck", .bool fwc), (Str.ofString "queue", .ref qa)]) ?_ ?_
      rotate_left
      · repeat k_extra "st"
        refine tr_whileLoop (fun k0 L' => ∃ u x tx rem tried kvs kvd Ds stk new m va pdv pb Zp, Try (Pb.mk k.kind k.M nvs D₀) stk u x rem tried kvs Ds ∧ (kvd = kvs ∧ rem ≠ [] ∨ ∃ w, kvd = stored kvs x w) ∧ PdOk pdv pb Zp (uns (stored kvs x .none) Ds) ∧ k0 = (rem.length * 4 ^ u + Phi stk (u + 1)) ∧ (rem.length * 4 ^ u + Phi stk (u + 1)) ≤ n' ∧ (rem.length * 4 ^ u + Phi stk (u + 1)) < T ∧ new.length + (rem.length * 4 ^ u + Phi stk (u + 1)) ≤ 64 ∧
      IsSolsP (TryDone (Pb.mk k.kind k.M nvs D₀) stk x tried kvs Ds) (D₀.map (·.nm)) new ∧ Sel ((va, pInts (rem)) :: (Zp ++ ((S, pList (srefs new)) :: (a, pGen g) :: (Lf, pNs m) :: (a4, pCel (some (.str x tx))) :: (a3, pCel (some (.ref asg))) :: (a2, pCel (some (.ref vcd))) :: (a1, pCel (some (.ref dm))) :: (qa, pList (stv stk)) :: (asg, pDict c (kvd)) :: (self, pInst 186 sd) :: (sd, pAttr 1 (solA fwc)) :: (k.con, pInst (clsOf k.kind) k.cd) :: (k.cd, pAttr 2 (conA (attrOf k.kind) k.M k.tM (mulV k.fl))) :: (vl, pList nvs) :: (dm, pDictE c ep (dmap D₀)) :: (vcd, pDict c (vmap D₀)) :: (flC k.fl D₀ ++ (V ++ (ecl stk ++ (scs c new ++ (dcl Ds ++ X)))))))) L' ∧ FrHas m [(Str.ofString "pushdomains", pdv), (Str.ofString "values", .ref va), (Str.ofString "forwardcheck", .bool fwc), (Str.ofString "queue", .ref qa)]) ?_ (rem.length * 4 ^ u + Phi stk (u + 1)) ⟨u, x, tx, rem, tried, kvs, kvd, Ds, stk, new, m, va, pdv, pb, Zp, hTry, hkd, hpd, rfl, hn', hlt, hcnt, hSol, by k_extra "sel", hF⟩
        clear hTry hkd hpd hn' hlt hcnt hSol hF
        intro k0 L' hI
        obtain ⟨u, x, tx, rem, tried, kvs, kvd, Ds, stk, new, m, va, pdv, pb, Zp, hTry, hkd, hpd, hk0, hn', hlt, hcnt, hSol, hsel, hF⟩ := hI
        refine Tr.sel hsel ?_
        clear hsel
        have hrz : rem.length ≤ sizeLine := by
          obtain ⟨D, hD, _, hv⟩ := hTry.dom
          have := hv.length_eq
          have := hTry.node.rw.h3 D hD
          rw [List.length_append] at *
          omega
        repeat k_extra "st"
        refine ⟨fun _ => ?_, fun q => (nomatch q)⟩
        repeat k_extra "st"
        refine join2 (J := fun L' => ∃ u x tx rem tried kvs kvd Ds stk new m va pdv pb Zp, Try (Pb.mk k.kind k.M nvs D₀) stk u x rem tried kvs Ds ∧ (kvd = kvs ∧ rem ≠ [] ∨ ∃ w, kvd = stored kvs x w) ∧ PdOk pdv pb Zp (uns (stored kvs x .none) Ds) ∧ (rem.length * 4 ^ u + Phi stk (u + 1)) ≤ k0 ∧ rem ≠ [] ∧ new.length + (rem.length * 4 ^ u + Phi stk (u + 1)) ≤ 64 ∧
      IsSolsP (TryDone (Pb.mk k.kind k.M nvs D₀) stk x tried kvs Ds) (D₀.map (·.nm)) new ∧ Sel ((va, pInts (rem)) :: (Zp ++ ((S, pList (srefs new)) :: (a, pGen g) :: (Lf, pNs m) :: (a4, pCel (some (.str x tx))) :: (a3, pCel (some (.ref asg))) :: (a2, pCel (some (.ref vcd))) :: (a1, pCel (some (.ref dm))) :: (qa, pList (stv stk)) :: (asg, pDict c (kvd)) :: (self, pInst 186 sd) :: (sd, pAttr 1 (solA fwc)) :: (k.con, pInst (clsOf k.kind) k.cd) :: (k.cd, pAttr 2 (conA (attrOf k.kind) k.M k.tM (mulV k.fl))) :: (vl, pList nvs) :: (dm, pDictE c ep (dmap D₀)) :: (vcd, pDict c (vmap D₀)) :: (flC k.fl D₀ ++ (V ++ (ecl stk ++ (scs c new ++ (dcl Ds ++ X)))))))) L' ∧ FrHas m [(Str.ofString "pushdomains", pdv), (Str.ofString "values", .ref va), (Str.ofString "forwardcheck", .bool fwc), (Str.ofString "queue", .ref qa)]) ?_ ?_ ?_
        rotate_left
        · intro hb
          have hr : rem = [] := by simpa using hb
          subst hr
          obtain ⟨w, rfl⟩ : ∃ w, kvd = stored kvs x w := hkd.resolve_left (fun q => q.2 rfl)
          have hfree := hTry.free
          have hklx := hTry.node.kl
          have hph0 : Phi stk (u + 1) ≤ k0 := by simp only [List.length_nil, Nat.zero_mul, Nat.zero_add] at hk0; omega
          have hcnt0 : new.length + Phi stk (u + 1) ≤ 64 := by simp only [List.length_nil, Nat.zero_mul, Nat.zero_add] at hcnt; exact hcnt
          repeat k_extra "st"
          refine' tr_dictDel ?U ?hz ?hk ?_
          (case U => k_extra "upd")
          (case hz => rw [stored_len hfree]; omega)
          (case hk => show asgd (stored kvs x w) x = true; rw [asgd_stored hfree]; simp)
          rw [without_stored hfree]
          repeat k_extra "st"
          refine tr_whileLoop (fun k2 L' => ∃ u kvs Ds stk new m vv, k2 = stk.length ∧ Chain (Pb.mk k.kind k.M nvs D₀) stk u kvs Ds ∧ Phi stk u ≤ k0 ∧ new.length + Phi stk u ≤ 64 ∧ IsSolsP (NodeDone (Pb.mk k.kind k.M nvs D₀) stk kvs Ds) (D₀.map (·.nm)) new ∧ Sel ((S, pList (srefs new)) :: (a, pGen g) :: (Lf, pNs m) :: (a4, pCel vv) :: (a3, pCel (some (.ref asg))) :: (a2, pCel (some (.ref vcd))) :: (a1, pCel (some (.ref dm))) :: (qa, pList (stv stk)) :: (asg, pDict c (kvs)) :: (self, pInst 186 sd) :: (sd, pAttr 1 (solA fwc)) :: (k.con, pInst (clsOf k.kind) k.cd) :: (k.cd, pAttr 2 (conA (attrOf k.kind) k.M k.tM (mulV k.fl))) :: (vl, pList nvs) :: (dm, pDictE c ep (dmap D₀)) :: (vcd, pDict c (vmap D₀)) :: (flC k.fl D₀ ++ (V ++ (ecl stk ++ (scs c new ++ (dcl Ds ++ X)))))) L' ∧ FrHas m [(Str.ofString "forwardcheck", .bool fwc), (Str.ofString "queue", .ref qa)]) ?_ stk.length ⟨u + 1, kvs, Ds, stk, new, m, some (.str x tx), rfl, hTry.chain, hph0, hcnt0, hSol.congr (fun g => (hTry.done g).symm), by k_extra "sel", by k_extra "fr"⟩
          clear hTry hpd hcnt hSol hF hph0 hcnt0 hfree hklx hrz hb hkd
          intro k2 L' hI
          obtain ⟨u, kvs, Ds, stk, new, m, vv, rfl, hCh, hph, hcnt, hSol, hsel, hF⟩ := hI
          refine Tr.sel hsel ?_
          clear hsel
          have hql : (stv stk).length ≤ sizeLine := by have := hCh.len; simp [stv]; omega
          repeat k_extra "st"
          refine ⟨fun hb => ?_, fun hb => ?_⟩
          · cases stk with
            | nil => simp [stv] at hb
            | cons e rest =>
              obtain ⟨hNe, hfe, hke, hdom, hRe, hpe, _, hCr⟩ := id hCh
              have hsz : ∀ D ∈ e.Ds, D.vs.length + D.hs.length ≤ 1000 ∧ D.ss.length ≤ 1000 := fun D hD => ⟨hNe.rw.wf.sz D hD, by have := hNe.rw.hss D hD; omega⟩
              have hlen : e.Ds.length ≤ 1000 := by have := hNe.rw.wf.len; omega
              have herz : e.rem.length ≤ sizeLine := by
                obtain ⟨D, hD, _, hv⟩ := hdom
                have := hv.length_eq
                have := hNe.rw.h3 D hD
                simp only [List.length_append, List.length_cons] at *
                omega
              have hkz : kvs.length ≤ sizeLine := by rw [hke, stored_len hfe]; have := hNe.kl; omega
              rw [stv_cons, ecl_cons, List.cons_append, List.cons_append, List.append_assoc e.Zp]
              have hq2 : (stv rest).length + 1 ≤ sizeLine := by have := hCh.len; simp [stv] at *; omega
              repeat k_extra "st"
              refine tr_AssignTup ?_
              repeat k_extra "st"
              refine tr_Tup3 R4 (by k_extra "mem") ?_
              repeat k_extra "st"
              refine' Tr.sel ?hsl (pop_allT (n := 30) (kvs := kvs) (Ds := e.Ds) (Dr := Ds) (ctx := [(Str.ofString "values", .ref e.va), (Str.ofString "forwardcheck", .bool fwc), (Str.ofString "queue", .ref qa)]) (Bs.wA B _) (R4.le (by omega)) hpe hRe hsz hlen ?hctx ?hF2 ?_)
              (case hsl => k_extra "sel")
              (case hctx => intro x hx; simp only [List.mem_cons, List.not_mem_nil, or_false] at hx; rcases hx with rfl | rfl | rfl <;> (dsimp only; decide))
              (case hF2 => k_extra "fr")
              intro m2 Do L' hF2 hpo hsel
              refine Nx.next (Tr.sel hsel ?_)
              clear hsel
              obtain ⟨hTry, hDone⟩ := hCh.toTry hpo
              have hpk : PdOk e.pdv e.pb e.Zp (uns (stored e.kvs e.nm .none) Do) := hpe.congr (by rw [pds_uns hpo, hke, uns_val hfe])
              have hPhi : Phi (e :: rest) u = e.rem.length * 4 ^ u + Phi rest (u + 1) := rfl
              repeat k_extra "st"
              refine ⟨fun hb => ?_, fun hb => ?_⟩
              · have hr : e.rem ≠ [] := by simpa using hb
                repeat k_extra "st"
                exact ⟨u, e.nm, e.tn, e.rem, e.tried ++ [e.v], e.kvs, kvs, Do, rest, new, m2, e.va, e.pdv, e.pb, e.Zp, hTry, .inr ⟨_, hke⟩, hpk, by omega, hr, by omega, hSol.congr hDone, by k_extra "sel", hF2⟩
              · have hr : e.rem = [] := by simpa using hb
                rw [hr] at hTry hPhi
                simp only [List.length_nil, Nat.zero_mul, Nat.zero_add] at hPhi
                repeat k_extra "st"
                refine' tr_dictDel ?U ?hz ?hk ?_
                (case U => k_extra "upd")
                (case hz => exact hkz)
                (case hk => show asgd kvs e.nm = true; rw [hke, asgd_stored hfe]; simp)
                rw [show without kvs e.nm = e.kvs from by rw [hke]; exact without_stored hfe]
                repeat k_extra "st"
                refine ⟨rest.length, _, by simp, Sel.refl, u + 1, e.kvs, Do, rest, new, m2, some (.str e.nm e.tn), rfl, hTry.chain, by omega, by omega, hSol.congr fun g => (hTry.done g).symm.trans (hDone g), by k_extra "sel", by k_extra "fr"⟩
          · have hs0 : stk = [] := by
              cases stk with
              | nil => rfl
              | cons e r => simp [stv] at hb
            subst hs0
            repeat k_extra "st"
            refine hret2 _ _ _ (hfin1 _ _ _ new ((vl, pList nvs) :: (flC k.fl D₀ ++ (scs c new ++ X))) (by k_extra "sel") (hSol.congr fun g => ?_) (by omega) (by k_extra "sel"))
            obtain ⟨_, rfl, hE⟩ := hCh
            show _ ↔ (False ∨ (Ext [] Ds g ∧ SatK k.kind k.M D₀ g))
            rw [hE g]
            exact ⟨.inr, fun q => q.resolve_left id⟩
        · intro hb
          have hr : rem ≠ [] := by simpa using hb
          repeat k_extra "st"
          exact ⟨u, x, tx, rem, tried, kvs, kvd, Ds, stk, new, m, va, pdv, pb, Zp, hTry, hkd, hpd, by omega, hr, hcnt, hSol, by k_extra "sel", by k_extra "fr"⟩
        have hkn : k0 ≤ n' := by omega
        have hkT : k0 < T := by omega
        clear hTry hkd hpd hcnt hSol hF hrz hn' hlt hk0
        rintro L' ⟨u, x, tx, rem, tried, kvs, kvd, Ds, stk, new, m, va, pdv, pb, Zp, hTry, hkd, hpd, hk1, hr, hcnt, hSol, hsel, hF⟩
        refine Tr.sel hsel ?_
        clear hsel
        obtain ⟨rem, v, rfl⟩ : ∃ r v, rem = r ++ [v] := ⟨rem.dropLast, rem.getLast hr, (List.dropLast_concat_getLast hr).symm⟩
        have hfree := hTry.free
        have hks : ∀ w, stored kvd x w = stored kvs x w := by
          rcases hkd with ⟨rfl, _⟩ | ⟨w', rfl⟩
          · intro _; rfl
          · intro w; exact stored_stored hfree
        have hklx := hTry.node.kl
        have hkdz : kvd.length ≤ sizeLine := by
          rcases hkd with ⟨rfl, _⟩ | ⟨w', rfl⟩
          · omega
          · rw [stored_len hfree]; omega
        have hrl : rem.length ≤ 2 := (hTry.facts (tv := 0)).2.2.1
        have hrz2 : rem.length + 1 ≤ sizeLine := by omega
        have hT2 : (rem ++ [v]).length * 4 ^ u = rem.length * 4 ^ u + 4 ^ u := by rw [List.length_append, List.length_singleton, Nat.succ_mul]
        have h41 : 1 ≤ 4 ^ u := Nat.one_le_pow _ _ (by decide)
        rw [hT2] at hk1 hcnt
        have hS := hTry.node.same
        have hWn := hTry.node.rw
        have hsz : ∀ D ∈ Ds, D.vs.length + D.hs.length ≤ 1000 ∧ D.ss.length ≤ 1000 := fun D hD => ⟨hWn.wf.sz D hD, by have := hWn.hss D hD; omega⟩
        have hlen : Ds.length ≤ 1000 := by have := hWn.wf.len; omega
        repeat k_extra "st"
        rename_i tv
        rw [hks]
        clear hkd hks hkdz
        obtain ⟨⟨Dx, hDx, hxn, hvm⟩, hvt, _, hW2, hun2, hEx⟩ := hTry.facts (tv := tv)
        have hpd2 : PdOk pdv pb Zp (uns (stored kvs x (.int v tv)) Ds) := hpd.congr (by rw [uns_val hfree])
        have hUl : (uns (stored kvs x (.int v tv)) Ds).length ≤ 1000 := Nat.le_trans (List.length_filter_le _ _) hlen
        refine' Tr.sel ?hsl (push_allT (n := 30) (kvs := stored kvs x (.int v tv)) (Ds := Ds) (ctx := [(Str.ofString "values", .ref va), (Str.ofString "forwardcheck", .bool fwc), (Str.ofString "queue", .ref qa)]) (Bs.wA B _) (R4.le (by omega)) hpd2 hsz hlen ?hctx ?hF2 ?_)
        (case hsl => k_extra "sel")
        (case hctx => intro x hx; simp only [List.mem_cons, List.not_mem_nil, or_false] at hx; rcases hx with rfl | rfl | rfl <;> (dsimp only; decide))
        (case hF2 => k_extra "fr")
        clear hF
        intro m2 Dp L' hF hPR hsel
        refine Nx.next (Tr.sel hsel ?_)
        clear hsel
        have hSp : All2 SameD D₀ Dp := All2.trans (R := SameD) (S := SameD) (T := SameD) (fun a b d r s => SameD.trans r s) hS hPR.maps
        have hvv : valueAt (vmap D₀) x = some (.ref Dx.vc) := by have e : vmap Ds = vmap D₀ := same_vm hS; rw [← e, ← hxn]; exact vmap_find hWn.wf.nd hDx
        obtain ⟨hV1, hV2⟩ : (Dx.vc, pList [.ref Dx.tp]) ∈ V ∧ (Dx.tp, pTup [.ref k.con, .ref vl]) ∈ V := by obtain ⟨E, hE, r⟩ := hS.right Dx hDx; rw [show Dx.vc = E.vc by rw [r], show Dx.tp = E.tp by rw [r]]; exact hV E hE
        have hWp : Rw u nvs (stored kvs x (.int v tv)) Dp := Rw.step (k := 1) hW2 hPR.lesr
        repeat k_extra "st"
        rename_i it5
        refine TrC.join (J := fun L' => ∃ m Dc, CRes (SatK k.kind k.M Dp) (stored kvs x (.int v tv)) pb Dp false Dc ∧ Sel ((va, pInts (rem)) :: (Zp ++ ((S, pList (srefs new)) :: (a, pGen g) :: (Lf, pNs m) :: (a4, pCel (some (.str x tx))) :: (a3, pCel (some (.ref asg))) :: (a2, pCel (some (.ref vcd))) :: (a1, pCel (some (.ref dm))) :: (qa, pList (stv stk)) :: (asg, pDict c (stored kvs x (.int v tv))) :: (self, pInst 186 sd) :: (sd, pAttr 1 (solA fwc)) :: (k.con, pInst (clsOf k.kind) k.cd) :: (k.cd, pAttr 2 (conA (attrOf k.kind) k.M k.tM (mulV k.fl))) :: (vl, pList nvs) :: (dm, pDictE c ep (dmap D₀)) :: (vcd, pDict c (vmap D₀)) :: (flC k.fl D₀ ++ (V ++ (ecl stk ++ (scs c new ++ (dcl Dc ++ X)))))))) L' ∧ FrHas m [(Str.ofString "pushdomains", pdv), (Str.ofString "values", .ref va), (Str.ofString "forwardcheck", .bool fwc), (Str.ofString "queue", .ref qa)]) ?_ ?_
        rotate_left
        · refine tr_forLoop (fun n L' => (n = 1 ∧ ∃ m, Sel ((it5, pLIter Dx.vc 0) :: (va, pInts (rem)) :: (Zp ++ ((S, pList (srefs new)) :: (a, pGen g) :: (Lf, pNs m) :: (a4, pCel (some (.str x tx))) :: (a3, pCel (some (.ref asg))) :: (a2, pCel (some (.ref vcd))) :: (a1, pCel (some (.ref dm))) :: (qa, pList (stv stk)) :: (asg, pDict c (stored kvs x (.int v tv))) :: (self, pInst 186 sd) :: (sd, pAttr 1 (solA fwc)) :: (k.con, pInst (clsOf k.kind) k.cd) :: (k.cd, pAttr 2 (conA (attrOf k.kind) k.M k.tM (mulV k.fl))) :: (vl, pList nvs) :: (dm, pDictE c ep (dmap D₀)) :: (vcd, pDict c (vmap D₀)) :: (flC k.fl D₀ ++ (V ++ (ecl stk ++ (scs c new ++ (dcl Dp ++ X)))))))) L' ∧ FrHas m [(Str.ofString "pushdomains", pdv), (Str.ofString "values", .ref va), (Str.ofString "forwardcheck", .bool fwc), (Str.ofString "queue", .ref qa)]) ∨
            (n = 0 ∧ ∃ m Dc, CRes (SatK k.kind k.M Dp) (stored kvs x (.int v tv)) pb Dp true Dc ∧ Sel ((it5, pLIter Dx.vc 1) :: (va, pInts (rem)) :: (Zp ++ ((S, pList (srefs new)) :: (a, pGen g) :: (Lf, pNs m) :: (a4, pCel (some (.str x tx))) :: (a3, pCel (some (.ref asg))) :: (a2, pCel (some (.ref vcd))) :: (a1, pCel (some (.ref dm))) :: (qa, pList (stv stk)) :: (asg, pDict c (stored kvs x (.int v tv))) :: (self, pInst 186 sd) :: (sd, pAttr 1 (solA fwc)) :: (k.con, pInst (clsOf k.kind) k.cd) :: (k.cd, pAttr 2 (conA (attrOf k.kind) k.M k.tM (mulV k.fl))) :: (vl, pList nvs) :: (dm, pDictE c ep (dmap D₀)) :: (vcd, pDict c (vmap D₀)) :: (flC k.fl D₀ ++ (V ++ (ecl stk ++ (scs c new ++ (dcl Dc ++ X)))))))) L' ∧ FrHas m [(Str.ofString "pushdomains", pdv), (Str.ofString "values", .ref va), (Str.ofString "forwardcheck", .bool fwc), (Str.ofString "queue", .ref qa)])) ?_ 1 (.inl ⟨rfl, m2, by k_extra "sel", hF⟩)
          clear hF
          intro n0 L' hI
          rcases hI with ⟨rfl, m, hsel, hF⟩ | ⟨rfl, m, Dc, hC, hsel, hF⟩
          · refine Tr.sel hsel ?_
            clear hsel
            refine tr_nextItem (by k_extra "upd") (by k_extra "mem") pList_seq (v := .ref Dx.tp) rfl ?_
            dsimp only
            refine tr_letGoTup (by k_extra "mem") ?_
            refine tr_Tup2 R4 (by k_extra "mem") ?_
            repeat k_extra "st"
            refine tr_callInst (k := 2) (Bs.wA B _) (by k_extra "mem") (by k_extra "mem") (con_find _ hk) (con_isFn _ hk).1 (con_isFn _ hk).2 ?_
            repeat k_extra "st"
            refine ⟨⟨by k_extra "mem", by k_extra "mem"⟩, ?_⟩
            rw [← same_dm hSp, ← same_fl hSp]
            refine TrF.sel (by k_extra "sel") (con_call (Bs.wA B _) (R4.le (by omega)) (hpd2.fw hUl) hWp.wf hk (fun q D hD => by obtain ⟨E, hE, r⟩ := hSp.right D hD; rw [show D.f = E.f by rw [r]]; exact hf1 q E hE) ?_)
            rw [same_dm hSp, same_fl hSp]
            intro b Dc hC
            repeat k_extra "st"
            refine ⟨fun hb => ?_, fun hb => ?_⟩
            · have hb' : b = false := by simpa using hb
              subst hb'
              repeat k_extra "st"
              refine' ⟨_, Dc, hC, ?hs, ?hf⟩
              (case hs => k_extra "sel")
              (case hf => k_extra "fr")
            · have hb' : b = true := by simpa using hb
              subst hb'
              repeat k_extra "st"
              refine' ⟨0, _, by decide, Sel.refl, .inr ⟨rfl, _, Dc, hC, ?hs, ?hf⟩⟩
              (case hs => k_extra "sel")
              (case hf => k_extra "fr")
          · refine Tr.sel hsel ?_
            clear hsel
            refine tr_nextEnd R4 (by k_extra "rem") (by k_extra "mem") pList_seq rfl ?_
            dsimp only
            repeat k_extra "st"
            refine ⟨u, x, tx, rem, v, tv, tried, kvs, Ds, stk, new, m, va, pdv, pb, Zp, Dp, Dc, hTry, hPR, hC, hpd2, ?_, ?_, ?_, hSol, by k_extra "sel", hF⟩
            · show 4 ^ u + (rem.length * 4 ^ u + Phi stk (u + 1)) ≤ n'; omega
            · show 4 ^ u + (rem.length * 4 ^ u + Phi stk (u + 1)) < T; omega
            · show new.length + (4 ^ u + (rem.length * 4 ^ u + Phi stk (u + 1))) ≤ 64; omega
        clear hF
        rintro L' ⟨m3, Dc, hC, hsel, hF⟩
        refine Tr.sel hsel ?_
        clear hsel
        repeat k_extra "st"
        refine' Tr.sel ?hsl (pop_allT (n := 30) (kvs := stored kvs x (.int v tv)) (Ds := Ds) (Dr := Dc) (ctx := [(Str.ofString "values", .ref va), (Str.ofString "forwardcheck", .bool fwc), (Str.ofString "queue", .ref qa)]) (Bs.wA B _) (R4.le (by omega)) hpd2 (relPb_of hPR hC.shape (All2.refl PermD.refl _)) hsz hlen ?hctx ?hF2 ?_)
        (case hsl => k_extra "sel")
        (case hctx => intro x hx; simp only [List.mem_cons, List.not_mem_nil, or_false] at hx; rcases hx with rfl | rfl | rfl <;> (dsimp only; decide))
        (case hF2 => k_extra "fr")
        intro m4 Do L' hF4 hpo hsel
        refine Nx.next (Tr.sel hsel ?_)
        clear hsel
        repeat k_extra "st"
        obtain ⟨hT3, hD2⟩ := hTry.fail hPR hC hpo
        refine ⟨rem.length * 4 ^ u + Phi stk (u + 1), _, by omega, Sel.refl, u, x, tx, rem, tried ++ [v], kvs, stored kvs x (.int v tv), Do, stk, new, m4, va, pdv, pb, Zp, hT3, .inr ⟨_, rfl⟩, hpd2.congr (by rw [pds_uns hpo, uns_val hfree]), rfl, by omega, by omega, by omega, hSol.congr hD2, by k_extra "sel", hF4⟩
      · rintro L' ⟨u, x, tx, rem, v, tv, tried, kvs, Ds, stk, new, m, va, pdv, pb, Zp, Dp, Dc, hTry, hPR, hC, hpd, hn', hlt, hcnt, hSol, hsel, hF⟩
        refine Sg.sel hsel ?_
        clear hsel
        refine sgq_cons (m := 36) (RA.le (by omega)) ok1 hc2 fun A4 R4 => ?_
        have hql : (stv stk).length ≤ sizeLine := by have := hTry.chain.len; simp [stv]; omega
        repeat k_extra "st"
        refine ⟨by show 3 ≤ sizeLine; omega, fun tp => ?_⟩
        repeat k_extra "st"
        refine sg_nil ?_
        obtain ⟨hNode, hChain⟩ := hTry.pass (tn := tx) (va := va) (tp := tp) hPR hC hpd
        refine' IH (4 ^ u + Phi (En.mk x tx v tv rem tried kvs Ds pb pdv Zp va tp :: stk) u) n' _ hlt hn' ⟨u, stored kvs x (.int v tv), Dc, En.mk x tx v tv rem tried kvs Ds pb pdv Zp va tp :: stk, new, _, _, rfl, hNode, hChain, hcnt, hSol, ?hs, ?hf⟩
        (case hs => rw [stv_cons, ecl_cons, List.cons_append, List.cons_append, List.append_assoc Zp]; k_extra "sel")
        (case hf => k_extra "fr")
end
end
section
section
variable {mg mb : Str → Option Value} {c : Cx} {X V : List Cell}
theorem back_solve {fwc : Bool} {k : Cn} {self sd vl dm vcd : Addr} {cons : Value} {nvs : List Value} {Ds : List Dm} {ep : Nat} {Q : Value → List Cell → Prop} (hcG : c.G = AllBare)
    (B : Bs (hd.heap_39 c.w.params) c mg mb) (R : Rm 70 c.A) (W : Rw Ds.length nvs [] Ds) (h3 : Ds.length ≤ 3) (hk : k.kind < 3) (hf1 : k.fl = none → ∀ D ∈ Ds, D.f = 1) (hne : ∀ D ∈ Ds, D.vs ≠ [])
    (hV : ∀ D ∈ Ds, (D.vc, pList [.ref D.tp]) ∈ V ∧ (D.tp, pTup [.ref k.con, .ref vl]) ∈ V)
    (h : ∀ sol new, IsSolsP (fun g => Ext [] Ds g ∧ SatK k.kind k.M Ds g) (Ds.map (·.nm)) new → new.length ≤ 64 → Q (.ref sol) ((sol, pList (srefs new)) :: (scs c new ++ ((vl, pList nvs) :: (flC k.fl Ds ++ X))))) :
    TrF c (.ref 183) [.ref self, .ref dm, cons, .ref vcd] ((self, pInst 186 sd) :: (sd, pAttr 1 (solA fwc)) :: (k.con, pInst (clsOf k.kind) k.cd) :: (k.cd, pAttr 2 (conA (attrOf k.kind) k.M k.tM (mulV k.fl))) :: (vl, pList nvs) :: (dm, pDictE c ep (dmap Ds)) :: (vcd, pDict c (vmap Ds)) :: (flC k.fl Ds ++ (V ++ (dcl Ds ++ X)))) Q := by
  obtain ⟨name, qual, params, body, scope, dV, kV, doc, pm, cdv, ct, oc, an, od, osl, GF⟩ := gen_run (mg := mg) (mb := mb) c.w.params
  refine' tr_callF (binds := [(Str.ofString "self", .ref self), (Str.ofString "domains", .ref dm), (Str.ofString "constraints", cons), (Str.ofString "vconstraints", .ref vcd)]) B R ?ho ?hcd ?hb ?hloc ?_ ?c1 ?c2 ?c3 ?c4
  k_extra "enter"
  intro Lg
  refine tr_execs_cons ?_
  k_extra "st"
  k_extra "st"
  k_extra "st"
  refine tr_listOfGen (f := 169) (x := self) (B.deeper _) GF.hlk ?_
  repeat k_extra "st"
  refine ⟨rfl, ?_⟩
  repeat k_extra "st"
  intro s H hg ho
  have hg : AllBare s.gens := by rw [← hcG]; exact hg
  refine wpAny_call ?_
  refine gen_make H (B.deeper _) (R.deeper _) GF.hlk GF.hcd GF.hb GF.hcs (fun m p hp => ?_) (fun m x hx => GF.hloc m x hx) GF.hL GF.hC ?_ GF.h1 GF.h2 GF.h3
  · simp only [List.mem_cons, List.not_mem_nil, or_false] at hp; rcases hp with rfl | rfl | rfl | rfl <;> rfl
  intro a Lf s1 H1 hg1 ho1
  have hgs : ∀ gs, s1.gens = s.gens.push gs → s1.gens[s.gens.size]? = some gs := fun gs e => by rw [e]; exact Array.getElem?_push_size ..
  refine list_gen (N := 64) (Fi := fun acc L2 => ∃ new, acc = srefs new ∧ IsSolsP (fun g => Ext [] Ds g ∧ SatK k.kind k.M Ds g) (Ds.map (·.nm)) new ∧ new.length ≤ 64 ∧ Sel (scs c new ++ ((vl, pList nvs) :: (flC k.fl Ds ++ X))) L2) ((R.deeper _).le (by omega)) H1 (.head _) (hgs _ hg1) (by rw [hg1]; exact AllBare.push hg rfl) (ho1.trans ho) (fun S => ?_) fun S s' acc' L' H' G' o' hF => ?_
  · refine' Sg.sel ?hs (GF.run (c := Cx.gen (Cx.deeper c _) s.gens.size) (X := X) (V := V) (cons := cons) rfl ⟨B.X, B.g, B.b, B.bi⟩ (Rm.in1 (Rm.in1 (Rm.in1 ((R.deeper _).le (by omega))))) W h3 hk hf1 hne hV)
    (case hs => k_extra "sel")
  · obtain ⟨new, rfl, hi, hl, hs⟩ := hF
    refine ⟨_, H', by rw [show (c.deeper _).G = c.G from rfl, hcG]; exact G', o', ?_⟩
    refine Nx.ret ?_
    exact ⟨_, Sel.cons .head hs, h S new hi hl⟩
end
end
section
theorem ext_nil {Ds : List Dm} {g : Str → Int} : Ext [] Ds g ↔ ∀ D ∈ Ds, g D.nm ∈ D.vs := Iff.rfl
theorem gs_nonneg {g : Str → Int} : ∀ {Ds : List Dm}, (∀ D ∈ Ds, 0 ≤ g D.nm * D.f) → 0 ≤ gs g Ds
  | [], _ => Int.le_refl _
  | D :: r, h => by
    have h1 := h D (.head _)
    have h2 := gs_nonneg (g := g) (Ds := r) fun E hE => h E (.tail _ hE)
    show 0 ≤ gs g r + g D.nm * D.f
    omega
theorem term_le {g : Str → Int} : ∀ {Ds : List Dm}, (∀ D ∈ Ds, 0 ≤ g D.nm * D.f) → ∀ D ∈ Ds, g D.nm * D.f ≤ gs g Ds
  | [], _, _, m => nomatch m
  | E :: r, h, D, m => by
    have h1 := h E (.head _)
    have h2 := gs_nonneg (g := g) (Ds := r) fun E hE => h E (.tail _ hE)
    show _ ≤ gs g r + g E.nm * E.f
    rcases List.mem_cons.mp m with rfl | m
    · omega
    · have := term_le (g := g) (Ds := r) (fun E hE => h E (.tail _ hE)) D m
      omega
theorem cut_mem {kind : Nat} {M : Int} {Ds : List Dm} {g : Str → Int} (hk : kind < 3) (hp : ∀ D ∈ Ds, 0 ≤ D.f ∧ ∀ a ∈ D.vs, 0 ≤ a) (he : Ext [] Ds g) (hs : SatK kind M Ds g) {D : Dm} (hD : D ∈ Ds) : g D.nm ∈ (cutK kind M D).vs := by
  have hm : g D.nm ∈ D.vs := he D hD
  unfold cutK
  split
  · exact hm
  · refine List.mem_filter.mpr ⟨hm, decide_eq_true ?_⟩
    have h0 := term_le (g := g) (fun E hE => Int.mul_nonneg ((hp E hE).2 _ (he E hE)) (hp E hE).1) D hD
    have : gs g Ds ≤ M := by
      unfold SatK at hs
      split at hs
      · exact hs
      · exact Int.le_of_eq hs
    omega
theorem prep_ext {k : Cn} {Ds Df : List Dm} (hk : k.kind < 3) (hP : All2 (Prepd k) Ds Df) (hp : ∀ D ∈ Ds, 0 ≤ D.f ∧ ∀ a ∈ D.vs, 0 ≤ a) (g : Str → Int) : (Ext [] Ds g ∧ SatK k.kind k.M Ds g) ↔ (Ext [] Df g ∧ SatK k.kind k.M Df g) := by
  have hc : SatK k.kind k.M Df g ↔ SatK k.kind k.M Ds g := SatK_congr (hP.imp fun D D' r => by unfold Prepd at r; exact ⟨by rw [r], by rw [r]⟩)
  rw [hc]
  constructor
  · rintro ⟨he, hs⟩
    refine ⟨fun D' hD' => ?_, hs⟩
    obtain ⟨D, hD, r⟩ := hP.right D' hD'
    have := cut_mem hk hp he hs hD
    unfold Prepd at r
    rw [r]
    exact this
  · rintro ⟨he, hs⟩
    refine ⟨fun D hD => ?_, hs⟩
    obtain ⟨D', hD', r⟩ := hP.left D hD
    have := he D' hD'
    unfold Prepd at r
    rw [r] at this
    have this : g D.nm ∈ (cutK k.kind k.M D).vs := this
    unfold cutK at this
    split at this
    · exact this
    · exact (List.mem_filter.mp this).1
section
variable {mg mb : Str → Option Value} {c : Cx} {X : List Cell}
theorem tr_truthyDict {P : Obj → Prop} {L : List Cell} {d : Addr} {kvs : List (Str × Value)} {Q : Bool → List Cell → Prop} (hd : (d, P) ∈ L) (hP : ∀ o, P o → pDict c kvs o) (hz : kvs.length ≤ sizeLine) (h : Q (!kvs.isEmpty) L) : Tr c (truthy (.ref d)) L Q := fun s H g o =>
  wpAny_truthy_dict (knd := strKind c.prog c.w) (H.noSys hd) (H.dictP hd hP) (by have := sz24; omega) ⟨L, H, g, o, by cases kvs <;> exact h⟩
theorem prob_solve {k : Cn} {p pd sv sd cs vs tp0 vl S : Addr} {b : Bool} {nvs : List Value} {Ds : List Dm} {Q : Value → List Cell → Prop} (hcG : c.G = AllBare) (hS : S = 186 ∨ S = 225)
    (B : Bs (hd.heap_39 c.w.params) c mg mb) (R : Rm 80 c.A) (W : Wf nvs [] Ds) (h2 : 2 ≤ Ds.length) (h3 : Ds.length ≤ 3) (hk : k.kind < 3) (hf1 : k.fl = none → ∀ D ∈ Ds, D.f = 1)
    (h0s : ∀ D ∈ Ds, D.hs = [] ∧ D.ss = []) (hnd : ∀ D ∈ Ds, D.vs.Nodup) (hv3 : ∀ D ∈ Ds, D.vs.length ≤ 3)
    (h : ∀ sol new, IsSolsP (fun g => Ext [] Ds g ∧ SatK k.kind k.M Ds g) (Ds.map (·.nm)) new → new.length ≤ 64 → Q (.ref sol) ((sol, pList (srefs new)) :: (scs c new ++ ((vl, pList nvs) :: (flC k.fl Ds ++ X))))) :
    TrF c (.ref 93) [.ref p] ((p, pInst 110 pd) :: (pd, pAttr 3 (probA sv cs vs)) :: (sv, pInst S sd) :: (sd, pAttr 1 (solA b)) :: (cs, pList [.ref tp0]) :: (tp0, pTup [.ref k.con, .ref vl]) :: (vs, pDict c (dmap Ds)) :: (k.con, pInst (clsOf k.kind) k.cd) :: (k.cd, pAttr 2 (conA (attrOf k.kind) k.M k.tM (mulV k.fl))) :: (vl, pList nvs) :: (flC k.fl Ds ++ (dcl Ds ++ X))) Q := by
  refine' tr_callF (binds := [(Str.ofString "self", .ref p)]) B R ?ho ?hcd ?hb ?hloc ?_ ?c1 ?c2 ?c3 ?c4
  k_extra "enter"
  intro Lf
  have hz := sz24
  have hp : ∀ D ∈ Ds, 0 ≤ D.f ∧ ∀ a ∈ D.vs, 0 ≤ a := fun D hD => ⟨W.fac D hD, fun a ha => (W.val D hD a (.inr ha)).1⟩
  refine tr_execs_cons ?_
  refine tr_AssignTup ?_
  repeat k_extra "st"
  refine Tr.sel (by k_extra "sel") (get_args (k := k) (B.deeper _) ((R.deeper _).le (by omega)) W h2 hk hf1 h0s ?_ ?_).tr
  · intro tpl dm cons vcd ep Df hP hne
    refine tr_Tup3 (R.deeper _) (by k_extra "mem") ?_
    repeat k_extra "st"
    have hfn : Df.map (·.nm) = Ds.map (·.nm) := all2_map (fun a b r => by unfold Prepd at r; rw [r]) hP
    have hff : Df.map (·.f) = Ds.map (·.f) := all2_map (fun a b r => by unfold Prepd at r; rw [r]) hP
    have hfk : flC k.fl Df = flC k.fl Ds := by cases k.fl with | none => rfl | some a => show [(a, pInts (Df.map (·.f)))] = [(a, pInts (Ds.map (·.f)))]; rw [hff]
    have hlen : Df.length = Ds.length := hP.len.symm
    have hcv : ∀ D ∈ Ds, (∀ a ∈ (cutK k.kind k.M D).vs, a ∈ D.vs) ∧ (cutK k.kind k.M D).vs.length ≤ D.vs.length ∧ (D.vs.Nodup → (cutK k.kind k.M D).vs.Nodup) := fun D _ => by
      unfold cutK
      split
      · exact ⟨fun _ m => m, Nat.le_refl _, id⟩
      · exact ⟨fun a m => (List.mem_filter.mp m).1, List.length_filter_le _ _, fun n => n.sublist List.filter_sublist⟩
    have hW : Rw Df.length nvs [] Df := by
      refine ⟨W.like ?_, fun D' hD' => ?_, fun D' hD' => ?_, fun D' hD' => ?_⟩
      · have key : ∀ (A Bq : List Dm), All2 (Prepd k) A Bq → (∀ D ∈ A, D ∈ Ds) → All2 (fun D D' : Dm => D'.nm = D.nm ∧ D'.f = D.f ∧ (∀ a ∈ D'.vs, a ∈ D.vs) ∧ D'.vs.length + D'.hs.length ≤ D.vs.length + D.hs.length) A Bq := by
          intro A Bq hAB
          induction hAB with
          | nil => intro _; exact .nil
          | cons r t ih =>
            intro hin
            refine .cons ?_ (ih fun D m => hin D (.tail _ m))
            have := hcv _ (hin _ (.head _))
            unfold Prepd at r
            rw [r]
            exact ⟨rfl, rfl, this.1, Nat.add_le_add_right this.2.1 _⟩
        exact key Ds Df hP fun _ m => m
      all_goals
        obtain ⟨D, hD, r⟩ := hP.right D' hD'
        have := hcv D hD
        unfold Prepd at r
        rw [r]
      · exact this.2.2 (hnd D hD)
      · exact Nat.le_trans this.2.1 (hv3 D hD)
      · show D.ss.length + Df.length ≤ 500
        rw [(h0s D hD).2]
        have := hlen
        simp; omega
    have hf1' : k.fl = none → ∀ D ∈ Df, D.f = 1 := fun q D' hD' => by
      obtain ⟨D, hD, r⟩ := hP.right D' hD'
      unfold Prepd at r
      rw [r]; exact hf1 q D hD
    have hdz : (dmap Df).length ≤ sizeLine := by simp [dmap]; omega
    refine tr_truthyDict (by k_extra "mem") pDictE_dict hdz ⟨fun q => ?_, fun _ => ?_⟩
    · exfalso
      cases Df with
      | nil => simp at hlen; omega
      | cons D r => simp [dmap] at q
    have hfin : ∀ (sol : Addr) new, IsSolsP (fun g => Ext [] Df g ∧ SatK k.kind k.M Df g) (Df.map (·.nm)) new → new.length ≤ 64 → Q (.ref sol) ((sol, pList (srefs new)) :: (scs c new ++ ((vl, pList nvs) :: (flC k.fl Ds ++ X)))) := fun sol new hi hl =>
      h sol new (by rw [hfn] at hi; exact hi.congr fun g => prep_ext hk hP hp g) hl
    clear h
    rcases hS with rfl | rfl
    · repeat k_extra "st"
      refine Tr.sel (by k_extra "sel") (back_solve (c := Cx.deeper c _) (k := k) (V := vcs k.con vl Df) (cons := .ref cons) hcG (B.deeper _) ((R.deeper _).le (by omega)) hW (by omega) hk hf1' hne (fun D hD => vcs_mem hD) ?_).tr
      intro sol new hi hl
      rw [hfk]
      repeat k_extra "st"
      exact ⟨_, by k_extra "sel", hfin sol new hi hl⟩
    · repeat k_extra "st"
      refine Tr.sel (by k_extra "sel") (rec_solve (k := k) (V := vcs k.con vl Df) (cons := .ref cons) (B.deeper _) ((R.deeper _).le (by omega)) hW (by omega) hk hf1' (fun D hD => vcs_mem hD) ?_).tr
      intro sol new Ds' hi hl _
      rw [hfk]
      repeat k_extra "st"
      exact ⟨_, by k_extra "sel", hfin sol new hi (by omega)⟩
  · intro tpl hD
    refine tr_Tup3 (R.deeper _) (by k_extra "mem") ?_
    repeat k_extra "st"
    refine ⟨fun _ => ?_, fun q => (nomatch q)⟩
    repeat k_extra "st"
    rename_i sol
    obtain ⟨D, hDm, hv⟩ := hD
    refine ⟨_, ?_, h sol [] (.nil fun g q => ?_) (by simp)⟩
    · show Sel ((sol, pList []) :: ([] ++ ((vl, pList nvs) :: (flC k.fl Ds ++ X)))) _
      rw [List.nil_append]
      k_extra "sel"
    · have := cut_mem hk hp q.1 q.2 hDm
      rw [hv] at this
      cases this
end
end
section
set_option maxHeartbeats 400000
section
variable {mg mb : Str → Option Value} {c : Cx} {X V : List Cell}
theorem law_mixed {k : Nat} {tk : Tok} {l : Addr} {vs : List Value} {ns : List Int} {Q : Value → List Cell → Prop} (B : Bs (hd.heap_39 c.w.params) c mg mb) (R : Rm 6 c.A) (hl : c.h₀.IsList l vs.toArray) (hI : IntsAre vs ns) (hk : k ≤ 1) (hb : ∀ n ∈ ns, Builtin.Int.intBits n ≤ 2 ^ 20) (hz : ns.length ≤ 100)
    (h : ∀ i t, Q (.int i t) X) : Tr c (call (.ref 482) [.ref l, .int k tk] []) X Q := by
  refine' tr_call (binds := [(Str.ofString "script", .ref l), (Str.ofString "k", .int k tk)]) B R ?ho ?hcd ?hb ?hloc ?_ ?c1 ?c2 ?c3 ?c4
  k_extra "enter"
  intro Lf
  have hlen := ints_len hI
  have hz2 : vs.length ≤ sizeLine := by have := sz24; omega
  have tail : ∀ (n : Int) (t : Tok) (Y : List Cell), Builtin.Int.intBits n ≤ 2 ^ 20 → True := fun _ _ _ _ => trivial
  repeat k_extra "st"
  refine tr_lenH hl hz2 fun _ => ?_
  repeat k_extra "st"
  refine ⟨fun hlt => ?_, fun hge => ?_⟩
  · have hlt : k < ns.length := by rw [hlen] at hlt; have := of_decide_eq_true hlt; omega
    k_extra "st"
    k_extra "st"
    k_extra "st"
    obtain ⟨tn, hn⟩ := ints_get hI (List.getElem?_eq_getElem hlt)
    refine tr_itemH hl hn hz2 ?_
    generalize hN : ns[k] = N at *
    have hNb := hb N (hN ▸ List.getElem_mem hlt)
    repeat k_extra "st"
    refine tr_pow (by decide) (by decide +kernel) fun _ => ?_
    repeat k_extra "st"
    refine ⟨fun _ => ?_, fun _ => ?_⟩
    · repeat k_extra "st"
      exact ⟨_, by k_extra "sel", h _ _⟩
    · repeat k_extra "st"
      refine tr_mul (.of_right (by decide +kernel)) fun _ => ?_
      repeat k_extra "st"
      refine tr_mul (.of_right (by decide +kernel)) fun _ => ?_
      repeat k_extra "st"
      refine tr_pow (by decide) (by have := mix_bits (k := (k : Int)) hNb (by omega); omega) fun _ => ?_
      repeat k_extra "st"
      refine tr_pow (by decide) (by decide +kernel) fun _ => ?_
      refine tr_floordiv (by decide +kernel) (by decide +kernel) fun _ => ?_
      repeat k_extra "st"
      refine tr_pow (by decide) (by decide +kernel) fun _ => ?_
      refine tr_mod (by decide +kernel) fun _ => ?_
      repeat k_extra "st"
      exact ⟨_, by k_extra "sel", h _ _⟩
  · have hNb : Builtin.Int.intBits 0 ≤ 2 ^ 20 := Nat.zero_le _
    repeat k_extra "st"
    refine tr_pow (by decide) (by decide +kernel) fun _ => ?_
    repeat k_extra "st"
    refine ⟨fun _ => ?_, fun _ => ?_⟩
    · repeat k_extra "st"
      exact ⟨_, by k_extra "sel", h _ _⟩
    · repeat k_extra "st"
      refine tr_mul (.of_right (by decide +kernel)) fun _ => ?_
      repeat k_extra "st"
      refine tr_mul (.of_right (by decide +kernel)) fun _ => ?_
      repeat k_extra "st"
      refine tr_pow (by decide) (by have := mix_bits (k := (k : Int)) hNb (by omega); omega) fun _ => ?_
      repeat k_extra "st"
      refine tr_pow (by decide) (by decide +kernel) fun _ => ?_
      refine tr_floordiv (by decide +kernel) (by decide +kernel) fun _ => ?_
      repeat k_extra "st"
      refine tr_pow (by decide) (by decide +kernel) fun _ => ?_
      refine tr_mod (by decide +kernel) fun _ => ?_
      repeat k_extra "st"
      exact ⟨_, by k_extra "sel", h _ _⟩
end
end
section
theorem ints_len_strs : ∀ {vs : List Value} {ns : List Str}, StrsAre vs ns → vs.length = ns.length
  | _, _, .nil => rfl
  | _, _, .cons i t r => by rw [List.length_cons, List.length_cons, ints_len_strs r]
def prodL : List (List Int) → List (List Int)
  | [] => [[]]
  | v :: r => v.flatMap fun a => (prodL r).map (a :: ·)
theorem prodL_len : ∀ {Vs : List (List Int)}, (∀ v ∈ Vs, v.length ≤ 3) → (prodL Vs).length ≤ 3 ^ Vs.length
  | [], _ => Nat.le_refl _
  | v :: r, h => by
    have ih := prodL_len (Vs := r) fun x hx => h x (.tail _ hx)
    have hv := h v (.head _)
    have e : ∀ (v : List Int) (P : List (List Int)), (v.flatMap fun a => P.map (a :: ·)).length = v.length * P.length := fun v P => by
      induction v with
      | nil => simp
      | cons a v iv => rw [List.flatMap_cons, List.length_append, List.length_map, iv, List.length_cons, Nat.add_mul]; omega
    show (v.flatMap fun a => (prodL r).map (a :: ·)).length ≤ _
    rw [e, List.length_cons, Nat.pow_succ, Nat.mul_comm (3 ^ r.length)]
    exact Nat.mul_le_mul hv ih
theorem mem_prodL {Ds : List Dm} {g : Str → Int} : (Ds.map (·.nm)).map g ∈ prodL (Ds.map (·.vs)) ↔ ∀ D ∈ Ds, g D.nm ∈ D.vs := by
  induction Ds with
  | nil => simp [prodL]
  | cons D Ds ih =>
    show g D.nm :: _ ∈ (D.vs.flatMap fun a => (prodL (Ds.map (·.vs))).map (a :: ·)) ↔ _
    rw [List.mem_flatMap]
    constructor
    · rintro ⟨a, ha, hm⟩
      obtain ⟨r, hr, e⟩ := List.mem_map.mp hm
      rw [List.cons.injEq] at e
      intro D' hD'
      rcases List.mem_cons.mp hD' with rfl | hD'
      · rw [← e.1]; exact ha
      · exact ih.mp (by rw [← e.2]; exact hr) D' hD'
    · intro h
      exact ⟨g D.nm, h D (.head _), List.mem_map.mpr ⟨_, ih.mpr fun D' hD' => h D' (.tail _ hD'), rfl⟩⟩
def rcs (RS : List Row) : List Cell := RS.map fun x => (x.1, pTI x.2)
theorem rcs_cons (x : Row) (RS : List Row) : rcs (x :: RS) = (x.1, pTI x.2) :: rcs RS := rfl
theorem rowVals_snoc (RS : List Row) (x : Row) : rowVals (RS ++ [x]) = rowVals RS ++ [.ref x.1] := by simp [rowVals]
theorem rcs_mem {RS : List Row} {x : Row} (h : x ∈ RS) : (x.1, pTI x.2) ∈ rcs RS := List.mem_map.mpr ⟨x, h, rfl⟩
set_option maxHeartbeats 1000000
section
variable {mg mb : Str → Option Value} {c : Cx} {X V : List Cell}
theorem law_rows {k : Cn} {p pd sv sd cs vs tp0 vl S : Addr} {b : Bool} {nvs : List Value} {Ds : List Dm} {Q : Value → List Cell → Prop} (hcG : c.G = AllBare) (hS : S = 186 ∨ S = 225)
    (B : Bs (hd.heap_39 c.w.params) c mg mb) (R : Rm 84 c.A) (W : Wf nvs [] Ds) (h2 : 2 ≤ Ds.length) (h3 : Ds.length ≤ 3) (hk : k.kind < 3) (hf1 : k.fl = none → ∀ D ∈ Ds, D.f = 1)
    (h0s : ∀ D ∈ Ds, D.hs = [] ∧ D.ss = []) (hnd : ∀ D ∈ Ds, D.vs.Nodup) (hv3 : ∀ D ∈ Ds, D.vs.length ≤ 3)
    (h : ∀ Dl RS, RS.Pairwise (fun x y => code x.2 < code y.2) → (∀ r, r ∈ RS.map (·.2) ↔ ∃ g, (Ext [] Ds g ∧ SatK k.kind k.M Ds g) ∧ r = (Ds.map (·.nm)).map g) → Q (.ref Dl) ((Dl, pList (rowVals RS)) :: (rcs RS ++ ((vl, pList nvs) :: (flC k.fl Ds ++ X))))) :
    Tr c (call (.ref 494) [.ref p, .ref vl] []) ((p, pInst 110 pd) :: (pd, pAttr 3 (probA sv cs vs)) :: (sv, pInst S sd) :: (sd, pAttr 1 (solA b)) :: (cs, pList [.ref tp0]) :: (tp0, pTup [.ref k.con, .ref vl]) :: (vs, pDict c (dmap Ds)) :: (k.con, pInst (clsOf k.kind) k.cd) :: (k.cd, pAttr 2 (conA (attrOf k.kind) k.M k.tM (mulV k.fl))) :: (vl, pList nvs) :: (flC k.fl Ds ++ (dcl Ds ++ X))) Q := by
  refine TrF.tr ?_
  refine' tr_callC (binds := [(Str.ofString "problem", .ref p), (Str.ofString "names", .ref vl)])
    (cs := fun n => [(Str.ofString "names", n + 1)])
    (mL := fun y => if y = Str.ofString "problem" then some (.ref p) else none)
    (cm := fun y => if y = Str.ofString "names" then some (.ref vl) else none) B R ?ho ?hcd ?hb ?hcs ?hnd ?hloc ?hL ?hC ?_ ?c2 ?c3 ?c4
  (case ho => k_is)
  (case hcd => k_is)
  (case hb => exact rfl)
  (case hcs => intro _; rfl)
  (case hnd => intro m p hp; simp only [List.mem_cons, List.not_mem_nil, or_false] at hp; rcases hp with rfl <;> rfl)
  (case hloc => intro m x hx; simp only [List.mem_cons, List.not_mem_nil, or_false] at hx; rcases hx with rfl | rfl <;> first | exact .inl rfl | exact .inr ⟨rfl, rfl⟩)
  (case c2 => exact rfl)
  (case c3 => exact rfl)
  (case c4 => exact rfl)
  (case hL => exact rfl)
  (case hC => exact rfl)
  intro Lf
  generalize Lf + 1 = a1
  refine Tr.sel (L' := (Lf, pNs _) :: (a1, pCel (some (.ref vl))) :: (p, pInst 110 pd) :: (pd, pAttr 3 (probA sv cs vs)) :: (sv, pInst S sd) :: (sd, pAttr 1 (solA b)) :: (cs, pList [.ref tp0]) :: (tp0, pTup [.ref k.con, .ref vl]) :: (vs, pDict c (dmap Ds)) :: (k.con, pInst (clsOf k.kind) k.cd) :: (k.cd, pAttr 2 (conA (attrOf k.kind) k.M k.tM (mulV k.fl))) :: (vl, pList nvs) :: (flC k.fl Ds ++ (dcl Ds ++ X))) (by exact Sel.refl) ?_
  repeat k_extra "st"
  refine' tr_ListCompX (y := Str.ofString "one") ?hclos ?hcs ?hpc ?hkind ?hnames ?hs ?_
  (case hclos => with_unfolding_all rfl)
  (case hcs => intro _; rfl)
  (case hpc => intro _; rfl)
  (case hkind => exact rfl)
  (case hnames => decide)
  (case hs => intro _; rfl)
  repeat k_extra "st"
  refine Tr.sel (by k_extra "sel") (prob_solve (c := c.deeper _) (k := k) hcG hS (B.deeper _) ((R.deeper _).le (by omega)) W h2 h3 hk hf1 h0s hnd hv3 fun sol new hsol hlen => ?_).tr
  have hz := sz24
  refine tr_iterList (by k_extra "mem") fun it => ⟨it, rfl, (SelfIt.lst (.head _)).g, fun C a D => ?_⟩
  have hnl := ints_len_strs W.nm
  refine tr_compLoop (fun n L' => ∃ A Bs rs m cv, new = A ++ Bs ∧ n = Bs.length ∧ (rs.reverse.map (·.2)) = A.map (fun q => rowOf (Ds.map (·.nm)) q.2) ∧
    Sel ((a, pCel cv) :: (C, pNs m) :: (D, pList (rowVals rs.reverse)) :: (it, pLIter sol A.length) :: (sol, pList (srefs new)) :: (rcs rs ++ (scs c new ++ ((vl, pList nvs) :: (flC k.fl Ds ++ ((Lf, pNs fun y => if y = Str.ofString "problem" then some (.ref p) else none) :: (a1, pCel (some (.ref vl))) :: X)))))) L') ?_ new.length ⟨[], new, [], _, _, rfl, rfl, rfl, by k_extra "sel"⟩
  intro n L' hI
  obtain ⟨A, Bs, rs, m, cv, hnew, rfl, hrs, hsel⟩ := hI
  refine Tr.sel hsel ?_
  clear hsel
  have hrl : rs.length = A.length := by have := congrArg List.length hrs; simpa using this
  cases Bs with
  | cons q Bs =>
    have hqm : q ∈ new := by rw [hnew]; simp
    have hqc : (q.1, pDict c q.2) ∈ scs c new := List.mem_map.mpr ⟨q, hqm, rfl⟩
    have hAl : A.length ≤ 64 := by rw [hnew] at hlen; simp at hlen; omega
    refine tr_nextItem (v := .ref q.1) (by k_extra "upd") (by k_extra "mem") pList_seq (by rw [hnew]; simp [srefs]) ?_
    dsimp only
    repeat k_extra "st"
    refine tr_tests_nil ⟨fun _ => ?_, fun q => (nomatch q)⟩
    repeat k_extra "st"
    refine' tr_ListComp ?hclos ?hcell ?hkind ?hnames ?hs ?_
    (case hclos => with_unfolding_all rfl)
    (case hcell => decide)
    (case hkind => exact rfl)
    (case hnames => decide)
    (case hs => intro _; rfl)
    repeat k_extra "st"
    rename_i it2
    refine ⟨it2, rfl, .lst (.head _), fun C2 D2 => ?_⟩
    refine tr_compLoop (fun n L' => ∃ A2 B2 us m2, Ds.map (·.nm) = A2 ++ B2 ∧ n = B2.length ∧ IntsAre us (A2.map fun x => (av q.2 x).getD 0) ∧
      Sel ((C2, pNs m2) :: (D2, pList us) :: (it2, pLIter vl A2.length) :: (a, pCel (some (.ref q.1))) :: (C, pNs m) :: (D, pList (rowVals rs.reverse)) :: (it, pLIter sol (A.length + 1)) :: (sol, pList (srefs new)) :: (rcs rs ++ (scs c new ++ ((vl, pList nvs) :: (flC k.fl Ds ++ ((Lf, pNs fun y => if y = Str.ofString "problem" then some (.ref p) else none) :: (a1, pCel (some (.ref vl))) :: X)))))) L')
      ?_ (Ds.map (·.nm)).length ⟨[], _, [], _, rfl, rfl, .nil, by k_extra "sel"⟩
    intro n2 L2 hI2
    obtain ⟨A2, B2, us, m2, hD2, rfl, hus, hsel⟩ := hI2
    refine Tr.sel hsel ?_
    clear hsel
    have hul : us.length = A2.length := by have := ints_len hus; simpa using this
    have hA2 : A2.length ≤ 3 := by have := congrArg List.length hD2; simp at this; omega
    cases B2 with
    | cons x B2 =>
      obtain ⟨tx, hx⟩ := strs_get W.nm (i := A2.length) (n := x) (by rw [hD2]; simp)
      obtain ⟨ix, ti, hval⟩ := hsol.vals q hqm x (by rw [hD2]; simp)
      have hav : (av q.2 x).getD 0 = ix := by simp [av, hval]
      refine tr_nextItem (v := .str x tx) (by k_extra "upd") (by k_extra "mem") pList_seq hx ?_
      dsimp only
      repeat k_extra "st"
      refine tr_tests_nil ⟨fun _ => ?_, fun q => (nomatch q)⟩
      repeat k_extra "st"
      refine' ⟨B2.length, _, by simp, Sel.refl, A2 ++ [x], B2, us ++ [.int ix ti], _, by simp [hD2], rfl, ?hi, ?hs⟩
      (case hi => rw [List.map_append]; refine ints_app hus ?_; show IntsAre _ [(av q.2 x).getD 0]; rw [hav]; exact ints_one _ _)
      (case hs => rw [List.length_append, List.length_singleton]; k_extra "sel")
    | nil =>
      rw [List.append_nil] at hD2
      subst hD2
      refine tr_nextEnd (R.deeper _) (by k_extra "rem") (by k_extra "mem") pList_seq (by rw [List.getElem?_eq_none]; rw [hnl]; exact Nat.le_refl _) ?_
      dsimp only
      repeat k_extra "st"
      refine ⟨m2, _, by k_extra "sel", ?_⟩
      repeat k_extra "st"
      refine tr_tupleL (by k_extra "mem") pList_is (by omega) fun T => ?_
      refine Tr.loosen (P' := pTI (rowOf (Ds.map (·.nm)) q.2)) (fun o p => ⟨us, by unfold rowOf; exact hus, p⟩) ?_
      have hrv : (rowVals rs.reverse).length ≤ sizeLine := by simp [rowVals]; omega
      repeat k_extra "st"
      refine' ⟨Bs.length, _, by simp, Sel.refl, A ++ [q], Bs, (T, rowOf (Ds.map (·.nm)) q.2) :: rs, _, _, by simp [hnew], rfl, ?hr, ?hs⟩
      (case hr => rw [List.reverse_cons, List.map_append, hrs, List.map_append]; rfl)
      (case hs => rw [List.reverse_cons, rowVals_snoc, rcs_cons, List.cons_append, List.length_append, List.length_singleton]; k_extra "sel")
  | nil =>
    rw [List.append_nil] at hnew
    subst hnew
    refine tr_nextEnd (R.deeper _) (by k_extra "rem") (by k_extra "mem") pList_seq (by simp [srefs]) ?_
    dsimp only
    repeat k_extra "st"
    refine ⟨m, _, by k_extra "sel", ?_⟩
    repeat k_extra "st"
    have hm : Ds.length = 2 ∨ Ds.length = 3 := by omega
    have hrow : ∀ x ∈ rs.reverse, ∃ g, (Ext [] Ds g ∧ SatK k.kind k.M Ds g) ∧ x.2 = (Ds.map (·.nm)).map g := fun x hx =>
      (hsol.mem x.2).mp (hrs ▸ List.mem_map.mpr ⟨x, hx, rfl⟩)
    have hT : ∀ x ∈ rs.reverse, Sm Ds.length x.2 := fun x hx => by
      obtain ⟨g, hg, e⟩ := hrow x hx
      rw [e]
      refine ⟨by simp, fun a ha => ?_⟩
      obtain ⟨y, hy, rfl⟩ := List.mem_map.mp ha
      obtain ⟨D', hD', rfl⟩ := List.mem_map.mp hy
      exact W.val D' hD' _ (.inr (hg.1 D' hD'))
    have hnd2 : (rs.reverse.map (·.2)).Nodup := by rw [hrs]; exact hsol.nodup
    have h64 : rs.reverse.length < 64 := by
      have h1 := len_le_of_subset hnd2 (l2 := prodL (Ds.map (·.vs))) fun r hr => by
        obtain ⟨x, hx, rfl⟩ := List.mem_map.mp hr
        obtain ⟨g, hg, e⟩ := hrow x hx
        rw [e]
        exact mem_prodL.mpr fun D' hD' => hg.1 D' hD'
      have h2 := prodL_len (Vs := Ds.map (·.vs)) fun v hv => by
        obtain ⟨D', hD', rfl⟩ := List.mem_map.mp hv
        exact hv3 D' hD'
      rw [List.length_map] at h1 h2
      have h4 : 3 ^ Ds.length ≤ 3 ^ 3 := Nat.pow_le_pow_right (by decide) h3
      omega
    refine tr_sortedListR hm (by k_extra "mem") (fun x hx => ⟨?_, hT x hx⟩) hnd2 h64 fun Dl RS' p1 p2 => ?_
    · have hm2 : (x.1, pTI x.2) ∈ rcs rs := rcs_mem (List.mem_reverse.mp hx)
      k_extra "mem"
    repeat k_extra "st"
    have p3 : List.Perm rs RS' := (List.reverse_perm rs).symm.trans p1.symm
    have sp : Sel ((Dl, pList (rowVals RS')) :: (rcs RS' ++ ((vl, pList nvs) :: (flC k.fl Ds ++ X)))) ((Dl, pList (rowVals RS')) :: (rcs rs ++ ((vl, pList nvs) :: (flC k.fl Ds ++ X)))) :=
      Sel.perm (.cons _ (List.Perm.append_right _ (List.Perm.map (fun x : Row => (x.1, pTI x.2)) p3)))
    refine ⟨_, Sel.trans sp (by k_extra "sel"), h Dl RS' p2 fun r => ?_⟩
    rw [(p1.map (·.2)).mem_iff, hrs]
    exact hsol.mem r
end
end
section
def lcs (VS : List Row) : List Cell := VS.map fun x => (x.1, pInts x.2)
theorem lcs_focus {A Bz : List Row} {x : Row} {Y : List Cell} : Sel ((x.1, pInts x.2) :: (lcs (A ++ Bz) ++ Y)) (lcs (A ++ x :: Bz) ++ Y) := .perm (by
  unfold lcs
  rw [List.map_append, List.map_append, List.map_cons, List.append_assoc, List.append_assoc, List.cons_append]
  exact List.perm_middle)
theorem lcs_unfocus {A Bz : List Row} {x : Row} {Y : List Cell} : Sel (lcs (A ++ x :: Bz) ++ Y) ((x.1, pInts x.2) :: (lcs (A ++ Bz) ++ Y)) := .perm (by
  unfold lcs
  rw [List.map_append, List.map_append, List.map_cons, List.append_assoc, List.append_assoc, List.cons_append]
  exact List.perm_middle.symm)
def flF (fl : Option Addr) (fs : List Int) : List Cell := match fl with
  | some a => [(a, pInts fs)]
  | none => []
theorem Tr.loosenU {c : Cx} {α : Type} {t : Sem α} {L L' : List Cell} {Q : α → List Cell → Prop} {a : Addr} {P P' : Obj → Prop} (U : Upd1 a P P' L L') (k : ∀ o, P o → P' o) (h : Tr c t L' Q) : Tr c t L Q := fun s H g o => by
  obtain ⟨ob, e, p⟩ := H.at U.mem
  exact h s (H.upd U (Heap.SameBut.refl ..) e (k ob p)) g o
theorem mvB {H V E Y : List Cell} : Sel (H ++ (V ++ (E ++ Y))) (V ++ (E ++ (H ++ Y))) := .perm (by
  have h1 : List.Perm (V ++ (E ++ (H ++ Y))) ((V ++ E) ++ (H ++ Y)) := .of_eq (by rw [List.append_assoc])
  have h2 : List.Perm ((V ++ E) ++ (H ++ Y)) ((V ++ E ++ H) ++ Y) := .of_eq (by rw [List.append_assoc (V ++ E)])
  have h3 : List.Perm ((V ++ E ++ H) ++ Y) ((H ++ (V ++ E)) ++ Y) := List.Perm.append_right _ List.perm_append_comm
  have h4 : List.Perm ((H ++ (V ++ E)) ++ Y) (H ++ (V ++ (E ++ Y))) := .of_eq (by rw [List.append_assoc, List.append_assoc])
  exact h1.trans (h2.trans (h3.trans h4)))
theorem pList_nil_ints : ∀ o, pList [] o → pInts [] o := fun o p => ⟨[], .nil, p⟩
def dot : List Int → List Int → Int
  | f :: fs, a :: r => dot fs r + a * f
  | _, _ => 0
def okK (kind : Nat) (M s : Int) : Prop := if kind = 0 then s ≤ M else if kind = 1 then s ≥ M else s = M
theorem gs_dot (g : Str → Int) : ∀ Ds : List Dm, gs g Ds = dot (Ds.map (·.f)) ((Ds.map (·.nm)).map g)
  | [] => rfl
  | D :: Ds => by
    show gs g Ds + g D.nm * D.f = dot (Ds.map (·.f)) ((Ds.map (·.nm)).map g) + g D.nm * D.f
    rw [gs_dot g Ds]
theorem exists_g : ∀ {nm : List Str} {r : List Int}, nm.Nodup → r.length = nm.length → ∃ g : Str → Int, nm.map g = r
  | [], [], _, _ => ⟨fun _ => 0, rfl⟩
  | n :: nm, a :: r, nd, hl => by
    obtain ⟨g, e⟩ := exists_g (List.nodup_cons.mp nd).2 (by simpa using hl)
    refine ⟨fun y => if y = n then a else g y, ?_⟩
    rw [List.map_cons, if_pos rfl, ← e]
    congr 1
    refine List.map_congr_left fun y hy => if_neg fun q => ?_
    subst q
    exact (List.nodup_cons.mp nd).1 hy
theorem prodL_length : ∀ {Vs : List (List Int)} {r : List Int}, r ∈ prodL Vs → r.length = Vs.length
  | [], r, h => by simp [prodL] at h; subst h; rfl
  | v :: Vs, r, h => by
    obtain ⟨a, ha, hm⟩ := List.mem_flatMap.mp (show r ∈ v.flatMap fun a => (prodL Vs).map (a :: ·) from h)
    obtain ⟨r', hr, rfl⟩ := List.mem_map.mp hm
    rw [List.length_cons, List.length_cons, prodL_length hr]
theorem rows_spec {Ds : List Dm} {kind : Nat} {M : Int} {r : List Int} (nd : (Ds.map (·.nm)).Nodup) :
    (∃ g, (Ext [] Ds g ∧ SatK kind M Ds g) ∧ r = (Ds.map (·.nm)).map g) ↔ r ∈ prodL (Ds.map (·.vs)) ∧ okK kind M (dot (Ds.map (·.f)) r) := by
  constructor
  · rintro ⟨g, ⟨h1, h2⟩, rfl⟩
    refine ⟨mem_prodL.mpr (ext_nil.mp h1), ?_⟩
    unfold SatK at h2
    rw [gs_dot] at h2
    exact h2
  · rintro ⟨h1, h2⟩
    obtain ⟨g, rfl⟩ := exists_g nd (r := r) (by rw [prodL_length h1, List.length_map, List.length_map])
    refine ⟨g, ⟨ext_nil.mpr (mem_prodL.mp h1), ?_⟩, rfl⟩
    unfold SatK
    rw [gs_dot]
    exact h2
theorem nms_nodup {m : Int} (hm : m = 2 ∨ m = 3) : (nms m).Nodup := by rcases hm with rfl | rfl <;> decide
theorem nms_len {m : Nat} (hm : m = 2 ∨ m = 3) : (nms m).length = m := by rcases hm with rfl | rfl <;> rfl
theorem not_mem_take {α : Type} {l : List α} {i : Nat} {a : α} (nd : l.Nodup) (h : l[i]? = some a) : a ∉ l.take i := fun hm => by
  obtain ⟨j, hj, e⟩ := List.mem_iff_getElem.mp hm
  obtain ⟨hi, e2⟩ := List.getElem?_eq_some_iff.mp h
  rw [List.getElem_take] at e
  rw [List.length_take] at hj
  have := (List.getElem_inj (h₀ := by omega) (h₁ := hi) nd).mp (e.trans e2.symm)
  omega
theorem dmap_none {Ds : List Dm} {x : Str} (h : x ∉ Ds.map (·.nm)) : valueAt (dmap Ds) x = none := by
  unfold valueAt
  rw [List.find?_eq_none.mpr]
  · rfl
  · intro p hp
    obtain ⟨D, hD, rfl⟩ := List.mem_map.mp hp
    simp only [decide_eq_true_eq]
    exact fun e => h (List.mem_map.mpr ⟨D, hD, e⟩)
theorem dmap_snoc {Ds : List Dm} {D : Dm} (h : D.nm ∉ Ds.map (·.nm)) : stored (dmap Ds) D.nm (.ref D.d) = dmap (Ds ++ [D]) := by
  rw [stored_new (by unfold asgd; rw [dmap_none h]; rfl)]
  unfold dmap
  rw [List.map_append]; rfl
theorem dcl_snoc {Ds : List Dm} {D : Dm} {X : List Cell} : Sel (dcl (Ds ++ [D]) ++ X) ((D.d, pDomL 303 D.dd D.vs) :: (D.dd, pAttr 2 (domA D.hd D.st)) :: (D.hd, pInts D.hs) :: (D.st, pInts D.ss) :: (dcl Ds ++ X)) := by
  have := unfocus (A := Ds) (B := []) (D := D) (X := X)
  rw [List.append_nil] at this
  exact this
set_option maxHeartbeats 1000000
local macro_rules | `(tactic| k_extra "sts") => `(tactic| repeat ((fail_if_success (with_reducible show Tr _ (subscriptTail _ _ _ _) _ _)); k_extra "st"))
section
variable {mg mb : Str → Option Value} {c : Cx} {X V : List Cell}
theorem law_solved {m which : Nat} {n M : Int} {tk tw tM : Tok} {vl va : Addr} {nvs : List Value} {VS : List Row} {fl : Option Addr} {fs : List Int} {Q : Value → List Cell → Prop} (hcG : c.G = AllBare)
    (B : Bs (hd.heap_39 c.w.params) c mg mb) (R : Rm 88 c.A) (hm : m = 2 ∨ m = 3) (hnm : StrsAre nvs (nms m)) (hV : VS.length = m) (hfs : fs.length = m) (hf1 : fl = none → ∀ f ∈ fs, f = 1) (hf0 : ∀ f ∈ fs, 0 ≤ f) (hw : which < 3)
    (hvals : ∀ x ∈ VS, x.2 ≠ [] ∧ x.2.Nodup ∧ x.2.length ≤ 3 ∧ ∀ a ∈ x.2, 0 ≤ a ∧ a ≤ 4)
    (h : ∀ Dl RS, RS.Pairwise (fun x y => code x.2 < code y.2) → (∀ r, r ∈ RS.map (·.2) ↔ r ∈ prodL (VS.map (·.2)) ∧ okK which M (dot fs r)) → Q (.ref Dl) ((Dl, pList (rowVals RS)) :: (rcs RS ++ ((vl, pList nvs) :: (va, pList (rowVals VS)) :: (lcs VS ++ (flF fl fs ++ X)))))) :
    Tr c (call (.ref 501) [.int n tk, .int which tw, .ref vl, .ref va, .int M tM, mulV fl] []) ((vl, pList nvs) :: (va, pList (rowVals VS)) :: (lcs VS ++ (flF fl fs ++ X))) Q := by
  refine' tr_call (binds := [(Str.ofString "kind", .int n tk), (Str.ofString "which", .int which tw), (Str.ofString "names", .ref vl), (Str.ofString "values", .ref va), (Str.ofString "bound", .int M tM), (Str.ofString "factors", mulV fl)]) B R ?ho ?hcd ?hb ?hloc ?_ ?c1 ?c2 ?c3 ?c4
  k_extra "enter"
  intro Lf
  have hz := sz24
  have hnl : nvs.length = m := by rw [ints_len_strs hnm, nms_len hm]
  have hm3 : m ≤ 3 := by omega
  repeat k_extra "st"
  refine Tr.sel Sel.refl (law_problem (B.deeper _) ((R.deeper _).le (by omega)) fun p pd sv sd cs vs S b hS => ?_)
  repeat k_extra "st"
  refine tr_range fun r => ?_
  rw [hnl]
  refine tr_iterRange (by k_extra "mem") (by omega) fun it => ?_
  subst hV
  refine TrC.join (J := fun L' => ∃ Ds fm, Ds.map (·.nm) = nms VS.length ∧ Ds.map (·.vs) = VS.map (·.2) ∧ Ds.map (·.f) = fs ∧ (∀ D ∈ Ds, D.hs = [] ∧ D.ss = []) ∧
    FrHas fm [(Str.ofString "problem", .ref p), (Str.ofString "which", .int which tw), (Str.ofString "names", .ref vl), (Str.ofString "values", .ref va), (Str.ofString "bound", .int M tM), (Str.ofString "factors", mulV fl)] ∧
    Sel ((p, pInst 110 pd) :: (pd, pAttr 3 (probA sv cs vs)) :: (vs, pDict c (dmap Ds)) :: (sv, pInst S sd) :: (sd, pAttr 1 (solA b)) :: (cs, pList []) :: (Lf, pNs fm) :: (vl, pList nvs) :: (va, pList (rowVals VS)) :: (lcs VS ++ (dcl Ds ++ (flF fl fs ++ X)))) L') ?_ ?loop
  rotate_left
  · refine tr_forLoop (fun n L' => ∃ A Bz Ds fm, VS = A ++ Bz ∧ n = Bz.length ∧ Ds.map (·.nm) = (nms VS.length).take A.length ∧ Ds.map (·.vs) = A.map (·.2) ∧ Ds.map (·.f) = fs.take A.length ∧ (∀ D ∈ Ds, D.hs = [] ∧ D.ss = []) ∧
      FrHas fm [(Str.ofString "problem", .ref p), (Str.ofString "which", .int which tw), (Str.ofString "names", .ref vl), (Str.ofString "values", .ref va), (Str.ofString "bound", .int M tM), (Str.ofString "factors", mulV fl)] ∧
      Sel ((it, pRIter A.length Bz.length) :: (p, pInst 110 pd) :: (pd, pAttr 3 (probA sv cs vs)) :: (vs, pDict c (dmap Ds)) :: (sv, pInst S sd) :: (sd, pAttr 1 (solA b)) :: (cs, pList []) :: (Lf, pNs fm) :: (vl, pList nvs) :: (va, pList (rowVals VS)) :: (lcs VS ++ (dcl Ds ++ (flF fl fs ++ X)))) L') ?_ VS.length ?init
    rotate_left
    · refine' ⟨[], VS, [], _, rfl, rfl, rfl, rfl, rfl, fun _ h => (nomatch h), ?hf, ?hs⟩
      (case hs => k_extra "sel")
      (case hf => k_extra "fr")
    intro n L' hI
    obtain ⟨A, Bz, Ds, fm, hVS, rfl, hDn, hDv, hDf, hDh, hF, hsel⟩ := hI
    refine Tr.sel hsel ?_
    clear hsel
    cases Bz with
    | nil =>
      rw [List.append_nil] at hVS
      subst hVS
      refine tr_nextRangeEnd (R.deeper _) (by k_extra "rem") (by simp) ?_
      dsimp only
      refine tr_execs_nil ?_
      exact ⟨Ds, fm, by rw [hDn, List.take_of_length_le (by rw [nms_len hm]; exact Nat.le_refl _)], hDv, by rw [hDf, List.take_of_length_le (by omega)], hDh, hF, by k_extra "sel"⟩
    | cons x Bz =>
      have hAm : A.length < VS.length := by rw [hVS]; simp
      have hxm : x ∈ VS := by rw [hVS]; simp
      obtain ⟨v1, v2, v3, v4⟩ := hvals x hxm
      have hni : (nms VS.length)[A.length]? = some ((nms VS.length)[A.length]'(by rw [nms_len hm]; exact hAm)) := List.getElem?_eq_getElem _
      generalize (nms VS.length)[A.length]'(by rw [nms_len hm]; exact hAm) = nm at hni
      obtain ⟨tn, hnx⟩ := strs_get hnm hni
      have hfi : fs[A.length]? = some (fs[A.length]'(by omega)) := List.getElem?_eq_getElem _
      generalize fs[A.length]'(by omega) = fx at hfi
      refine tr_nextRange (by k_extra "upd") (by simp) fun t => ?_
      dsimp only
      have e1 : ((A.length : Int) + 1) = (((A ++ [x]).length : Nat) : Int) := by simp
      have e2 : (((x :: Bz).length : Nat) : Int) - 1 = ((Bz.length : Nat) : Int) := by simp
      rw [e1, e2]
      k_extra "sts"
      refine tr_itemList (by k_extra "mem") hnx (by omega) ?_
      k_extra "sts"
      refine tr_itemList (x := .ref x.1) (by k_extra "mem") (by simp [rowVals, hVS]) (by simp [rowVals]; omega) ?_
      k_extra "sts"
      have sf : ∀ Y, Sel ((x.1, pInts x.2) :: (lcs (A ++ Bz) ++ Y)) (lcs VS ++ Y) := fun Y => by rw [hVS]; exact lcs_focus
      have su : ∀ Y, Sel (lcs VS ++ Y) ((x.1, pInts x.2) :: (lcs (A ++ Bz) ++ Y)) := fun Y => by rw [hVS]; exact lcs_unfocus
      have hnn : nm ∉ Ds.map (·.nm) := by rw [hDn]; exact not_mem_take (nms_nodup (by rcases hm with q | q <;> rw [q] <;> simp)) hni
      have hDl : Ds.length = A.length := by have := congrArg List.length hDv; simpa using this
      refine Tr.sel (L' := (p, pInst 110 pd) :: (pd, pAttr 3 (probA sv cs vs)) :: (vs, pDict c (dmap Ds)) :: (x.1, pInts x.2) :: (lcs (A ++ Bz) ++ ((it, pRIter ((A ++ [x]).length : Nat) (Bz.length : Nat)) :: (sv, pInst S sd) :: (sd, pAttr 1 (solA b)) :: (cs, pList []) :: (Lf, pNs fun y => if y = Str.ofString "k" then some (Value.int (A.length) t) else fm y) :: (vl, pList nvs) :: (va, pList (rowVals VS)) :: (dcl Ds ++ (flF fl fs ++ X))))) ?sl
        (add_var (B.deeper _) ((R.deeper _).le (by omega)) (by omega) v1 (by simp [dmap]; omega) (dmap_none hnn) fun d dd hd st => ?_).tr
      (case sl => exact Sel.trans (Sel.trans (by k_extra "sel") (sf ((p, pInst 110 pd) :: (pd, pAttr 3 (probA sv cs vs)) :: (vs, pDict c (dmap Ds)) :: (it, pRIter ((A ++ [x]).length : Nat) (Bz.length : Nat)) :: (sv, pInst S sd) :: (sd, pAttr 1 (solA b)) :: (cs, pList []) :: (Lf, pNs fun y => if y = Str.ofString "k" then some (Value.int (A.length) t) else fm y) :: (vl, pList nvs) :: (va, pList (rowVals VS)) :: (dcl Ds ++ (flF fl fs ++ X))))) (by k_extra "sel"))
      k_extra "st"
      refine Tr.loosenU (a := hd) (P := pList []) (P' := pInts []) (by k_extra "upd") pList_nil_ints ?_
      refine Tr.loosenU (a := st) (P := pList []) (P' := pInts []) (by k_extra "upd") pList_nil_ints ?_
      refine tr_execs_nil ?_
      have e3 := dmap_snoc (Ds := Ds) (D := { nm := nm, f := fx, d := d, dd := dd, hd := hd, st := st, vs := x.2, hs := [], ss := [] }) hnn
      dsimp only at e3
      rw [e3]
      refine' ⟨Bz.length, _, by simp, Sel.refl, A ++ [x], Bz, Ds ++ [({ nm := nm, f := fx, d := d, dd := dd, hd := hd, st := st, vs := x.2, hs := [], ss := [] } : Dm)], (fun y => if y = Str.ofString "k" then some (Value.int (A.length) t) else fm y), by simp [hVS], rfl, ?h1, ?h2, ?h3, ?h4, ?hf, ?hs⟩
      (case h1 => rw [List.map_append, hDn, List.length_append, List.length_singleton, List.take_add_one, hni]; rfl)
      (case h2 => rw [List.map_append, hDv, List.map_append]; rfl)
      (case h3 => rw [List.map_append, hDf, List.length_append, List.length_singleton, List.take_add_one, hfi]; rfl)
      (case h4 =>
        intro D hD
        rcases List.mem_append.mp hD with hD | hD
        · exact hDh D hD
        · rw [List.mem_singleton.mp hD]; exact ⟨rfl, rfl⟩)
      (case hf => k_extra "fr")
      (case hs =>
        refine Sel.trans (mvB (H := [(it, pRIter ((A ++ [x]).length : Nat) (Bz.length : Nat)), (p, pInst 110 pd), (pd, pAttr 3 (probA sv cs vs)), (vs, pDict c (dmap (Ds ++ [({ nm := nm, f := fx, d := d, dd := dd, hd := hd, st := st, vs := x.2, hs := [], ss := [] } : Dm)]))), (sv, pInst S sd), (sd, pAttr 1 (solA b)), (cs, pList []), (Lf, pNs fun y => if y = Str.ofString "k" then some (Value.int (A.length) t) else fm y), (vl, pList nvs), (va, pList (rowVals VS))]) (V := lcs VS) (E := dcl (Ds ++ [({ nm := nm, f := fx, d := d, dd := dd, hd := hd, st := st, vs := x.2, hs := [], ss := [] } : Dm)])) (Y := flF fl fs ++ X)) ?_
        refine Sel.trans (su _) ?_
        refine Sel.cons (by k_extra "rem") ?_
        refine Sel.block (by k_extra "remb") ?_
        refine Sel.trans dcl_snoc ?_
        simp only [List.cons_append, List.nil_append]
        k_extra "sel")
  · intro L' hJ
    obtain ⟨Ds, fm, hDn, hDv, hDf, hDh, hF, hsel⟩ := hJ
    refine Tr.sel hsel ?_
    clear hsel
    have ek : flF fl fs = flC fl Ds := by cases fl with | none => rfl | some a => show [(a, pInts fs)] = [(a, pInts (Ds.map (·.f)))]; rw [hDf]
    have hDl : Ds.length = VS.length := by have := congrArg List.length hDv; simpa using this
    have hDV : ∀ D ∈ Ds, ∃ x ∈ VS, D.vs = x.2 := fun D hD => by
      have : D.vs ∈ Ds.map (·.vs) := List.mem_map.mpr ⟨D, hD, rfl⟩
      rw [hDv] at this
      obtain ⟨x, hx, e⟩ := List.mem_map.mp this
      exact ⟨x, hx, e.symm⟩
    have hDF : ∀ D ∈ Ds, D.f ∈ fs := fun D hD => by rw [← hDf]; exact List.mem_map.mpr ⟨D, hD, rfl⟩
    have hg1 : fl = none → ∀ D ∈ Ds, D.f = 1 := fun e D hD => hf1 e _ (hDF D hD)
    have hg2 : ∀ D ∈ Ds, D.vs.Nodup := fun D hD => by obtain ⟨x, hx, e⟩ := hDV D hD; rw [e]; exact (hvals x hx).2.1
    have hg3 : ∀ D ∈ Ds, D.vs.length ≤ 3 := fun D hD => by obtain ⟨x, hx, e⟩ := hDV D hD; rw [e]; exact (hvals x hx).2.2.1
    have hW : Wf nvs [] Ds := by
      refine ⟨by rw [hDn]; exact hnm, by rw [hDn]; exact nms_nodup (by omega), fun x v hv => (nomatch hv), fun D hD a ha => ?_, fun D hD => hf0 _ (hDF D hD), by omega, fun D hD => ?_, fun e => ?_⟩
      · rcases ha with ha | ha
        · exact nomatch ha
        · obtain ⟨x, hx, e⟩ := hDV D hD
          rw [e] at ha
          exact (hvals x hx).2.2.2 a ha
      · have := hg3 D hD
        rw [(hDh D hD).1]; simp; omega
      · rw [e] at hDl; simp at hDl; omega
    rw [ek]
    have hw3 : which = 0 ∨ which = 1 ∨ which = 2 := by omega
    rcases hw3 with rfl | rfl | rfl
    · k_extra "sts"
      refine ⟨fun _ => ?_, fun q => absurd q (by decide)⟩
      k_extra "sts"
      refine (max_make (B.deeper _) ((R.deeper _).le (by omega)) fun con cd => ?_).tr
      k_extra "sts"
      refine Tr.sel (by k_extra "sel") (add_con (C := 410) (es := []) (B.deeper _) ((R.deeper _).le (by omega)) (by decide) (by k_is) fun tp => ?_).tr
      k_extra "sts"
      refine Tr.sel (by k_extra "sel") (law_rows (k := ⟨0, con, cd, M, tM, fl⟩) (c := c.deeper _) hcG hS (B.deeper _) ((R.deeper _).le (by omega)) hW (by omega) (by omega) (Nat.le_of_ble_eq_true rfl) hg1 hDh hg2 hg3 fun Dl RS q1 q2 => ?_)
      k_extra "sts"
      rw [← ek]
      exact ⟨_, by k_extra "sel", h Dl RS q1 fun r => (q2 r).trans ((rows_spec hW.nd).trans (by rw [hDv, hDf]))⟩
    · k_extra "sts"
      refine ⟨fun q => absurd q (by decide), fun _ => ?_⟩
      k_extra "sts"
      refine ⟨fun _ => ?_, fun q => absurd q (by decide)⟩
      k_extra "sts"
      refine (min_make (B.deeper _) ((R.deeper _).le (by omega)) fun con cd => ?_).tr
      k_extra "sts"
      refine Tr.sel (by k_extra "sel") (add_con (C := 473) (es := []) (B.deeper _) ((R.deeper _).le (by omega)) (by decide) (by k_is) fun tp => ?_).tr
      k_extra "sts"
      refine Tr.sel (by k_extra "sel") (law_rows (k := ⟨1, con, cd, M, tM, fl⟩) (c := c.deeper _) hcG hS (B.deeper _) ((R.deeper _).le (by omega)) hW (by omega) (by omega) (Nat.le_of_ble_eq_true rfl) hg1 hDh hg2 hg3 fun Dl RS q1 q2 => ?_)
      k_extra "sts"
      rw [← ek]
      exact ⟨_, by k_extra "sel", h Dl RS q1 fun r => (q2 r).trans ((rows_spec hW.nd).trans (by rw [hDv, hDf]))⟩
    · k_extra "sts"
      refine ⟨fun q => absurd q (by decide), fun _ => ?_⟩
      k_extra "sts"
      refine ⟨fun q => absurd q (by decide), fun _ => ?_⟩
      k_extra "sts"
      refine (exact_make (B.deeper _) ((R.deeper _).le (by omega)) fun con cd => ?_).tr
      k_extra "sts"
      refine Tr.sel (by k_extra "sel") (add_con (C := 445) (es := []) (B.deeper _) ((R.deeper _).le (by omega)) (by decide) (by k_is) fun tp => ?_).tr
      k_extra "sts"
      refine Tr.sel (by k_extra "sel") (law_rows (k := ⟨2, con, cd, M, tM, fl⟩) (c := c.deeper _) hcG hS (B.deeper _) ((R.deeper _).le (by omega)) hW (by omega) (by omega) (Nat.le_of_ble_eq_true rfl) hg1 hDh hg2 hg3 fun Dl RS q1 q2 => ?_)
      k_extra "sts"
      rw [← ek]
      exact ⟨_, by k_extra "sel", h Dl RS q1 fun r => (q2 r).trans ((rows_spec hW.nd).trans (by rw [hDv, hDf]))⟩
end
end
end Mine
namespace Mine
abbrev Asc (l : List (List Int)) : Prop := l.Pairwise fun a b => code a < code b
theorem asc_ext : ∀ {l l' : List (List Int)}, Asc l → Asc l' → (∀ r, r ∈ l ↔ r ∈ l') → l = l'
  | [], [], _, _, _ => rfl
  | [], b :: l', _, _, h => nomatch (h b).mpr (.head _)
  | a :: l, [], _, _, h => nomatch (h a).mp (.head _)
  | a :: l, b :: l', h1, h2, h => by
    obtain ⟨a1, a2⟩ := List.pairwise_cons.mp h1
    obtain ⟨b1, b2⟩ := List.pairwise_cons.mp h2
    have e : a = b := by
      rcases List.mem_cons.mp ((h a).mp (.head _)) with q | q
      · exact q
      · rcases List.mem_cons.mp ((h b).mpr (.head _)) with q2 | q2
        · exact q2.symm
        · have := b1 a q; have := a1 b q2; omega
    subst e
    rw [asc_ext a2 b2 fun r => ?_]
    constructor
    · intro hr
      rcases List.mem_cons.mp ((h r).mp (.tail _ hr)) with q | q
      · subst q; have := a1 r hr; omega
      · exact q
    · intro hr
      rcases List.mem_cons.mp ((h r).mpr (.tail _ hr)) with q | q
      · subst q; have := b1 r hr; omega
      · exact q
theorem code_foldl (r : List Int) : ∀ s : Int, r.foldl (fun a x => 5 * a + x) s = s * 5 ^ r.length + code r := by
  induction r with
  | nil => intro s; simp [code]
  | cons a r ih =>
    intro s
    unfold code
    rw [List.foldl_cons, List.foldl_cons, ih, ih (5 * 0 + a), List.length_cons, Int.pow_succ]
    have : (5 * s + a) * 5 ^ r.length = s * (5 ^ r.length * 5) + a * 5 ^ r.length := by
      rw [Int.add_mul, Int.mul_comm 5 s, Int.mul_assoc, Int.mul_comm 5]
    rw [this]
    simp only [Int.mul_zero, Int.zero_add]
    omega
theorem code_cons (a : Int) (r : List Int) : code (a :: r) = a * 5 ^ r.length + code r := by
  unfold code
  rw [List.foldl_cons, code_foldl]
  simp [code]
theorem code_bound : ∀ {r : List Int}, (∀ a ∈ r, 0 ≤ a ∧ a ≤ 4) → 0 ≤ code r ∧ code r < 5 ^ r.length
  | [], _ => ⟨by decide, by decide⟩
  | a :: r, h => by
    have ih := code_bound (r := r) fun x hx => h x (.tail _ hx)
    have ha := h a (.head _)
    rw [code_cons, List.length_cons, Int.pow_succ]
    generalize (5 : Int) ^ r.length = P at *
    have hP : 0 < P := by omega
    have h1 : 0 ≤ a * P := Int.mul_nonneg ha.1 (by omega)
    have h2 : a * P ≤ 4 * P := Int.mul_le_mul_of_nonneg_right ha.2 (by omega)
    omega
theorem prodL_range {Vs : List (List Int)} (h : ∀ v ∈ Vs, ∀ a ∈ v, 0 ≤ a ∧ a ≤ 4) : ∀ {r}, r ∈ prodL Vs → ∀ a ∈ r, 0 ≤ a ∧ a ≤ 4 := by
  induction Vs with
  | nil => intro r hr a ha; simp [prodL] at hr; subst hr; exact nomatch ha
  | cons v Vs ih =>
    intro r hr a ha
    obtain ⟨b, hb, hm⟩ := List.mem_flatMap.mp (show r ∈ v.flatMap fun a => (prodL Vs).map (a :: ·) from hr)
    obtain ⟨r', hr', rfl⟩ := List.mem_map.mp hm
    rcases List.mem_cons.mp ha with rfl | ha
    · exact h v (.head _) _ hb
    · exact ih (fun w hw => h w (.tail _ hw)) hr' a ha
theorem prodL_asc : ∀ {Vs : List (List Int)}, (∀ v ∈ Vs, v.Pairwise (· < ·) ∧ ∀ a ∈ v, 0 ≤ a ∧ a ≤ 4) → Asc (prodL Vs)
  | [], _ => List.pairwise_singleton ..
  | v :: Vs, h => by
    have ih := prodL_asc (Vs := Vs) fun w hw => h w (.tail _ hw)
    have hr : ∀ {r}, r ∈ prodL Vs → ∀ a ∈ r, 0 ≤ a ∧ a ≤ 4 := prodL_range (Vs := Vs) fun w hw => (h w (.tail _ hw)).2
    obtain ⟨hv, hva⟩ := h v (.head _)
    show Asc (v.flatMap fun a => (prodL Vs).map (a :: ·))
    clear h
    induction v with
    | nil => exact .nil
    | cons a v iv =>
      obtain ⟨v1, v2⟩ := List.pairwise_cons.mp hv
      rw [List.flatMap_cons]
      refine List.pairwise_append.mpr ⟨List.pairwise_map.mpr (ih.imp_of_mem fun {x y} hx hy hxy => ?_), iv v2 (fun b hb => hva b (.tail _ hb)), fun x hx y hy => ?_⟩
      · rw [code_cons, code_cons, prodL_length hx, prodL_length hy]; omega
      · obtain ⟨x', hx', rfl⟩ := List.mem_map.mp hx
        obtain ⟨b, hb, hm⟩ := List.mem_flatMap.mp hy
        obtain ⟨y', hy', rfl⟩ := List.mem_map.mp hm
        have c1 := code_bound (hr hx')
        have c2 := code_bound (hr hy')
        rw [code_cons, code_cons]
        rw [prodL_length hx'] at c1 ⊢
        rw [prodL_length hy'] at c2 ⊢
        have hab := v1 b hb
        generalize (5 : Int) ^ Vs.length = P at *
        have h1 : (a + 1) * P ≤ b * P := Int.mul_le_mul_of_nonneg_right (by omega) (by omega)
        rw [Int.add_mul, Int.one_mul] at h1
        omega
theorem count3 (f : List Int → Int) (M : Int) : ∀ P : List (List Int), (P.filter fun r => decide (f r ≤ M)).length + (P.filter fun r => decide (f r ≥ M)).length = P.length + (P.filter fun r => decide (f r = M)).length
  | [] => rfl
  | r :: P => by
    have ih := count3 f M P
    have e : ∀ (p : List Int → Bool), ((r :: P).filter p).length = (P.filter p).length + (if p r then 1 else 0) := fun p => by
      rw [List.filter_cons]
      split <;> simp
    rw [e, e, e, List.length_cons]
    rcases Int.lt_trichotomy (f r) M with q | q | q
    · rw [if_pos (by simp; omega), if_neg (by simp; omega), if_neg (by simp; omega)]; omega
    · rw [if_pos (by simp; omega), if_pos (by simp; omega), if_pos (by simp; omega)]; omega
    · rw [if_neg (by simp; omega), if_pos (by simp; omega), if_neg (by simp; omega)]; omega
theorem specR_list {VS : List Row} {fs : List Int} {w : Nat} {M : Int} {RS : List Row} (hP : Asc (prodL (VS.map (·.2)))) (h1 : RS.Pairwise fun x y => code x.2 < code y.2) (h2 : ∀ r, r ∈ RS.map (·.2) ↔ r ∈ prodL (VS.map (·.2)) ∧ okK w M (dot fs r)) (p : List Int → Bool) (hp : ∀ r, p r = true ↔ okK w M (dot fs r)) :
    RS.map (·.2) = (prodL (VS.map (·.2))).filter p := by
  refine asc_ext (List.pairwise_map.mpr h1) (hP.sublist List.filter_sublist) fun r => ?_
  rw [h2, List.mem_filter, hp]
theorem asc_nodup {l : List (List Int)} (h : Asc l) : l.Nodup := h.imp fun {a b} q e => by subst e; omega
end Mine
namespace Mine
def mir (r : List Int) : List Int := r.map fun a => 4 - a
theorem mir_mir (r : List Int) : mir (mir r) = r := by
  unfold mir
  rw [List.map_map]
  refine (List.map_congr_left fun a _ => ?_).trans (List.map_id r)
  show 4 - (4 - a) = a
  omega
theorem mir_len (r : List Int) : (mir r).length = r.length := List.length_map ..
theorem prodL_consI {a : Int} {r v : List Int} {Vs : List (List Int)} : a :: r ∈ prodL (v :: Vs) ↔ a ∈ v ∧ r ∈ prodL Vs := by
  show (a :: r ∈ v.flatMap fun a => (prodL Vs).map (a :: ·)) ↔ _
  rw [List.mem_flatMap]
  constructor
  · rintro ⟨b, hb, hm⟩
    obtain ⟨r', hr, e⟩ := List.mem_map.mp hm
    rw [List.cons.injEq] at e
    exact ⟨e.1 ▸ hb, e.2 ▸ hr⟩
  · rintro ⟨h1, h2⟩
    exact ⟨a, h1, List.mem_map.mpr ⟨r, h2, rfl⟩⟩
theorem prodL_nilI {v : List Int} {Vs : List (List Int)} : ¬ ([] ∈ prodL (v :: Vs)) := fun h => by
  have := prodL_length h
  simp at this
theorem mem_mir {a : Int} {v : List Int} : a ∈ mir v ↔ 4 - a ∈ v := by
  unfold mir
  rw [List.mem_map]
  constructor
  · rintro ⟨b, hb, rfl⟩
    rw [show 4 - (4 - b) = b by omega]
    exact hb
  · intro h
    exact ⟨4 - a, h, by omega⟩
theorem prodL_mir : ∀ {Vs : List (List Int)} {r : List Int}, r ∈ prodL (Vs.map mir) ↔ mir r ∈ prodL Vs
  | [], [] => Iff.rfl
  | [], a :: r => by
    constructor
    · intro h; have := prodL_length h; simp at this
    · intro h; have := prodL_length h; simp [mir] at this
  | v :: Vs, [] => by
    constructor
    · intro h; exact absurd h prodL_nilI
    · intro h; exact absurd h prodL_nilI
  | v :: Vs, a :: r => by
    show a :: r ∈ prodL (mir v :: Vs.map mir) ↔ (4 - a) :: mir r ∈ prodL (v :: Vs)
    rw [prodL_consI, prodL_consI, mem_mir, prodL_mir]
theorem dot_mir : ∀ {fs r : List Int}, fs.length = r.length → dot fs (mir r) = 4 * fs.sum - dot fs r
  | [], [], _ => rfl
  | f :: fs, a :: r, h => by
    have ih := dot_mir (fs := fs) (r := r) (by simpa using h)
    show dot fs (mir r) + (4 - a) * f = 4 * (f :: fs).sum - (dot fs r + a * f)
    rw [ih, List.sum_cons, Int.sub_mul]
    omega
theorem dot_le : ∀ {fs r : List Int}, fs.length = r.length → (∀ f ∈ fs, 0 ≤ f) → (∀ a ∈ r, 0 ≤ a ∧ a ≤ 4) → dot fs r ≤ 4 * fs.sum
  | [], [], _, _, _ => by decide
  | f :: fs, a :: r, h, hf, hr => by
    have ih := dot_le (fs := fs) (r := r) (by simpa using h) (fun x hx => hf x (.tail _ hx)) (fun x hx => hr x (.tail _ hx))
    show dot fs r + a * f ≤ 4 * (f :: fs).sum
    have h1 := hf f (.head _)
    have h2 := hr a (.head _)
    have h3 : a * f ≤ 4 * f := Int.mul_le_mul_of_nonneg_right h2.2 h1
    rw [List.sum_cons]
    omega
theorem back_eq {Vs : List (List Int)} {fs : List Int} {M : Int} {w w' : Nat} {Ls Bs Rs : List (List Int)} (hw : (w = 0 ∧ w' = 1) ∨ (w = 1 ∧ w' = 0)) (hf : fs.length = Vs.length)
    (aL : Asc Ls) (hL : ∀ r, r ∈ Ls ↔ r ∈ prodL Vs ∧ okK w M (dot fs r)) (hR : ∀ r, r ∈ Rs ↔ r ∈ prodL (Vs.map mir) ∧ okK w' (4 * fs.sum - M) (dot fs r))
    (aB : Asc Bs) (hB : List.Perm Bs (Rs.map mir)) : Bs = Ls := by
  refine asc_ext aB aL fun r => ?_
  rw [hB.mem_iff, List.mem_map, hL]
  have key : ∀ r, r ∈ prodL Vs → (okK w' (4 * fs.sum - M) (dot fs (mir r)) ↔ okK w M (dot fs r)) := fun r hr => by
    rw [dot_mir (hf.trans (prodL_length hr).symm)]
    rcases hw with ⟨rfl, rfl⟩ | ⟨rfl, rfl⟩
    · show 4 * fs.sum - dot fs r ≥ 4 * fs.sum - M ↔ dot fs r ≤ M
      omega
    · show 4 * fs.sum - dot fs r ≤ 4 * fs.sum - M ↔ dot fs r ≥ M
      omega
  constructor
  · rintro ⟨r', hr', rfl⟩
    obtain ⟨h1, h2⟩ := (hR r').mp hr'
    have h3 := prodL_mir.mp h1
    refine ⟨h3, (key _ h3).mp ?_⟩
    rw [mir_mir]
    exact h2
  · rintro ⟨h1, h2⟩
    refine ⟨mir r, (hR _).mpr ⟨prodL_mir.mpr (by rw [mir_mir]; exact h1), (key r h1).mpr h2⟩, mir_mir r⟩
theorem mir_inj {a b : List Int} (h : mir a = mir b) : a = b := by rw [← mir_mir a, h, mir_mir]
theorem mir_rows {VR VT : List Row} (h : VT.map (·.2) = VR.map fun x => mir x.2) : VT.map (·.2) = (VR.map (·.2)).map mir := by rw [h, List.map_map]; rfl
theorem mir_nodup {r : List Int} (h : r.Nodup) : (mir r).Nodup := List.pairwise_map.mpr (h.imp fun {a b} q e => q (by omega))
theorem mir_range {r : List Int} (h : ∀ a ∈ r, 0 ≤ a ∧ a ≤ 4) : ∀ a ∈ mir r, 0 ≤ a ∧ a ≤ 4 := fun a ha => by
  have := h _ (mem_mir.mp ha)
  omega
section
variable {K : Frag} {mg mb : Str → Option Value} {c : Cx} {L : List Cell} {env : Env} {n : Nat} {pos : Pos}
theorem Sel.underB {W A B : List Cell} (h : Sel A B) : Sel (W ++ A) (W ++ B) := by
  obtain ⟨Z, q⟩ := h
  exact ⟨Z, by rw [List.append_assoc]; exact q.append_left W⟩
theorem tr_BoolAnd {e₁ e₂ : Expr} {rest : List Expr} {Q : Value → List Cell → Prop} (h : Tr c (eval e₁ env) L fun v L1 => Tr c (truthy v) L1 fun b L2 => (b = false → Q v L2) ∧ (b = true → Tr c (eval (.BoolOp .And (e₂ :: rest) pos) env) L2 Q)) :
    Tr c (eval (.BoolOp .And (e₁ :: e₂ :: rest) pos) env) L Q := fun s H g o =>
  BoolOp_and (h.use H g o fun v s1 L1 H1 g1 o1 q => q.use H1 g1 o1 fun b s2 L2 H2 g2 o2 q2 => by
    cases b with
    | false => exact ⟨L2, H2, g2, o2, q2.1 rfl⟩
    | true => exact q2.2 rfl _ H2 g2 o2)
end
end Mine
namespace Mine
set_option maxHeartbeats 4000000
local macro_rules | `(tactic| k_extra "mem") => `(tactic| first | exact List.Mem.head _ | (refine List.Mem.tail _ ?_; k_extra "mem") | exact List.mem_append_left _ (by assumption) | (refine List.mem_append_right _ ?_; k_extra "mem"))
local macro_rules | `(tactic| k_extra "upd") => `(tactic| first | exact Upd1.head | (apply Upd1.tail; k_extra "upd") | (apply Upd1.skip; k_extra "upd"))
local macro_rules | `(tactic| k_extra "rem") => `(tactic| first | exact Rem1.head | (apply Rem1.tail; k_extra "rem") | (apply Rem1.skip; k_extra "rem"))
local macro_rules | `(tactic| k_extra "remb") => `(tactic| first | exact RemB.head | (apply RemB.tail; k_extra "remb") | (apply RemB.skip; k_extra "remb"))
local macro_rules | `(tactic| k_extra "sel") => `(tactic| first | exact Sel.refl | exact Sel.nil | (apply Sel.cons; k_extra "rem"; k_extra "sel") | (apply Sel.block; k_extra "remb"; k_extra "sel") | (apply Sel.drop; k_extra "sel") | (apply Sel.dropB; k_extra "sel"))
local macro_rules | `(tactic| k_extra "hv") => `(tactic| first | exact rfl | (refine (if_neg (by decide)).trans ?_; k_extra "hv") | (refine' FrHas.get ?f ?g; (case f => assumption); (case g => k_extra "mem")))
local macro_rules | `(tactic| k_extra "fr") => `(tactic| first | assumption | with_reducible exact FrHas.nil | ((with_reducible refine FrHas.cons ?hv ?_); (case hv => k_extra "hv"); k_extra "fr"))
local macro_rules | `(tactic| k_extra "B") => `(tactic| first | assumption | exact Bs.deeper (by assumption) _ | exact Bs.wA (by assumption) _ | exact Bs.deeper (Bs.wA (by assumption) _) _)
local macro_rules | `(tactic| k_extra "R") => `(tactic| first | assumption | exact Rm.deeper (Rm.le (by assumption)) _ | exact Rm.le (by assumption) | exact Rm.le (Rm.deeper (Rm.le (by assumption)) _))
local macro_rules | `(tactic| k_extra "getok") => `(tactic| first | (refine' GetOk.obj ?a ?b; (case a => k_is); (case b => k_is)) | (refine' GetOk.lst ?a ?b ?c; (case a => k_is); (case b => k_is); (case c => k_is)))
local macro_rules | `(tactic| k_extra "isinst") => `(tactic| first | exact pDomL_is | exact pInst_is | exact pSub_is)
local macro_rules | `(tactic| k_extra "len") => `(tactic| first | assumption | (simp only [List.length_append, List.length_cons, List.length_nil] at *; have := sz24; omega) | (have := sz24; omega))
local macro_rules | `(tactic| k_extra "enter") => `(tactic| (
  (case ho => k_is)
  (case hcd => k_is)
  (case hb => exact fun _ _ => BindsTo.of_eq rfl)
  (case hloc => exact locs rfl)
  (case c1 => decide)
  (case c2 => exact rfl)
  (case c3 => exact rfl)
  (case c4 => exact rfl)))
local macro_rules | `(tactic| k_extra "enterD") => `(tactic| (
  (case ho => k_is)
  (case hcd => k_is)
  (case hb => exact fun _ X => binds_K X rfl (by k_is) rfl rfl rfl)
  (case hloc => exact locs rfl)
  (case c1 => decide)
  (case c2 => exact rfl)
  (case c3 => exact rfl)
  (case c4 => exact rfl)))
local macro_rules | `(tactic| k_extra "all") => `(tactic| (intro x hx; repeat (first | exact List.mem_append_left _ hx | refine List.Mem.tail _ ?_ | refine List.mem_append_right _ ?_)))
local macro_rules | `(tactic| k_extra "focus") => `(tactic| first | exact focus_base | (apply focus_step; k_extra "focus") | (apply focus_Z; k_extra "focus"))
local macro_rules | `(tactic| k_extra "unfocus") => `(tactic| first | exact unfocus | (apply unfocus_step; k_extra "unfocus") | (apply unfocus_Z; k_extra "unfocus"))
local macro_rules | `(tactic| k_extra "back") => `(tactic| (refine' Sel.trans ?u ?v; (case u => k_extra "unfocus"); (case v => k_extra "sel")))
local macro_rules | `(tactic| k_extra "pull") => `(tactic| first | exact Sel.refl | (apply pull_step; k_extra "pull") | (apply pull_Z; k_extra "pull"))
local macro_rules | `(tactic| k_extra "pull1") => `(tactic| (apply pull_step; k_extra "pull"))
local macro_rules | `(tactic| k_extra "name") => `(tactic| first
     | (refine' tr_local ?hm ?hv ?_ ?a ?b ?c; (case a => exact rfl); (case b => exact rfl); (case hm => k_extra "mem"); (case hv => k_extra "hv"); (case c => decide))
     | (refine' tr_global ?B ?he ?_ ?g ?a ?b ?c; (case B => k_extra "B"); (case a => exact rfl); (case b => exact rfl); (case he => k_is); (case g => exact rfl); (case c => decide))
     | (refine' tr_builtin ?B ?he ?hv ?_ ?n ?g ?g2 ?a ?b ?c; (case B => k_extra "B"); (case a => exact rfl); (case b => exact rfl); (case he => k_is); (case hv => boot_fast); (case n => decide); (case g => exact rfl); (case g2 => exact rfl); (case c => decide))
     | (refine' tr_cell ?hc ?hm ?_ ?a ?b ?c; (case a => exact rfl); (case b => exact rfl); (case hc => exact rfl); (case hm => k_extra "mem"); (case c => decide))
     | (refine' tr_free ?hc ?hm ?_ ?a ?b ?c ?d; (case a => exact rfl); (case b => exact rfl); (case hc => exact rfl); (case hm => k_extra "mem"); (case c => decide); (case d => decide)))
local macro_rules | `(tactic| k_extra "methu") => `(tactic| first
     | (refine' tr_getMethod ?B ?hx ?hP ?hd ?hg ?hf ?ht ?hv ?_; (case B => k_extra "B"); (case hx => k_extra "mem"); (case hP => k_extra "isinst"); (case hd => k_extra "mem"); (case hf => k_is); (case ht => k_is); (case hv => exact rfl); (case hg => k_extra "getok"))
     | (refine' tr_getMethodB ?B ?hx ?hP ?hd ?hg ?hf ?ht ?hv ?_; (case B => k_extra "B"); (case hx => k_extra "mem"); (case hP => k_extra "isinst"); (case hd => k_extra "mem"); (case hf => k_is); (case ht => first | with_reducible exact PySem.F.type_list_extend | with_reducible exact PySem.F.type_list_remove | with_reducible exact type_list_append); (case hv => exact rfl); (case hg => k_extra "getok")))
local macro_rules | `(tactic| k_extra "meth") => `(tactic| first
     | ((with_reducible show Tr _ (getMethod _ (PySem.Str.ofString "append") _) _ _); first
        | (refine' tr_getMethodL ?hl slot_list_append type_list_append ?_; (case hl => k_extra "mem"))
        | (refine' tr_getMethodI ?hl slot_list_append type_list_append ?_; (case hl => k_extra "mem"))
        | k_extra "methu")
     | ((with_reducible show Tr _ (getMethod _ (PySem.Str.ofString "pop") _) _ _); first
        | (refine' tr_getMethodI ?hl PySem.F.slot_list_pop PySem.F.type_list_pop ?_; (case hl => k_extra "mem"))
        | (refine' tr_getMethodL ?hl PySem.F.slot_list_pop PySem.F.type_list_pop ?_; (case hl => k_extra "mem")))
     | ((with_reducible show Tr _ (getMethod _ (PySem.Str.ofString "sort") _) _ _); (refine' tr_getMethodL ?hl PySem.F.slot_list_sort PySem.F.type_list_sort ?_; (case hl => k_extra "mem")))
     | ((with_reducible show Tr _ (getMethod _ (PySem.Str.ofString "copy") _) _ _); (refine' tr_getMethodD ?hl PySem.F.slot_dict_copy PySem.F.type_dict_copy ?_; (case hl => k_extra "mem")))
     | k_extra "methu")
local macro_rules | `(tactic| k_extra "callb") => `(tactic| first
  | ((with_reducible show Tr _ (call (Value.builtin "len") [Value.ref _] []) _ _); first
     | (refine' tr_lenList ?hl ?hz ?_; (case hl => k_extra "mem"); (case hz => k_extra "len"); intro _)
     | (refine' tr_lenInts ?hl ?hz ?_; (case hl => k_extra "mem"); (case hz => k_extra "len"); intro _)
     | (refine' tr_lenDom ?B ?S ?hx ?hz ?_; (case B => k_extra "B"); (case hx => k_extra "mem"); (case S => exact dsub _); (case hz => k_extra "len"); intro _))
  | ((with_reducible show Tr _ (call (Value.builtin "list.append") [Value.ref _, _] []) _ _); first
     | (refine' tr_appendI ?U ?hz ?_; (case U => k_extra "upd"); (case hz => k_extra "len"))
     | (refine' tr_append ?U ?_ ?hz; (case U => k_extra "upd"); (case hz => k_extra "len")))
  | ((with_reducible show Tr _ (call (Value.builtin "list.remove") [Value.ref _, _] []) _ _); refine' tr_remove ?B ?S ?U ?hi ?hz ?_; (case B => k_extra "B"); (case S => exact dsub _); (case U => k_extra "upd"); (case hi => assumption); (case hz => k_extra "len"))
  | ((with_reducible show Tr _ (call (Value.builtin "list.extend") [Value.ref _, _] []) _ _); refine' tr_extend ?B ?S ?U ?hb ?hz ?_; (case B => k_extra "B"); (case S => exact dsub _); (case U => k_extra "upd"); (case hb => k_extra "mem"); (case hz => k_extra "len"))
  | ((with_reducible show Tr _ (call (Value.builtin "list.pop") [Value.ref _] []) _ _); first
     | (refine' tr_popI ?U ?hz ?_; (case U => k_extra "upd"); (case hz => k_extra "len"); intro _)
     | (refine' tr_pop ?U ?hz ?_; (case U => k_extra "upd"); (case hz => k_extra "len")))
  | ((with_reducible show Tr _ (call (Value.builtin "dict.copy") [Value.ref _] []) _ _); refine' tr_dictCopy ?hd ?hz ?_; (case hd => k_extra "mem"); (case hz => k_extra "len"); intro _))
local macro_rules | `(tactic| k_extra "truthy") => `(tactic| first
  | with_reducible refine tr_truthy_bool ?_
  | with_reducible refine tr_truthyNone ?_
  | with_reducible refine tr_truthyInt ?_
  | (refine' tr_truthyInts ?hl ?hz ?_; (case hl => k_extra "mem"); (case hz => k_extra "len"))
  | (refine' tr_truthyList ?hl ?hz ?_; (case hl => k_extra "mem"); (case hz => k_extra "len"))
  | (refine' tr_truthyDom ?B ?S ?hx ?hz ?_; (case B => k_extra "B"); (case hx => k_extra "mem"); (case S => exact dsub _); (case hz => k_extra "len")))
local macro_rules | `(tactic| k_extra "cmp") => `(tactic| first
  | with_reducible refine tr_gt ?_ | with_reducible refine tr_lt ?_ | with_reducible refine tr_le ?_ | with_reducible refine tr_ge ?_ | with_reducible refine tr_eq ?_ | with_reducible refine tr_ne ?_
  | ((with_reducible show Tr _ (compareOp CmpOp.Is (Value.type _) (Value.type _)) _ _); (refine' tr_isTypes ?hp ?_; (case hp => exact rfl)))
  | (refine' tr_dictIn ?hd ?hP ?_; (case hd => k_extra "mem"); (case hP => first | exact pDict_refl | exact pDictE_dict))
  | (refine' tr_dictNotIn ?hd ?hP ?_; (case hd => k_extra "mem"); (case hP => first | exact pDict_refl | exact pDictE_dict)))
local macro_rules | `(tactic| k_extra "sub") => `(tactic| first
  | ((with_reducible show Tr _ (subscriptTail _ _ (Value.ref _) (Value.int _ _)) _ _); (refine' tr_itemTup ?ht ?a ?b ?hj ?hx ?_ ?hs; (case ht => k_extra "mem"); (case a => decide); (case b => decide); (case hj => exact rfl); (case hx => exact rfl); (case hs => exact rfl)))
  | ((with_reducible show Tr _ (subscriptTail _ (Expr.Slice none none none _) (Value.ref _) (Value.ref _)) _ _); first
     | (refine' tr_copyDom ?B ?S ?hq ?hx ?hs ?hz ?_; (case B => k_extra "B"); (case S => exact dsub _); (case hx => k_extra "mem"); (case hq => k_is); (case hs => k_extra "mem"); (case hz => k_extra "len"); intro _)
     | (refine' tr_copyList ?hx ?hs ?hz ?_; (case hx => k_extra "mem"); (case hs => k_extra "mem"); (case hz => k_extra "len"); intro _))
  | ((with_reducible show Tr _ (subscriptTail _ _ (Value.ref _) (Value.str _ _)) _ _); (refine' tr_itemDict ?hd ?hP ?hv ?_ ?hs; (case hd => k_extra "mem"); (case hs => exact rfl); (case hP => first | exact pDict_refl | exact pDictE_dict); (case hv => first | assumption | exact rfl))))
local macro_rules | `(tactic| k_extra "store") => `(tactic| first
  | (refine' tr_store ?U ?_ ?hk ?hl; (case hk => exact rfl); (case hl => exact rfl); (case U => k_extra "upd"))
  | (refine' tr_storeCell ?hc ?U ?_ ?hk ?hl; (case hk => exact rfl); (case hl => exact rfl); (case hc => exact rfl); (case U => k_extra "upd")))
local macro_rules | `(tactic| k_extra "st") => `(tactic| first
  | with_reducible refine tr_execs_cons ?_
  | with_reducible refine tr_execs_nil ?_
  | with_reducible refine Nx.next ?_
  | with_reducible refine Nx.ret ?_
  | with_reducible refine Nx.brk ?_
  | ((with_reducible show Tr _ (exec _ _) _ _); first
     | ((with_reducible show Tr _ (exec (Stmt.Expr _ _) _) _ _); refine tr_Expr ?_)
     | ((with_reducible show Tr _ (exec (Stmt.Return (some _) _) _) _ _); refine tr_Return ?_)
     | ((with_reducible show Tr _ (exec (Stmt.Return none _) _) _ _); refine tr_Return_none ?_)
     | ((with_reducible show Tr _ (exec (Stmt.If _ _ _ _) _) _ _); refine tr_If ?_)
     | ((with_reducible show Tr _ (exec (Stmt.For _ _ _ _ _) _) _ _); refine tr_For ?_)
     | ((with_reducible show Tr _ (exec (Stmt.While _ _ _ _) _) _ _); refine tr_While ?_)
     | ((with_reducible show Tr _ (exec (Stmt.Assign [Expr.Name _ _] _ _) _) _ _); refine tr_AssignName ?_)
     | ((with_reducible show Tr _ (exec (Stmt.Assign [Expr.Attribute _ _ _] _ _) _) _ _); refine tr_AssignAttr ?_)
     | ((with_reducible show Tr _ (exec (Stmt.Assign [Expr.Subscript _ _ _] _ _) _) _ _); refine tr_AssignItem ?_)
     | ((with_reducible show Tr _ (exec (Stmt.AugAssign (Expr.Name _ _) _ _ _) _) _ _); refine tr_AugAssign ?_)
     | ((with_reducible show Tr _ (exec (Stmt.Delete _ _) _) _ _); refine tr_Delete ?_)
     | ((with_reducible show Tr _ (exec (Stmt.Break _) _) _ _); refine tr_Break ?_)
     | ((with_reducible show Tr _ (exec (Stmt.Pass _) _) _ _); refine tr_Pass ?_))
  | ((with_reducible show Tr _ (eval _ _) _ _); first
     | ((with_reducible show Tr _ (eval (Expr.Name _ _) _) _ _); k_extra "name")
     | ((with_reducible show Tr _ (eval (Expr.Constant (Const.int _) _ _) _) _ _); refine tr_int fun _ => ?_)
     | ((with_reducible show Tr _ (eval (Expr.Constant (Const.bool _) _ _) _) _ _); refine tr_bool ?_)
     | ((with_reducible show Tr _ (eval (Expr.Constant Const.none _ _) _) _ _); refine tr_none ?_)
     | ((with_reducible show Tr _ (eval (Expr.Constant (Const.str _) _ _) _) _ _); refine tr_str fun _ => ?_)
     | ((with_reducible show Tr _ (eval (Expr.Call (Expr.Attribute _ _ _) _ _ _) _) _ _); refine tr_MethodCall ?_)
     | ((with_reducible show Tr _ (eval (Expr.Call _ _ _ _) _) _ _); refine tr_Call ?_)
     | ((with_reducible show Tr _ (eval (Expr.Attribute _ _ _) _) _ _); refine tr_Attribute ?_)
     | ((with_reducible show Tr _ (eval (Expr.Subscript _ _ _) _) _ _); refine tr_Subscript ?_)
     | ((with_reducible show Tr _ (eval (Expr.Slice none none none _) _) _ _); refine tr_sliceAll fun _ => ?_)
     | ((with_reducible show Tr _ (eval (Expr.Slice (some _) none none _) _) _ _); refine tr_sliceFrom ?_)
     | ((with_reducible show Tr _ (eval (Expr.BinOp _ _ _ _) _) _ _); refine tr_BinOp ?_)
     | ((with_reducible show Tr _ (eval (Expr.UnaryOp _ _ _) _) _ _); refine tr_UnaryOp ?_)
     | ((with_reducible show Tr _ (eval (Expr.Compare _ _ _ _) _) _ _); refine tr_Compare ?_)
     | ((with_reducible show Tr _ (eval (Expr.IfExp _ _ _ _) _) _ _); refine tr_IfExp ?_)
     | ((with_reducible show Tr _ (eval (Expr.BoolOp BoolOp.Or (_ :: _ :: _) _) _) _ _); refine tr_BoolOr ?_)
     | ((with_reducible show Tr _ (eval (Expr.BoolOp _ [_] _) _) _ _); refine tr_BoolOne ?_)
     | ((with_reducible show Tr _ (eval (Expr.List [] _) _) _ _); refine tr_List0 fun _ => ?_)
     | ((with_reducible show Tr _ (eval (Expr.List _ _) _) _ _); refine tr_List ?_)
     | ((with_reducible show Tr _ (eval (Expr.Tuple _ _ _) _) _ _); refine tr_Tuple ?_)
     | ((with_reducible show Tr _ (eval (Expr.Dict [] [] _) _) _ _); refine tr_Dict fun _ => ?_))
  | ((with_reducible show Tr _ (isTrue _ _ _) _ _); first
     | ((with_reducible show Tr _ (isTrue (Expr.Compare _ _ _ _) _ _) _ _); refine tr_isTrue_Compare ?_)
     | ((with_reducible show Tr _ (isTrue (Expr.UnaryOp UnaryOp.Not _ _) _ _) _ _); refine tr_isTrue_Not ?_)
     | ((with_reducible show Tr _ (isTrue (Expr.BoolOp _ _ _) _ _) _ _); refine tr_isTrue_BoolOp ?_)
     | refine tr_isTrue_value ?_)
  | ((with_reducible show Tr _ (callWith _ (Value.builtin _) _ _ _) _ _); first | refine tr_callBuiltin0 ?_ | refine tr_callBuiltin1 ?_)
  | ((with_reducible show Tr _ (callWith _ (Value.ref _) _ _ _) _ _); first
     | (refine' tr_callFn0 ?B ?hf ?_ ?p; (case B => k_extra "B"); (case hf => k_is); (case p => exact rfl))
     | (refine' tr_callFn1 ?B ?hf ?_ ?p; (case B => k_extra "B"); (case hf => k_is); (case p => exact rfl))
     | (refine' tr_callCls ?B ?hf ?_ ?p; (case B => k_extra "B"); (case hf => k_is); (case p => exact rfl)))
  | with_reducible refine tr_args_nil ?_
  | with_reducible refine noref_none ?_
  | ((with_reducible show ∀ _ : Addr, Tr _ _ _ _); intro _)
  | ((with_reducible show Tr _ (spliced (backTo _ (starEach (_ :: _) _))) _ _); refine tr_args_cons ?_)
  | ((with_reducible show Tr _ (getAttr (Value.ref _) _ _) _ _); refine' tr_getAttr ?B ?hx ?hP ?hd ?hg ?hh ?ha ?hn ?hv ?_ ?hi; (case B => k_extra "B"); (case hx => k_extra "mem"); (case hP => k_extra "isinst"); (case hd => k_extra "mem"); (case hg => k_extra "getok"); (case hh => k_is); (case ha => k_is); (case hn => k_is); (case hv => exact rfl); (case hi => exact rfl))
  | ((with_reducible show Tr _ (setAttr (Value.ref _) _ _) _ _); refine' tr_setAttr ?B ?hx ?hP ?U ?hs ?hp ?ht ?hh ?_ ?hz; (case B => k_extra "B"); (case hx => k_extra "mem"); (case hP => k_extra "isinst"); (case U => k_extra "upd"); (case hs => k_is); (case hp => k_is); (case ht => k_is); (case hh => k_is); (case hz => decide))
  | ((with_reducible show Tr _ (getMethod (Value.ref _) _ _) _ _); k_extra "meth")
  | ((with_reducible show Tr _ (call (Value.builtin _) _ _) _ _); k_extra "callb")
  | ((with_reducible show Tr _ (storeName _ _ _) _ _); k_extra "store")
  | ((with_reducible show Tr _ (loadName _ _) _ _); refine' tr_ldlocal ?hm ?hv ?_ ?a ?b; (case a => exact rfl); (case b => exact rfl); (case hm => k_extra "mem"); (case hv => k_extra "hv"))
  | ((with_reducible show Tr _ (truthy _) _ _); k_extra "truthy")
  | ((with_reducible show Tr _ (compareOp _ _ _) _ _); k_extra "cmp")
  | ((with_reducible show Tr _ (setItem (Value.ref _) (Value.str _ _) _) _ _); (refine' tr_dictSet ?U ?hz ?_; (case U => k_extra "upd"); (case hz => k_extra "len")))
  | with_reducible refine tr_add fun _ => ?_
  | with_reducible refine tr_iadd fun _ => ?_
  | with_reducible refine tr_sub fun _ => ?_
  | with_reducible refine tr_neg fun _ => ?_
  | with_reducible refine tr_not ?_
  | ((with_reducible show Tr _ (subscriptTail _ _ _ _) _ _); k_extra "sub")
  | ((with_reducible show Tr _ (delete (Expr.Subscript _ _ _) _) _ _); refine tr_delSubscript ?_)
  | ((with_reducible show Tr _ (letOwnedTupleGo (Expr.Name _ _) _ _) _ _); refine tr_letGoName ?_)
  | ((with_reducible show Tr _ (assign (Expr.Name _ _) _ _) _ _); refine tr_assignName ?_)
  | ((with_reducible show Tr _ (callWith _ (Value.type _) _ _ _) _ _); refine tr_callType ?_)
  | ((with_reducible show Tr _ (call (Value.type "zip") _ _) _ _); (refine' tr_zipNew ?h1 ?h2 ?_; (case h1 => k_extra "mem"); (case h2 => k_extra "mem"); intro _ _ _ _ _))
  | ((with_reducible show Tr _ (call (Value.type "type") [Value.int _ _] _) _ _); refine tr_typeInt ?_)
  | ((with_reducible show Tr _ (pyIter _) _ _); first
     | with_reducible refine tr_iterZip ?_
     | (refine' tr_iterInts ?hl ?_; (case hl => k_extra "mem"); intro _)
     | (refine' tr_iterList ?hl ?_; (case hl => k_extra "mem"); intro _)
     | (refine' tr_iterDom ?B ?S ?hx ?_; (case B => k_extra "B"); (case S => exact dsub _); (case hx => k_extra "mem"); intro _)))
section
theorem pow2_ok : ∀ k, k < 101 → ((2 : Int) ^ k ≠ 0 ∧ ((2 : Int) ^ k).natAbs.log2 < 9000) := by decide +kernel
theorem pow3_ok : ∀ k, k < 4 → ((3 : Int) ^ k ≠ 0 ∧ ((3 : Int) ^ k).natAbs.log2 < 9000) := by decide +kernel
theorem pow4_ok : ∀ k, k < 4 → ((4 : Int) ^ k ≠ 0 ∧ ((4 : Int) ^ k).natAbs.log2 < 9000) := by decide +kernel
theorem lcs_cons (x : Row) (RS : List Row) : lcs (x :: RS) = (x.1, pInts x.2) :: lcs RS := rfl
theorem prodL_snoc (v : List Int) : ∀ Vs : List (List Int), prodL (Vs ++ [v]) = (prodL Vs).flatMap fun r => v.map fun a => r ++ [a]
  | [] => by
    show (v.flatMap fun a => ([[]] : List (List Int)).map (a :: ·)) = [[]].flatMap fun r => v.map fun a => r ++ [a]
    rw [List.flatMap_cons, List.flatMap_nil, List.append_nil]
    induction v with
    | nil => rfl
    | cons a v ih => rw [List.flatMap_cons, ih]; rfl
  | w :: Vs => by
    show (w.flatMap fun a => (prodL (Vs ++ [v])).map (a :: ·)) = (w.flatMap fun a => (prodL Vs).map (a :: ·)).flatMap _
    rw [prodL_snoc v Vs, List.flatMap_assoc]
    congr 1
    funext a
    rw [List.map_flatMap, List.flatMap_map]
    congr 1
    funext r
    rw [List.map_map]; rfl
theorem Sel.under {p : Cell} {A B : List Cell} (h : Sel A B) : Sel (p :: A) (p :: B) := by
  obtain ⟨Z, q⟩ := h
  exact ⟨Z, q.cons p⟩
theorem lt_of_le_nodup {l : List Int} (h1 : l.Pairwise (· ≤ ·)) (h2 : l.Nodup) : l.Pairwise (· < ·) := (List.Pairwise.and h1 h2).imp fun {a b} ⟨p, q⟩ => by
  have : a ≠ b := q
  omega
theorem prodL_cons_len (v : List Int) (Vs : List (List Int)) : (prodL (v :: Vs)).length = v.length * (prodL Vs).length := by
  show (v.flatMap fun a => (prodL Vs).map (a :: ·)).length = _
  induction v with
  | nil => simp
  | cons a v iv => rw [List.flatMap_cons, List.length_append, List.length_map, iv, List.length_cons, Nat.add_mul]; omega
theorem prodL_12 {VR : List Row} (hm : VR.length = 2 ∨ VR.length = 3) (h3 : ∀ x ∈ VR, x.2.length ≤ 3) (h2 : ∀ j x, VR[j]? = some x → 1 ≤ j → x.2.length ≤ 2) : (prodL (VR.map (·.2))).length ≤ 12 := by
  rcases hm with hm | hm
  · match VR, hm with
    | [a, b], _ =>
      have := h3 a (by simp)
      have := h2 1 b rfl (by decide)
      rw [List.map_cons, List.map_cons, List.map_nil, prodL_cons_len, prodL_cons_len]
      have : b.2.length * (prodL []).length ≤ 2 * 1 := Nat.mul_le_mul (by omega) (by decide)
      have := Nat.mul_le_mul (show a.2.length ≤ 3 by omega) this
      omega
  · match VR, hm with
    | [a, b, d], _ =>
      have := h3 a (by simp)
      have := h2 1 b rfl (by decide)
      have := h2 2 d rfl (by decide)
      rw [List.map_cons, List.map_cons, List.map_cons, List.map_nil, prodL_cons_len, prodL_cons_len, prodL_cons_len]
      have q1 : d.2.length * (prodL []).length ≤ 2 * 1 := Nat.mul_le_mul (by omega) (by decide)
      have q2 := Nat.mul_le_mul (show b.2.length ≤ 2 by omega) q1
      have q3 := Nat.mul_le_mul (show a.2.length ≤ 3 by omega) q2
      omega
def SpecR (VS : List Row) (fs : List Int) (w : Nat) (M : Int) (RS : List Row) : Prop := RS.Pairwise (fun x y => code x.2 < code y.2) ∧ ∀ r, r ∈ RS.map (·.2) ↔ r ∈ prodL (VS.map (·.2)) ∧ okK w M (dot fs r)
def tbc (tbs : List (Addr × List Row)) : List Cell := tbs.flatMap fun x => (x.1, pList (rowVals x.2)) :: rcs x.2
theorem tbc_cons (x : Addr × List Row) (tbs : List (Addr × List Row)) : tbc (x :: tbs) = (x.1, pList (rowVals x.2)) :: (rcs x.2 ++ tbc tbs) := rfl
set_option maxHeartbeats 1000000
local macro_rules | `(tactic| k_extra "sts") => `(tactic| repeat ((fail_if_success (with_reducible show Tr _ (subscriptTail _ _ _ _) _ _)); (fail_if_success (with_reducible show Tr _ (eval (Expr.Subscript _ (Expr.Slice none (some _) none _) _) _) _ _)); k_extra "st"))
section
variable {mg mb : Str → Option Value} {c : Cx} {X V : List Cell}
theorem law_walk {sc : Addr} {vs : List Value} {ns : List Int} {Q : Value → List Cell → Prop} (hcG : c.G = AllBare) (B : Bs (hd.heap_39 c.w.params) c mg mb) (R : Rm 100 c.A) (hl : c.h₀.IsList sc vs.toArray) (hI : IntsAre vs ns) (hb : ∀ n ∈ ns, Builtin.Int.intBits n ≤ 2 ^ 20) (hz : ns.length ≤ 100)
    (h : ∀ Y, Q (.bool true) Y) : Tr c (call (.ref 506) [.ref sc] []) X Q := by
  refine TrF.tr ?_
  refine' tr_callC (binds := [(Str.ofString "script", .ref sc)])
    (cs := fun n => [(Str.ofString "high", n + 8), (Str.ofString "factors", n + 7), (Str.ofString "values", n + 6), (Str.ofString "k", n + 5), (Str.ofString "names", n + 4), (Str.ofString "bound", n + 3), (Str.ofString "rich", n + 2), (Str.ofString "first", n + 1)])
    (mL := fun y => if y = Str.ofString "script" then some (.ref sc) else none)
    (cm := fun y => none) B R ?ho ?hcd ?hb ?hcs ?hnd ?hloc ?hL ?hC ?_ ?c2 ?c3 ?c4
  (case ho => k_is)
  (case hcd => k_is)
  (case hb => exact rfl)
  (case hcs => intro _; rfl)
  (case hnd => intro m p hp; simp only [List.mem_cons, List.not_mem_nil, or_false] at hp; rcases hp with rfl | rfl | rfl | rfl | rfl | rfl | rfl | rfl <;> rfl)
  (case hloc => intro m x hx; simp only [List.mem_cons, List.not_mem_nil, or_false] at hx; rcases hx with rfl <;> first | exact .inl rfl | exact .inr ⟨rfl, rfl⟩)
  (case c2 => exact rfl)
  (case c3 => exact rfl)
  (case c4 => exact rfl)
  (case hL => exact rfl)
  (case hC => exact rfl)
  intro Lf
  generalize Lf + 1 = aF
  generalize Lf + 2 = aR
  generalize Lf + 3 = aB
  generalize Lf + 4 = aN
  generalize Lf + 5 = aK
  generalize Lf + 6 = aV
  generalize Lf + 7 = aM
  generalize Lf + 8 = aH
  refine Tr.sel (L' := (Lf, pNs fun y => if y = Str.ofString "script" then some (.ref sc) else none) :: (aF, pCel none) :: (aR, pCel none) :: (aB, pCel none) :: (aN, pCel none) :: (aK, pCel none) :: (aV, pCel none) :: (aM, pCel none) :: (aH, pCel none) :: []) (by
    show Sel _ ((Lf, _) :: (aH, pCel none) :: (aM, pCel none) :: (aV, pCel none) :: (aK, pCel none) :: (aN, pCel none) :: (aB, pCel none) :: (aR, pCel none) :: (aF, pCel none) :: X)
    k_extra "sel") ?_
  have hz24 := sz24
  refine tr_execs_cons ?_
  refine tr_AssignTup ?_
  k_extra "sts"
  refine law_mixed (k := 0) (B.deeper _) ((R.deeper _).le (by omega)) hl hI (by omega) hb hz fun first tf => ?_
  k_extra "sts"
  refine law_mixed (k := 1) (B.deeper _) ((R.deeper _).le (by omega)) hl hI (by omega) hb hz fun rich tr => ?_
  k_extra "sts"
  refine ⟨by simp; omega, fun T0 => ?_⟩
  refine tr_Tup2 (R.deeper _) (by k_extra "mem") ?_
  k_extra "sts"
  refine tr_AssignTup ?_
  k_extra "sts"
  refine tr_mod (by decide) fun _ => ?_
  k_extra "st"
  rename_i tm
  k_extra "sts"
  refine tr_floordiv (by decide) (by decide +kernel) fun _ => ?_
  k_extra "sts"
  refine tr_mod (by decide) fun tM => ?_
  k_extra "sts"
  refine ⟨by simp; omega, fun T1 => ?_⟩
  refine tr_Tup2 (R.deeper _) (by k_extra "mem") ?_
  obtain ⟨m, hm, em⟩ : ∃ m : Nat, (m = 2 ∨ m = 3) ∧ 2 + first.fmod 2 = (m : Int) := by
    have h1 := Int.fmod_nonneg_of_pos first (b := 2) (by decide)
    have h2 := Int.fmod_lt_of_pos first (b := 2) (by decide)
    rcases (show first.fmod 2 = 0 ∨ first.fmod 2 = 1 by omega) with q | q
    · exact ⟨2, .inl rfl, by rw [q]; rfl⟩
    · exact ⟨3, .inr rfl, by rw [q]; rfl⟩
  rw [em]
  generalize (first.fdiv 2).fmod 21 = M
  k_extra "sts"
  refine tr_abc ?_
  k_extra "sts"
  refine ⟨_, _, _, rfl, rfl, by omega, fun _ => ?_⟩
  k_extra "sts"
  refine tr_listAbc (R.deeper _).le (by omega) fun aNm nvs hnv => ?_
  k_extra "sts"
  refine' tr_ListCompX (y := Str.ofString "k") ?hclos ?hcs ?hpc ?hkind ?hnames ?hs ?_
  (case hclos => with_unfolding_all rfl)
  (case hcs => intro _; rfl)
  (case hpc => intro _; rfl)
  (case hkind => exact rfl)
  (case hnames => decide)
  (case hs => intro _; rfl)
  k_extra "sts"
  refine tr_range fun r1 => ?_
  refine tr_iterRange (by k_extra "mem") (by omega) fun it1 => ⟨it1, rfl, selfRange (.head _), fun C1 k1 D1 => ?_⟩
  refine tr_compLoop (fun n L' => ∃ i VS fm cv, i + n = m ∧ VS.length = i ∧ (∀ x ∈ VS, x.2 ≠ [] ∧ x.2.Nodup ∧ x.2.Pairwise (· ≤ ·) ∧ x.2.length ≤ 3 ∧ ∀ a ∈ x.2, 0 ≤ a ∧ a ≤ 4) ∧ (∀ j x, VS.reverse[j]? = some x → 1 ≤ j → x.2.length ≤ 2) ∧
    Sel ((k1, pCel cv) :: (C1, pNs fm) :: (D1, pList (rowVals VS.reverse)) :: (it1, pRIter i n) :: (lcs VS ++ ((aNm, pList nvs) :: (Lf, pNs fun y => if y = Str.ofString "many" then some (Value.int m tm) else if y = Str.ofString "script" then some (.ref sc) else none) :: (aF, pCel (some (.int first tf))) :: (aR, pCel (some (.int rich tr))) :: (aB, pCel (some (.int M tM))) :: (aN, pCel (some (.ref aNm))) :: (aK, pCel none) :: (aV, pCel none) :: (aM, pCel none) :: (aH, pCel none) :: []))) L') ?_ m ⟨0, [], _, _, Nat.zero_add _, rfl, fun _ h => (nomatch h), fun j x h => by simp at h, by k_extra "sel"⟩
  intro n L' hI
  obtain ⟨i, VS, fm, cv, hin, hVl, hVs, hV2, hsel⟩ := hI
  refine Tr.sel hsel ?_
  clear hsel
  cases n with
  | zero =>
    refine tr_nextRangeEnd (R.deeper _) (by k_extra "rem") (by simp) ?_
    dsimp only
    refine ⟨fm, _, by k_extra "sel", ?_⟩
    have hin : m = i := by omega
    subst hin
    have hVR : VS.reverse.length = m := by rw [List.length_reverse, hVl]
    have hVRs : ∀ x ∈ VS.reverse, x.2 ≠ [] ∧ x.2.Nodup ∧ x.2.Pairwise (· ≤ ·) ∧ x.2.length ≤ 3 ∧ ∀ a ∈ x.2, 0 ≤ a ∧ a ≤ 4 := fun x hx => hVs x (List.mem_reverse.mp hx)
    have sp : ∀ Y, Sel (lcs VS.reverse ++ Y) (lcs VS ++ Y) := fun Y => .perm (List.Perm.append_right _ ((List.reverse_perm VS).symm.map fun x : Row => (x.1, pInts x.2)))
    generalize VS.reverse = VR at *
    clear hVs
    refine Tr.sel (L' := (Lf, pNs fun y => if y = Str.ofString "many" then some (Value.int m tm) else if y = Str.ofString "script" then some (.ref sc) else none) :: (aF, pCel (some (.int first tf))) :: (aR, pCel (some (.int rich tr))) :: (aB, pCel (some (.int M tM))) :: (aN, pCel (some (.ref aNm))) :: (aK, pCel none) :: (aV, pCel none) :: (aM, pCel none) :: (aH, pCel none) :: (aNm, pList nvs) :: (D1, pList (rowVals VR)) :: (lcs VR ++ [])) (Sel.trans (by k_extra "sel") (Sel.trans (sp ((aNm, pList nvs) :: (D1, pList (rowVals VR)) :: (Lf, pNs fun y => if y = Str.ofString "many" then some (Value.int m tm) else if y = Str.ofString "script" then some (.ref sc) else none) :: (aF, pCel (some (.int first tf))) :: (aR, pCel (some (.int rich tr))) :: (aB, pCel (some (.int M tM))) :: (aN, pCel (some (.ref aNm))) :: (aK, pCel none) :: (aV, pCel none) :: (aM, pCel none) :: (aH, pCel none) :: [])) (by k_extra "sel"))) ?_
    clear sp
    k_extra "st"
    k_extra "st"
    k_extra "st"
    k_extra "st"
    refine Tr.mono (Q := fun v L1 => (v = .none ∧ Sel ((Lf, pNs fun y => if y = Str.ofString "many" then some (Value.int m tm) else if y = Str.ofString "script" then some (.ref sc) else none) :: (aF, pCel (some (.int first tf))) :: (aR, pCel (some (.int rich tr))) :: (aB, pCel (some (.int M tM))) :: (aN, pCel (some (.ref aNm))) :: (aK, pCel none) :: (aV, pCel (some (.ref D1))) :: (aM, pCel none) :: (aH, pCel none) :: (aNm, pList nvs) :: (D1, pList (rowVals VR)) :: (lcs VR ++ [])) L1) ∨ ∃ D2 us ks, v = .ref D2 ∧ IntsAre us ks ∧ ks.length = m ∧ (∀ f ∈ ks, 1 ≤ f ∧ f ≤ 3) ∧ Sel ((D2, pList us) :: (Lf, pNs fun y => if y = Str.ofString "many" then some (Value.int m tm) else if y = Str.ofString "script" then some (.ref sc) else none) :: (aF, pCel (some (.int first tf))) :: (aR, pCel (some (.int rich tr))) :: (aB, pCel (some (.int M tM))) :: (aN, pCel (some (.ref aNm))) :: (aK, pCel none) :: (aV, pCel (some (.ref D1))) :: (aM, pCel none) :: (aH, pCel none) :: (aNm, pList nvs) :: (D1, pList (rowVals VR)) :: (lcs VR ++ [])) L1) ?_ ?rest
    · k_extra "sts"
      refine tr_floordiv (by decide) (by decide +kernel) fun _ => ?_
      k_extra "sts"
      refine tr_mod (by decide) fun _ => ?_
      k_extra "sts"
      refine ⟨fun _ => ?_, fun _ => ?_⟩
      · refine' tr_ListCompG ?hclos ?hcs ?hpc ?hkind ?hnames ?hs ?_
        (case hclos => with_unfolding_all rfl)
        (case hcs => intro _; rfl)
        (case hpc => intro _; rfl)
        (case hkind => exact rfl)
        (case hnames => decide)
        (case hs => intro _; rfl)
        k_extra "sts"
        refine tr_range fun r2 => ?_
        refine tr_iterRange (by k_extra "mem") (by omega) fun it2 => ⟨it2, rfl, selfRange (.head _), fun C2 D2 => ?_⟩
        refine tr_compLoop (fun n2 L' => ∃ j us ks fm2, j + n2 = m ∧ IntsAre us ks ∧ ks.length = j ∧ (∀ a ∈ ks, 1 ≤ a ∧ a ≤ 3) ∧
          Sel ((C2, pNs fm2) :: (D2, pList us) :: (it2, pRIter j n2) :: (Lf, pNs fun y => if y = Str.ofString "many" then some (Value.int m tm) else if y = Str.ofString "script" then some (.ref sc) else none) :: (aF, pCel (some (.int first tf))) :: (aR, pCel (some (.int rich tr))) :: (aB, pCel (some (.int M tM))) :: (aN, pCel (some (.ref aNm))) :: (aK, pCel none) :: (aV, pCel (some (.ref D1))) :: (aM, pCel none) :: (aH, pCel none) :: (aNm, pList nvs) :: (D1, pList (rowVals VR)) :: (lcs VR ++ [])) L') ?_ m ⟨0, [], [], _, Nat.zero_add _, .nil, rfl, fun _ h => (nomatch h), by k_extra "sel"⟩
        intro n2 L2 hI2
        obtain ⟨j, us, ks, fm2, hjn, hus, hkl, hks, hsel⟩ := hI2
        refine Tr.sel hsel ?_
        clear hsel
        have hul := ints_len hus
        cases n2 with
        | succ n2 =>
          refine tr_nextRange (by k_extra "upd") (by omega) fun tj => ?_
          dsimp only
          have e1 : ((j : Int) + 1) = ((j + 1 : Nat) : Int) := rfl
          have e2 : (((n2 + 1 : Nat) : Int) - 1) = (n2 : Int) := by omega
          rw [e1, e2]
          k_extra "sts"
          refine tr_tests_nil ⟨fun _ => ?_, fun q => (nomatch q)⟩
          k_extra "sts"
          refine tr_floordiv (by decide) (by decide +kernel) fun _ => ?_
          k_extra "sts"
          have e27 : (2 : Int) ^ 27 = 134217728 := by decide
          have ib : Builtin.Int.intBits 3 = 2 := by decide +kernel
          refine tr_pow (by omega) (by rw [ib, e27]; omega) fun _ => ?_
          have hp2 := pow3_ok (j : Int).toNat (by omega)
          refine tr_floordiv hp2.1 hp2.2 fun _ => ?_
          k_extra "sts"
          refine tr_mod (by decide) fun _ => ?_
          have v0 : ∀ z : Int, 1 ≤ 1 + z.fmod 3 ∧ 1 + z.fmod 3 ≤ 3 := fun z => by
            have h1 := Int.fmod_nonneg_of_pos z (b := 3) (by decide)
            have h2 := Int.fmod_lt_of_pos z (b := 3) (by decide)
            omega
          k_extra "sts"
          have v1 := v0 ((first.fdiv 42).fdiv (3 ^ (j : Int).toNat))
          generalize 1 + ((first.fdiv 42).fdiv (3 ^ (j : Int).toNat)).fmod 3 = z at v1 ⊢
          refine' ⟨n2, _, by omega, Sel.refl, j + 1, _, ks ++ [z], _, by omega, ints_app hus (ints_one z _), by simp [hkl], ?ha, ?hs⟩
          (case ha =>
            intro a ha
            rcases List.mem_append.mp ha with ha | ha
            · exact hks a ha
            · rw [List.mem_singleton.mp ha]; exact v1)
          (case hs => k_extra "sel")
        | zero =>
          refine tr_nextRangeEnd (R.deeper _) (by k_extra "rem") (by simp) ?_
          dsimp only
          refine ⟨fm2, _, by k_extra "sel", .inr ⟨D2, us, ks, rfl, hus, by omega, hks, ?_⟩⟩
          exact .refl
      · k_extra "sts"
        exact .inl ⟨rfl, .refl⟩
    (case rest =>
      intro v0 L1 q0
      obtain ⟨fl, fs, hv0, f1, f2, f3, hstep⟩ : ∃ fl fs, v0 = mulV fl ∧ fs.length = m ∧ (∀ f ∈ fs, 1 ≤ f ∧ f ≤ 3) ∧ (fl = none → ∀ f ∈ fs, f = 1) ∧
          ∀ {cc : Cx} {t : Sem Unit} {Q' : Unit → List Cell → Prop}, Tr cc t ((Lf, pNs fun y => if y = Str.ofString "many" then some (Value.int m tm) else if y = Str.ofString "script" then some (.ref sc) else none) :: (aF, pCel (some (.int first tf))) :: (aR, pCel (some (.int rich tr))) :: (aB, pCel (some (.int M tM))) :: (aN, pCel (some (.ref aNm))) :: (aK, pCel none) :: (aV, pCel (some (.ref D1))) :: (aM, pCel none) :: (aH, pCel none) :: (aNm, pList nvs) :: (D1, pList (rowVals VR)) :: (lcs VR ++ (flF fl fs ++ []))) Q' → Tr cc t L1 Q' := by
        rcases q0 with ⟨rfl, sl⟩ | ⟨D2, us, ks, rfl, i1, i2, i3, sl⟩
        · refine ⟨none, List.replicate m 1, rfl, List.length_replicate, fun f hf => ?_, fun _ f hf => List.eq_of_mem_replicate hf, fun {cc t Q'} ht => Tr.sel sl ?_⟩
          · rw [List.eq_of_mem_replicate hf]; decide
          · exact ht
        · refine ⟨some D2, ks, rfl, i2, i3, fun e => (nomatch e), fun {cc t Q'} ht => Tr.sel sl (Tr.loosen (P' := pInts ks) (fun o p => ⟨us, i1, p⟩) (Tr.sel ?_ ht))⟩
          show Sel ((Lf, pNs fun y => if y = Str.ofString "many" then some (Value.int m tm) else if y = Str.ofString "script" then some (.ref sc) else none) :: (aF, pCel (some (.int first tf))) :: (aR, pCel (some (.int rich tr))) :: (aB, pCel (some (.int M tM))) :: (aN, pCel (some (.ref aNm))) :: (aK, pCel none) :: (aV, pCel (some (.ref D1))) :: (aM, pCel none) :: (aH, pCel none) :: (aNm, pList nvs) :: (D1, pList (rowVals VR)) :: (lcs VR ++ [(D2, pInts ks)])) _
          k_extra "sel"
      subst hv0
      refine hstep ?_
      clear hstep q0
      k_extra "sts"
      refine tr_AssignTup ?_
      refine' tr_ListCompG ?hclos ?hcs ?hpc ?hkind ?hnames ?hs ?_
      (case hclos => with_unfolding_all rfl)
      (case hcs => intro _; rfl)
      (case hpc => intro _; rfl)
      (case hkind => exact rfl)
      (case hnames => decide)
      (case hs => intro _; rfl)
      k_extra "sts"
      refine tr_range fun r3 => ?_
      refine tr_iterRange (k := 3) (by k_extra "mem") (by omega) fun it3 => ⟨it3, rfl, selfRange (.head _), fun C3 D3 => ?_⟩
      refine tr_compLoop (fun n2 L' => ∃ j tbs fm2, j + n2 = 3 ∧ tbs.length = j ∧ (∀ w x, tbs.reverse[w]? = some x → SpecR VR fs w M x.2) ∧
        Sel ((C3, pNs fm2) :: (D3, pList (tbs.reverse.map fun x => .ref x.1)) :: (it3, pRIter j n2) :: (tbc tbs ++ ((Lf, pNs fun y => if y = Str.ofString "many" then some (Value.int m tm) else if y = Str.ofString "script" then some (.ref sc) else none) :: (aF, pCel (some (.int first tf))) :: (aR, pCel (some (.int rich tr))) :: (aB, pCel (some (.int M tM))) :: (aN, pCel (some (.ref aNm))) :: (aK, pCel none) :: (aV, pCel (some (.ref D1))) :: (aM, pCel (some (mulV fl))) :: (aH, pCel none) :: (aNm, pList nvs) :: (D1, pList (rowVals VR)) :: (lcs VR ++ (flF fl fs ++ []))))) L') ?_ 3 ⟨0, [], _, rfl, rfl, fun w x h => by simp at h, by k_extra "sel"⟩
      intro n2 L2 hI2
      obtain ⟨j, tbs, fm2, hjn, htl, hts, hsel⟩ := hI2
      refine Tr.sel hsel ?_
      clear hsel
      cases n2 with
      | succ n2 =>
        refine tr_nextRange (by k_extra "upd") (by omega) fun tj => ?_
        dsimp only
        have e1 : ((j : Int) + 1) = ((j + 1 : Nat) : Int) := rfl
        have e2 : (((n2 + 1 : Nat) : Int) - 1) = (n2 : Int) := by omega
        rw [e1, e2]
        k_extra "sts"
        refine tr_tests_nil ⟨fun _ => ?_, fun q => (nomatch q)⟩
        k_extra "sts"
        refine tr_floordiv (by decide) (by decide +kernel) fun _ => ?_
        k_extra "sts"
        have e27 : (2 : Int) ^ 27 = 134217728 := by decide
        have ib : Builtin.Int.intBits 4 = 3 := by decide +kernel
        refine tr_pow (by omega) (by rw [ib, e27]; omega) fun _ => ?_
        have hp2 := pow4_ok (j : Int).toNat (by omega)
        refine tr_floordiv hp2.1 hp2.2 fun _ => ?_
        k_extra "sts"
        refine Tr.sel (by k_extra "sel") (law_solved (m := m) (which := j) (fs := fs) (c := c.deeper _) hcG (B.deeper _) ((R.deeper _).le (by omega)) hm hnv hVR f1 f3 (fun f hf => by have := f2 f hf; omega) (by omega) (fun x hx => by obtain ⟨a1, a2, a3, a4, a5⟩ := hVRs x hx; exact ⟨a1, a2, a4, a5⟩) fun Dl RS q1 q2 => ?_)
        have hrl : (tbs.reverse.map fun x => Value.ref x.1).length ≤ sizeLine := by simp; omega
        k_extra "sts"
        refine' ⟨n2, _, by omega, Sel.refl, j + 1, (Dl, RS) :: tbs, _, by omega, by simp [htl], ?h1, ?hs⟩
        (case h1 =>
          intro w x hx
          rw [List.reverse_cons] at hx
          rcases Nat.lt_or_ge w tbs.reverse.length with q | q
          · rw [List.getElem?_append_left q] at hx; exact hts w x hx
          · rw [List.getElem?_append_right q] at hx
            have hjj : w - tbs.reverse.length = 0 := by
              rcases Nat.eq_zero_or_pos (w - tbs.reverse.length) with z | z
              · exact z
              · rw [List.getElem?_eq_none (by rw [List.length_singleton]; exact z)] at hx; exact nomatch hx
            rw [hjj] at hx
            cases hx
            have : w = j := by rw [List.length_reverse] at hjj q; omega
            subst this
            exact ⟨q1, q2⟩)
        (case hs => rw [List.reverse_cons, List.map_append, tbc_cons, List.cons_append, List.append_assoc]; k_extra "sel")
      | zero =>
        refine tr_nextRangeEnd (R.deeper _) (by k_extra "rem") (by simp) ?_
        dsimp only
        refine ⟨fm2, _, by k_extra "sel", ?_⟩
        obtain ⟨⟨aJ, RJ⟩, ⟨aHi, RH⟩, ⟨aL, RL⟩, rfl⟩ : ∃ x2 x1 x0, tbs = [x2, x1, x0] := by
          match tbs, (show tbs.length = 3 by omega) with
          | [x2, x1, x0], _ => exact ⟨x2, x1, x0, rfl⟩
        have sL : SpecR VR fs 0 M RL := hts 0 (aL, RL) rfl
        have sH : SpecR VR fs 1 M RH := hts 1 (aHi, RH) rfl
        have sJ : SpecR VR fs 2 M RJ := hts 2 (aJ, RJ) rfl
        clear hts htl hjn
        rw [show (List.map (fun x : Addr × List Row => Value.ref x.1) [(aJ, RJ), (aHi, RH), (aL, RL)].reverse) = [.ref aL, .ref aHi, .ref aJ] from rfl,
          show tbc [(aJ, RJ), (aHi, RH), (aL, RL)] = (aJ, pList (rowVals RJ)) :: (rcs RJ ++ ((aHi, pList (rowVals RH)) :: (rcs RH ++ ((aL, pList (rowVals RL)) :: (rcs RL ++ []))))) from rfl]
        refine tr_List3 (R.deeper _) (by k_extra "mem") ?_
        k_extra "sts"
        refine ⟨Nat.zero_le _, fun aE => ?_⟩
        refine Tr.loosen (P' := pTI []) (fun o p => ⟨[], .nil, p⟩) ?_
        k_extra "sts"
        refine ⟨by simp; omega, fun aW0 => ?_⟩
        k_extra "st"
        k_extra "st"
        simp only [List.append_assoc, List.cons_append, List.nil_append]
        obtain ⟨fm0, hF0, hfm0⟩ : ∃ fm0 : Str → Option Value, FrHas fm0 [(Str.ofString "many", .int m tm), (Str.ofString "low", .ref aL), (Str.ofString "just", .ref aJ), (Str.ofString "whole", .ref aW0)] ∧ fm0 = (fun y => if y = Str.ofString "whole" then some (Value.ref aW0) else if y = Str.ofString "just" then some (Value.ref aJ) else if y = Str.ofString "low" then some (Value.ref aL) else if y = Str.ofString "many" then some (Value.int m tm) else if y = Str.ofString "script" then some (.ref sc) else none) := ⟨_, by k_extra "fr", rfl⟩
        refine Tr.sel (L' := (Lf, pNs fm0) :: (aK, pCel none) :: (aW0, pList (rowVals [(aE, [])])) :: (aF, pCel (some (.int first tf))) :: (aR, pCel (some (.int rich tr))) :: (aB, pCel (some (.int M tM))) :: (aN, pCel (some (.ref aNm))) :: (aV, pCel (some (.ref D1))) :: (aM, pCel (some (mulV fl))) :: (aH, pCel (some (.ref aHi))) :: (aNm, pList nvs) :: (D1, pList (rowVals VR)) :: (aL, pList (rowVals RL)) :: (aHi, pList (rowVals RH)) :: (aJ, pList (rowVals RJ)) :: (rcs [(aE, [])] ++ (lcs VR ++ (flF fl fs ++ (rcs RL ++ (rcs RH ++ (rcs RJ ++ []))))))) ?_ ?_
        · rw [hfm0]
          show Sel ((Lf, _) :: (aK, _) :: (aW0, _) :: (aF, pCel (some (.int first tf))) :: (aR, pCel (some (.int rich tr))) :: (aB, pCel (some (.int M tM))) :: (aN, pCel (some (.ref aNm))) :: (aV, pCel (some (.ref D1))) :: (aM, pCel (some (mulV fl))) :: (aH, pCel (some (.ref aHi))) :: (aNm, pList nvs) :: (D1, pList (rowVals VR)) :: (aL, pList (rowVals RL)) :: (aHi, pList (rowVals RH)) :: (aJ, pList (rowVals RJ)) :: ((aE, pTI []) :: (lcs VR ++ (flF fl fs ++ (rcs RL ++ (rcs RH ++ (rcs RJ ++ []))))))) _
          k_extra "sel"
        clear hfm0
        k_extra "sts"
        refine tr_range fun r4 => ?_
        refine tr_iterRange (by k_extra "mem") (by omega) fun it4 => ?_
        refine TrC.join (J := fun L' => ∃ aW RW fm cv, RW.map (·.2) = prodL (VR.map (·.2)) ∧ FrHas fm [(Str.ofString "many", .int m tm), (Str.ofString "low", .ref aL), (Str.ofString "just", .ref aJ), (Str.ofString "whole", .ref aW)] ∧ Sel ((Lf, pNs fm) :: (aK, pCel cv) :: (aW, pList (rowVals RW)) :: (aF, pCel (some (.int first tf))) :: (aR, pCel (some (.int rich tr))) :: (aB, pCel (some (.int M tM))) :: (aN, pCel (some (.ref aNm))) :: (aV, pCel (some (.ref D1))) :: (aM, pCel (some (mulV fl))) :: (aH, pCel (some (.ref aHi))) :: (aNm, pList nvs) :: (D1, pList (rowVals VR)) :: (aL, pList (rowVals RL)) :: (aHi, pList (rowVals RH)) :: (aJ, pList (rowVals RJ)) :: (rcs RW ++ (lcs VR ++ (flF fl fs ++ (rcs RL ++ (rcs RH ++ (rcs RJ ++ []))))))) L') ?_ ?loop
        rotate_left
        · refine tr_forLoop (fun n L' => ∃ A Bz aW RW fm cv, VR = A ++ Bz ∧ n = Bz.length ∧ RW.map (·.2) = prodL (A.map (·.2)) ∧ FrHas fm [(Str.ofString "many", .int m tm), (Str.ofString "low", .ref aL), (Str.ofString "just", .ref aJ), (Str.ofString "whole", .ref aW)] ∧ Sel ((it4, pRIter A.length Bz.length) :: (Lf, pNs fm) :: (aK, pCel cv) :: (aW, pList (rowVals RW)) :: (aF, pCel (some (.int first tf))) :: (aR, pCel (some (.int rich tr))) :: (aB, pCel (some (.int M tM))) :: (aN, pCel (some (.ref aNm))) :: (aV, pCel (some (.ref D1))) :: (aM, pCel (some (mulV fl))) :: (aH, pCel (some (.ref aHi))) :: (aNm, pList nvs) :: (D1, pList (rowVals VR)) :: (aL, pList (rowVals RL)) :: (aHi, pList (rowVals RH)) :: (aJ, pList (rowVals RJ)) :: (rcs RW ++ (lcs VR ++ (flF fl fs ++ (rcs RL ++ (rcs RH ++ (rcs RJ ++ []))))))) L') ?_ m ?init
          rotate_left
          · refine ⟨[], VR, aW0, [(aE, [])], fm0, none, rfl, hVR.symm, rfl, hF0, ?_⟩
            rw [hVR]
            k_extra "sel"
          intro n3 L3 hI3
          obtain ⟨A, Bz, aW, RW, fm, cv, hVA, rfl, hRW, hF, hsel⟩ := hI3
          refine Tr.sel hsel ?_
          clear hsel
          cases Bz with
          | nil =>
            rw [List.append_nil] at hVA
            subst hVA
            refine tr_nextRangeEnd (R.deeper _) (by k_extra "rem") (by simp) ?_
            dsimp only
            refine tr_execs_nil ?_
            exact ⟨aW, RW, fm, cv, hRW, hF, by k_extra "sel"⟩
          | cons x Bz =>
            refine tr_nextRange (by k_extra "upd") (by simp) fun tk => ?_
            dsimp only
            have e1 : ((A.length : Int) + 1) = (((A ++ [x]).length : Nat) : Int) := by simp
            have e2 : (((x :: Bz).length : Nat) : Int) - 1 = ((Bz.length : Nat) : Int) := by simp
            rw [e1, e2]
            have hxV : x ∈ VR := by rw [hVA]; simp
            have hxl : (x.1, pInts x.2) ∈ lcs VR := List.mem_map.mpr ⟨x, hxV, rfl⟩
            obtain ⟨x1, x2, x3, x4, x5⟩ := hVRs x hxV
            k_extra "st"
            k_extra "st"
            k_extra "st"
            k_extra "st"
            refine' tr_AssignComp ?hsw ?hclos ?hcell ?hkind ?hnames ?hs ?_
            (case hsw => with_unfolding_all rfl)
            (case hclos => with_unfolding_all rfl)
            (case hcell => decide)
            (case hkind => exact rfl)
            (case hnames => decide)
            (case hs => intro _; rfl)
            k_extra "sts"
            rename_i it5
            refine ⟨it5, rfl, .lst (.head _), fun C5 D5 => ?_⟩
            have hWl : RW.length = (prodL (A.map (·.2))).length := by have := congrArg List.length hRW; simpa using this
            refine tr_two0 (fun n L' => ∃ RA RB NR fm5, RW = RA ++ RB ∧ n = RB.length ∧ (NR.reverse.map (·.2)) = (RA.map (·.2)).flatMap (fun r => x.2.map fun a => r ++ [a]) ∧ NR.length = RA.length * x.2.length ∧
              Sel ((C5, pNs fm5) :: (D5, pList (rowVals NR.reverse)) :: (it5, pLIter aW RA.length) :: (it4, pRIter ((A ++ [x]).length : Nat) (Bz.length : Nat)) :: (Lf, pNs fm) :: (aK, pCel (some (.int A.length tk))) :: (aW, pList (rowVals RW)) :: (aF, pCel (some (.int first tf))) :: (aR, pCel (some (.int rich tr))) :: (aB, pCel (some (.int M tM))) :: (aN, pCel (some (.ref aNm))) :: (aV, pCel (some (.ref D1))) :: (aM, pCel (some (mulV fl))) :: (aH, pCel (some (.ref aHi))) :: (aNm, pList nvs) :: (D1, pList (rowVals VR)) :: (aL, pList (rowVals RL)) :: (aHi, pList (rowVals RH)) :: (aJ, pList (rowVals RJ)) :: (rcs NR ++ (rcs RW ++ (lcs VR ++ (flF fl fs ++ (rcs RL ++ (rcs RH ++ (rcs RJ ++ [])))))))) L') ?_ RW.length ⟨[], RW, [], _, rfl, rfl, rfl, by simp, by k_extra "sel"⟩
            intro n5 L5 hI5
            obtain ⟨RA, RB, NR, fm5, hRA, rfl, hNR, hNl, hsel⟩ := hI5
            refine Tr.sel hsel ?_
            clear hsel
            cases RB with
            | cons rw0 RB =>
              have hrm : rw0 ∈ RW := by rw [hRA]; simp
              have hrc : (rw0.1, pTI rw0.2) ∈ rcs RW := rcs_mem hrm
              refine tr_nextItem (v := .ref rw0.1) (by k_extra "upd") (by k_extra "mem") pList_seq (by rw [hRA]; simp [rowVals]) ?_
              dsimp only
              k_extra "sts"
              refine tr_itemList (x := .ref x.1) (by k_extra "mem") (by simp [rowVals, hVA]) (by simp [rowVals]; omega) ?_
              refine tr_iterInts (ns := x.2) (by k_extra "mem") fun it6 => ⟨it6, rfl, (SelfIt.lst (.head _)).g, ?_⟩
              have hW27 : RW.length ≤ 27 := by
                have h1 := prodL_len (Vs := A.map (·.2)) fun v hv => by
                  obtain ⟨y, hy, rfl⟩ := List.mem_map.mp hv
                  exact (hVRs y (by rw [hVA]; exact List.mem_append_left _ hy)).2.2.2.1
                rw [List.length_map] at h1
                have h2 : A.length ≤ 3 := by have := congrArg List.length hVA; simp at this; omega
                have h4 : 3 ^ A.length ≤ 3 ^ 3 := Nat.pow_le_pow_right (by decide) h2
                omega
              have hr0 : rw0.2.length ≤ 3 := by
                have h1 : rw0.2 ∈ prodL (A.map (·.2)) := by rw [← hRW]; exact List.mem_map.mpr ⟨rw0, hrm, rfl⟩
                have h2 := prodL_length h1
                have h3 := congrArg List.length hVA
                simp at h2 h3
                omega
              have hRA27 : RA.length ≤ 27 := by have := congrArg List.length hRA; simp at this; omega
              refine tr_two1 (fun n L' => ∃ va vb NR2 fm6, x.2 = va ++ vb ∧ n = vb.length ∧ (NR2.reverse.map (·.2)) = (RA.map (·.2)).flatMap (fun r => x.2.map fun a => r ++ [a]) ++ va.map (fun a => rw0.2 ++ [a]) ∧ NR2.length = RA.length * x.2.length + va.length ∧ FrHas fm6 [(Str.ofString "row", .ref rw0.1)] ∧
                Sel ((it6, pLIter x.1 va.length) :: (C5, pNs fm6) :: (D5, pList (rowVals NR2.reverse)) :: (it5, pLIter aW (RA.length + 1)) :: (it4, pRIter ((A ++ [x]).length : Nat) (Bz.length : Nat)) :: (Lf, pNs fm) :: (aK, pCel (some (.int A.length tk))) :: (aW, pList (rowVals RW)) :: (aF, pCel (some (.int first tf))) :: (aR, pCel (some (.int rich tr))) :: (aB, pCel (some (.int M tM))) :: (aN, pCel (some (.ref aNm))) :: (aV, pCel (some (.ref D1))) :: (aM, pCel (some (mulV fl))) :: (aH, pCel (some (.ref aHi))) :: (aNm, pList nvs) :: (D1, pList (rowVals VR)) :: (aL, pList (rowVals RL)) :: (aHi, pList (rowVals RH)) :: (aJ, pList (rowVals RJ)) :: (rcs NR2 ++ (rcs RW ++ (lcs VR ++ (flF fl fs ++ (rcs RL ++ (rcs RH ++ (rcs RJ ++ [])))))))) L') ?_ x.2.length ?init6
              rotate_left
              · refine' ⟨[], x.2, NR, _, rfl, rfl, by rw [hNR]; simp, by simp [hNl], ?hf6, ?hs6⟩
                (case hs6 => k_extra "sel")
                (case hf6 => k_extra "fr")
              intro n6 L6 hI6
              obtain ⟨va, vb, NR2, fm6, hva, rfl, hNR2, hNl2, hF6, hsel⟩ := hI6
              refine Tr.sel hsel ?_
              clear hsel
              have hvl : va.length ≤ 3 := by have := congrArg List.length hva; simp at this; omega
              have hml : RA.length * x.2.length ≤ 27 * 3 := Nat.mul_le_mul hRA27 x4
              cases vb with
              | cons v vb =>
                refine tr_nextInt (ns := x.2) (v := v) (by k_extra "upd") (by k_extra "mem") pInts_seq (by rw [hva]; simp) fun tv => ?_
                dsimp only
                k_extra "sts"
                refine ⟨by simp; omega, fun Tb => ?_⟩
                refine tr_addTup (by k_extra "mem") (by omega) fun Dn => ?_
                have hnl2 : (rowVals NR2.reverse).length ≤ sizeLine := by simp [rowVals]; omega
                k_extra "sts"
                refine' ⟨vb.length, _, by simp, Sel.refl, va ++ [v], vb, (Dn, rw0.2 ++ [v]) :: NR2, _, by simp [hva], rfl, ?h1, ?h2, ?h3, ?h4⟩
                (case h4 => rw [List.reverse_cons, rowVals_snoc, rcs_cons, List.cons_append, List.length_append, List.length_singleton]; k_extra "sel")
                (case h1 => rw [List.reverse_cons, List.map_append, hNR2, List.map_append, List.append_assoc]; rfl)
                (case h2 => rw [List.length_cons, hNl2, List.length_append, List.length_singleton]; omega)
                (case h3 => k_extra "fr")
              | nil =>
                rw [List.append_nil] at hva
                subst hva
                refine tr_nextIntEnd (ns := x.2) (R.deeper _) (by k_extra "rem") (by k_extra "mem") pInts_seq (by simp) ?_
                dsimp only
                refine ⟨RB.length, _, by simp, Sel.refl, RA ++ [rw0], RB, NR2, fm6, by simp [hRA], rfl, ?_, ?_, ?_⟩
                · rw [hNR2, List.map_append, List.flatMap_append]; simp
                · rw [hNl2, List.length_append, List.length_singleton, Nat.add_mul, Nat.one_mul]
                · rw [List.length_append, List.length_singleton]; k_extra "sel"
            | nil =>
              rw [List.append_nil] at hRA
              subst hRA
              refine tr_nextEnd (R.deeper _) (by k_extra "rem") (by k_extra "mem") pList_seq (by simp [rowVals]) ?_
              dsimp only
              k_extra "sts"
              refine ⟨_, _, by k_extra "sel", ?_⟩
              k_extra "sts"
              refine' ⟨Bz.length, _, by simp, Sel.refl, A ++ [x], Bz, D5, NR.reverse, (fun y => if y = Str.ofString "whole" then some (Value.ref D5) else fm y), some (.int A.length tk), by simp [hVA], rfl, ?h1, ?h2, ?h3⟩
              (case h1 => rw [hNR, hRW, List.map_append]; exact (prodL_snoc x.2 (A.map (·.2))).symm)
              (case h2 => k_extra "fr")
              (case h3 =>
                have sp2 : ∀ Y, Sel (rcs NR.reverse ++ Y) (rcs NR ++ Y) := fun Y => .perm (List.Perm.append_right _ ((List.reverse_perm NR).symm.map fun z : Row => (z.1, pTI z.2)))
                refine' Sel.trans ?u ?v
                (case u => repeat (first | exact sp2 _ | apply Sel.under))
                (case v => k_extra "sel"))
        · intro L4 hJ4
          obtain ⟨aW, RW, fm, cv, hRW, hF, hsel⟩ := hJ4
          refine Tr.sel hsel ?_
          clear hsel
          k_extra "st"
          k_extra "st"
          have hP : Asc (prodL (VR.map (·.2))) := prodL_asc fun v hv => by
            obtain ⟨x, hx, rfl⟩ := List.mem_map.mp hv
            obtain ⟨x1, x2, x3, x4, x5⟩ := hVRs x hx
            exact ⟨lt_of_le_nodup x3 x2, x5⟩
          have hPr : ∀ {r}, r ∈ prodL (VR.map (·.2)) → ∀ a ∈ r, 0 ≤ a ∧ a ≤ 4 := prodL_range fun v hv => by
            obtain ⟨x, hx, rfl⟩ := List.mem_map.mp hv
            exact (hVRs x hx).2.2.2.2
          have hSm : ∀ {r}, r ∈ prodL (VR.map (·.2)) → Sm m r := fun {r} hr => ⟨by rw [prodL_length hr, List.length_map, hVR], hPr hr⟩
          have h12 : (prodL (VR.map (·.2))).length ≤ 12 := prodL_12 (by omega) (fun x hx => (hVRs x hx).2.2.2.1) hV2
          have eL := specR_list hP sL.1 sL.2 (fun r => decide (dot fs r ≤ M)) (fun r => by simp [okK])
          have eH := specR_list hP sH.1 sH.2 (fun r => decide (dot fs r ≥ M)) (fun r => by simp [okK])
          have eJ := specR_list hP sJ.1 sJ.2 (fun r => decide (dot fs r = M)) (fun r => by simp [okK])
          have lL : RL.length ≤ 12 := by have := congrArg List.length eL; have h2 := List.length_filter_le (fun r => decide (dot fs r ≤ M)) (prodL (VR.map (·.2))); rw [List.length_map] at this; omega
          have lH : RH.length ≤ 12 := by have := congrArg List.length eH; have h2 := List.length_filter_le (fun r => decide (dot fs r ≥ M)) (prodL (VR.map (·.2))); rw [List.length_map] at this; omega
          have lJ : RJ.length ≤ 12 := by have := congrArg List.length eJ; have h2 := List.length_filter_le (fun r => decide (dot fs r = M)) (prodL (VR.map (·.2))); rw [List.length_map] at this; omega
          have lW : RW.length ≤ 12 := by have := congrArg List.length hRW; simp at this; omega
          have mL : ∀ x ∈ RL, x.2 ∈ prodL (VR.map (·.2)) := fun x hx => ((sL.2 x.2).mp (List.mem_map.mpr ⟨x, hx, rfl⟩)).1
          have mH : ∀ x ∈ RH, x.2 ∈ prodL (VR.map (·.2)) := fun x hx => ((sH.2 x.2).mp (List.mem_map.mpr ⟨x, hx, rfl⟩)).1
          have mJ : ∀ x ∈ RJ, x.2 ∈ prodL (VR.map (·.2)) := fun x hx => ((sJ.2 x.2).mp (List.mem_map.mpr ⟨x, hx, rfl⟩)).1
          have mW : ∀ x ∈ RW, x.2 ∈ prodL (VR.map (·.2)) := fun x hx => by rw [← hRW]; exact List.mem_map.mpr ⟨x, hx, rfl⟩
          refine tr_isTrue_BoolOp ?_
          refine tr_Or_cons ?_
          k_extra "sts"
          refine tr_addLists (by k_extra "mem") (by k_extra "mem") pList_is pList_is (by simp [rowVals]; omega) fun D6 => ?_
          rw [show rowVals RL ++ rowVals RH = rowVals (RL ++ RH) by simp [rowVals]]
          k_extra "sts"
          have cL : ∀ x ∈ RL, (x.1, pTI x.2) ∈ rcs RL := fun x hx => rcs_mem hx
          have cH : ∀ x ∈ RH, (x.1, pTI x.2) ∈ rcs RH := fun x hx => rcs_mem hx
          have cJ : ∀ x ∈ RJ, (x.1, pTI x.2) ∈ rcs RJ := fun x hx => rcs_mem hx
          have cW : ∀ x ∈ RW, (x.1, pTI x.2) ∈ rcs RW := fun x hx => rcs_mem hx
          have hTLH : ∀ {Y : List Cell}, (∀ p ∈ rcs RL, p ∈ Y) → (∀ p ∈ rcs RH, p ∈ Y) → RowsIn Y m (RL ++ RH) := fun {Y} y1 y2 x hx => by
            rcases List.mem_append.mp hx with hx | hx
            · exact ⟨y1 _ (cL x hx), hSm (mL x hx)⟩
            · exact ⟨y2 _ (cH x hx), hSm (mH x hx)⟩
          refine tr_setRows (m := m) (RS := RL ++ RH) (W := prodL (VR.map (·.2))) ((R.deeper _).le (by omega)) hm (by k_extra "mem") (hTLH (by k_extra "all") (by k_extra "all")) (fun x hx => ?_) h12 fun S es RS2 s1 s2 s3 s4 => ?_
          · rcases List.mem_append.mp hx with hx | hx
            · exact mL x hx
            · exact mH x hx
          k_extra "sts"
          have l2 : RS2.length ≤ 12 := by
            have := len_le_of_subset s2 (l2 := prodL (VR.map (·.2))) fun r hr => by
              obtain ⟨x, hx, rfl⟩ := List.mem_map.mp hr
              rcases List.mem_append.mp (s3 x hx) with hx | hx
              · exact mL x hx
              · exact mH x hx
            rw [List.length_map] at this; omega
          refine tr_sortedSetR (m := m) (RS := RS2) ((R.deeper _).le (by omega)) hm (by k_extra "mem") s1 (fun x hx => (hTLH (by k_extra "all") (by k_extra "all")) x (s3 x hx)) s2 (by omega) fun D7 RS3 p1 p2 => ?_
          k_extra "sts"
          have e3 : RS3.map (·.2) = RW.map (·.2) := by
            rw [hRW]
            refine asc_ext (List.pairwise_map.mpr p2) hP fun r => ?_
            rw [(p1.map (·.2)).mem_iff]
            constructor
            · intro hr
              obtain ⟨x, hx, rfl⟩ := List.mem_map.mp hr
              rcases List.mem_append.mp (s3 x hx) with hx | hx
              · exact mL x hx
              · exact mH x hx
            · intro hr
              have key : ∃ x ∈ RL ++ RH, x.2 = r := by
                rcases Int.le_total (dot fs r) M with q | q
                · obtain ⟨x, hx, e⟩ := List.mem_map.mp ((sL.2 r).mpr ⟨hr, q⟩)
                  exact ⟨x, List.mem_append_left _ hx, e⟩
                · obtain ⟨x, hx, e⟩ := List.mem_map.mp ((sH.2 r).mpr ⟨hr, q⟩)
                  exact ⟨x, List.mem_append_right _ hx, e⟩
              obtain ⟨x, hx, rfl⟩ := key
              obtain ⟨y, hy, e⟩ := s4 x hx
              exact List.mem_map.mpr ⟨y, hy, e⟩
          refine tr_neRows (RS := RS3) (RS2 := RW) ((R.deeper _).le (by omega)) (by k_extra "mem") (by k_extra "mem") (fun x hx => (hTLH (by k_extra "all") (by k_extra "all") x (s3 x (p1.mem_iff.mp hx))).1) (fun x hx => ?_) ?_
          · have hcx := cW x hx
            k_extra "mem"
          rw [e3, decide_eq_true rfl]
          k_extra "sts"
          refine ⟨fun q => absurd q (by decide), fun _ => ?_⟩
          refine tr_Or_cons ?_
          k_extra "sts"
          refine' tr_ListComp ?hclos ?hcell ?hkind ?hnames ?hs ?_
          (case hclos => with_unfolding_all rfl)
          (case hcell => decide)
          (case hkind => exact rfl)
          (case hnames => decide)
          (case hs => intro _; rfl)
          k_extra "sts"
          rename_i it8
          refine ⟨it8, rfl, .lst (.head _), fun C8 D8 => ?_⟩
          refine tr_compLoop (fun n L' => ∃ A Bz fm8, RL = A ++ Bz ∧ n = Bz.length ∧
            Sel ((C8, pNs fm8) :: (D8, pList (rowVals (A.filter fun x => decide (x.2 ∈ RH.map (·.2))))) :: (it8, pLIter aL A.length) :: (Lf, pNs fm) :: (aK, pCel cv) :: (aW, pList (rowVals RW)) :: (aF, pCel (some (.int first tf))) :: (aR, pCel (some (.int rich tr))) :: (aB, pCel (some (.int M tM))) :: (aN, pCel (some (.ref aNm))) :: (aV, pCel (some (.ref D1))) :: (aM, pCel (some (mulV fl))) :: (aH, pCel (some (.ref aHi))) :: (aNm, pList nvs) :: (D1, pList (rowVals VR)) :: (aL, pList (rowVals RL)) :: (aHi, pList (rowVals RH)) :: (aJ, pList (rowVals RJ)) :: (rcs RW ++ (lcs VR ++ (flF fl fs ++ (rcs RL ++ (rcs RH ++ (rcs RJ ++ []))))))) L') ?_ RL.length ⟨[], RL, _, rfl, rfl, by k_extra "sel"⟩
          intro n8 L8 hI8
          obtain ⟨A, Bz, fm8, hA8, rfl, hsel⟩ := hI8
          refine Tr.sel hsel ?_
          clear hsel
          cases Bz with
          | cons x Bz =>
            have hxL : x ∈ RL := by rw [hA8]; simp
            have hxc := cL x hxL
            refine tr_nextItem (v := .ref x.1) (by k_extra "upd") (by k_extra "mem") pList_seq (by rw [hA8]; simp [rowVals]) ?_
            dsimp only
            k_extra "sts"
            refine tr_tests_one ?_
            k_extra "sts"
            refine tr_inRows (RS := RH) (r := x.2) ((R.deeper _).le (by omega)) (by k_extra "mem") (by k_extra "mem") (fun y hy => ?_) ?_
            · have hcy := cH y hy
              k_extra "mem"
            k_extra "sts"
            have hfl : (rowVals (A.filter fun x => decide (x.2 ∈ RH.map (·.2)))).length ≤ sizeLine := by
              have := List.length_filter_le (fun x : Row => decide (x.2 ∈ RH.map (·.2))) A
              have h2 := congrArg List.length hA8
              simp only [List.length_append, List.length_cons] at h2
              simp only [rowVals, List.length_map]
              omega
            refine ⟨fun hq => ?_, fun hq => ?_⟩
            · k_extra "sts"
              refine' ⟨Bz.length, _, by simp, Sel.refl, A ++ [x], Bz, _, by simp [hA8], rfl, ?hs⟩
              (case hs =>
                rw [List.filter_append, List.filter_cons, if_pos hq, List.filter_nil, rowVals_snoc, List.length_append, List.length_singleton]
                k_extra "sel")
            · refine' ⟨Bz.length, _, by simp, Sel.refl, A ++ [x], Bz, _, by simp [hA8], rfl, ?hs⟩
              (case hs =>
                rw [List.filter_append, List.filter_cons, if_neg (by rw [hq]; decide), List.filter_nil, List.append_nil, List.length_append, List.length_singleton]
                k_extra "sel")
          | nil =>
            rw [List.append_nil] at hA8
            subst hA8
            refine tr_nextEnd (R.deeper _) (by k_extra "rem") (by k_extra "mem") pList_seq (by simp [rowVals]) ?_
            dsimp only
            refine ⟨fm8, _, by k_extra "sel", ?_⟩
            k_extra "sts"
            have e5 : (RL.filter fun x => decide (x.2 ∈ RH.map (·.2))).map (·.2) = RJ.map (·.2) := by
              refine asc_ext (List.pairwise_map.mpr (sL.1.sublist List.filter_sublist)) (List.pairwise_map.mpr sJ.1) fun r => ?_
              rw [sJ.2 r, List.mem_map]
              constructor
              · rintro ⟨x, hx, rfl⟩
                obtain ⟨hx1, hx2⟩ := List.mem_filter.mp hx
                have q1 : dot fs x.2 ≤ M := ((sL.2 x.2).mp (List.mem_map.mpr ⟨x, hx1, rfl⟩)).2
                have q2 : dot fs x.2 ≥ M := ((sH.2 x.2).mp (of_decide_eq_true hx2)).2
                refine ⟨mL x hx1, ?_⟩
                show dot fs x.2 = M
                omega
              · rintro ⟨hr, q⟩
                have q : dot fs r = M := q
                obtain ⟨x, hx, rfl⟩ := List.mem_map.mp ((sL.2 r).mpr ⟨hr, (show dot fs r ≤ M by omega)⟩)
                exact ⟨x, List.mem_filter.mpr ⟨hx, decide_eq_true ((sH.2 x.2).mpr ⟨hr, (show dot fs x.2 ≥ M by omega)⟩)⟩, rfl⟩
            refine tr_neRows (RS := RL.filter fun x => decide (x.2 ∈ RH.map (·.2))) (RS2 := RJ) ((R.deeper _).le (by omega)) (by k_extra "mem") (by k_extra "mem") (fun x hx => ?_) (fun x hx => ?_) ?_
            · have hcx := cL x (List.mem_filter.mp hx).1
              k_extra "mem"
            · have hcx := cJ x hx
              k_extra "mem"
            rw [e5, decide_eq_true rfl]
            k_extra "sts"
            refine ⟨fun q => absurd q (by decide), fun _ => ?_⟩
            refine tr_Or_cons ?_
            have r1 : (rowVals RL).length ≤ sizeLine := by simp [rowVals]; omega
            have r2 : (rowVals RH).length ≤ sizeLine := by simp [rowVals]; omega
            have r3 : (rowVals RJ).length ≤ sizeLine := by simp [rowVals]; omega
            have r4 : (rowVals RW).length ≤ sizeLine := by simp [rowVals]; omega
            k_extra "sts"
            have e6 : ((rowVals RL).length : Int) + (rowVals RH).length = (rowVals RW).length + (rowVals RJ).length := by
              have q1 := congrArg List.length eL
              have q2 := congrArg List.length eH
              have q3 := congrArg List.length eJ
              have q4 := congrArg List.length hRW
              have q5 := count3 (dot fs) M (prodL (VR.map (·.2)))
              rw [List.length_map] at q1 q2 q3 q4
              simp only [rowVals, List.length_map]
              omega
            rw [e6, bne_self_eq_false]
            refine ⟨fun q => absurd q (by decide), fun _ => ?_⟩
            refine tr_Or_nil ⟨fun q => (nomatch q), fun _ => ?_⟩
            k_extra "st"
            k_extra "st"
            k_extra "st"
            k_extra "st"
            refine Tr.mono (Q := fun v L1 => ∃ tq, v = .int (4 * fs.sum) tq ∧ Sel ((Lf, pNs fm) :: (aK, pCel cv) :: (aW, pList (rowVals RW)) :: (aF, pCel (some (.int first tf))) :: (aR, pCel (some (.int rich tr))) :: (aB, pCel (some (.int M tM))) :: (aN, pCel (some (.ref aNm))) :: (aV, pCel (some (.ref D1))) :: (aM, pCel (some (mulV fl))) :: (aH, pCel (some (.ref aHi))) :: (aNm, pList nvs) :: (D1, pList (rowVals VR)) :: (aL, pList (rowVals RL)) :: (aHi, pList (rowVals RH)) :: (aJ, pList (rowVals RJ)) :: (rcs RW ++ (lcs VR ++ (flF fl fs ++ (rcs RL ++ (rcs RH ++ (rcs RJ ++ []))))))) L1) ?_ ?_
            · cases fl with
              | none =>
                have hs : fs.sum = m := by
                  have : fs = List.replicate m 1 := List.eq_replicate_iff.mpr ⟨f1, f3 rfl⟩
                  rw [this]; rcases hm with rfl | rfl <;> rfl
                rw [hs]
                k_extra "sts"
                refine tr_truthyNone ?_
                refine ⟨fun q => (nomatch q), fun _ => ?_⟩
                k_extra "sts"
                refine tr_mul (.of_left (by decide +kernel)) fun _ => ?_
                exact ⟨_, rfl, by k_extra "sel"⟩
              | some af =>
                have hfne : fs ≠ [] := fun e => by rw [e] at f1; simp at f1; omega
                have hsn : fs.length ≤ sizeLine := by omega
                have hfc : (af, pInts fs) ∈ flF (some af) fs := .head _
                k_extra "sts"
                refine ⟨fun _ => ?_, fun q => ?_⟩
                · k_extra "sts"
                  refine tr_sum (l := af) (ns := fs) ((R.deeper _).le (by omega)) (by refine (?_ : ∀ p ∈ flF (some af) fs, p ∈ _) _ hfc; k_extra "all") fun _ => ?_
                  refine tr_mul (.of_left (by decide +kernel)) fun _ => ?_
                  exact ⟨_, rfl, by k_extra "sel"⟩
                · cases fs with
                  | nil => exact absurd rfl hfne
                  | cons => cases q
            · intro v L9 hq9
              obtain ⟨tq, rfl, hsel⟩ := hq9
              refine Tr.sel hsel ?_
              clear hsel
              k_extra "st"
              k_extra "st"
              k_extra "st"
              obtain ⟨fm9, hF9, hfm9⟩ : ∃ fm9 : Str → Option Value, FrHas fm9 [(Str.ofString "many", .int m tm), (Str.ofString "low", .ref aL), (Str.ofString "just", .ref aJ), (Str.ofString "whole", .ref aW), (Str.ofString "most", .int (4 * fs.sum) tq)] ∧ fm9 = (fun y => if y = Str.ofString "most" then some (Value.int (4 * fs.sum) tq) else fm y) := ⟨_, by k_extra "fr", rfl⟩
              refine Tr.sel (L' := (Lf, pNs fm9) :: (aK, pCel cv) :: (aW, pList (rowVals RW)) :: (aF, pCel (some (.int first tf))) :: (aR, pCel (some (.int rich tr))) :: (aB, pCel (some (.int M tM))) :: (aN, pCel (some (.ref aNm))) :: (aV, pCel (some (.ref D1))) :: (aM, pCel (some (mulV fl))) :: (aH, pCel (some (.ref aHi))) :: (aNm, pList nvs) :: (D1, pList (rowVals VR)) :: (aL, pList (rowVals RL)) :: (aHi, pList (rowVals RH)) :: (aJ, pList (rowVals RJ)) :: (rcs RW ++ (lcs VR ++ (flF fl fs ++ (rcs RL ++ (rcs RH ++ (rcs RJ ++ []))))))) (by rw [hfm9]; k_extra "sel") ?_
              clear hfm9
              refine' tr_AssignComp ?hsw ?hclos ?hcell ?hkind ?hnames ?hs ?_
              (case hsw => with_unfolding_all rfl)
              (case hclos => with_unfolding_all rfl)
              (case hcell => decide)
              (case hkind => exact rfl)
              (case hnames => decide)
              (case hs => intro _; rfl)
              k_extra "sts"
              rename_i it9
              refine ⟨it9, rfl, .lst (.head _), fun C9 D9 => ?_⟩
              refine tr_compLoop (fun n L' => ∃ A Bz VTr fm10, VR = A ++ Bz ∧ n = Bz.length ∧ VTr.reverse.map (·.2) = A.map (fun x => mir x.2) ∧
                Sel ((C9, pNs fm10) :: (D9, pList (rowVals VTr.reverse)) :: (it9, pLIter D1 A.length) :: (lcs VTr ++ ((Lf, pNs fm9) :: (aK, pCel cv) :: (aW, pList (rowVals RW)) :: (aF, pCel (some (.int first tf))) :: (aR, pCel (some (.int rich tr))) :: (aB, pCel (some (.int M tM))) :: (aN, pCel (some (.ref aNm))) :: (aV, pCel (some (.ref D1))) :: (aM, pCel (some (mulV fl))) :: (aH, pCel (some (.ref aHi))) :: (aNm, pList nvs) :: (D1, pList (rowVals VR)) :: (aL, pList (rowVals RL)) :: (aHi, pList (rowVals RH)) :: (aJ, pList (rowVals RJ)) :: (rcs RW ++ (lcs VR ++ (flF fl fs ++ (rcs RL ++ (rcs RH ++ (rcs RJ ++ []))))))))) L') ?_ VR.length ⟨[], VR, [], _, rfl, rfl, rfl, by k_extra "sel"⟩
              intro n9 L9 hI9
              obtain ⟨A, Bz, VTr, fm10, hA9, rfl, hVT, hsel⟩ := hI9
              refine Tr.sel hsel ?_
              clear hsel
              have hVTr : VTr.length = A.length := by have := congrArg List.length hVT; simpa using this
              have hAl : A.length ≤ 3 := by have := congrArg List.length hA9; simp at this; omega
              cases Bz with
              | cons x Bz =>
                have hxV : x ∈ VR := by rw [hA9]; simp
                have hxl : (x.1, pInts x.2) ∈ lcs VR := List.mem_map.mpr ⟨x, hxV, rfl⟩
                obtain ⟨x1, x2, x3, x4, x5⟩ := hVRs x hxV
                refine tr_nextItem (v := .ref x.1) (by k_extra "upd") (by k_extra "mem") pList_seq (by rw [hA9]; simp [rowVals]) ?_
                dsimp only
                k_extra "sts"
                refine tr_tests_nil ⟨fun _ => ?_, fun q => (nomatch q)⟩
                k_extra "sts"
                refine' tr_ListComp ?hclos ?hcell ?hkind ?hnames ?hs ?_
                (case hclos => with_unfolding_all rfl)
                (case hcell => decide)
                (case hkind => exact rfl)
                (case hnames => decide)
                (case hs => intro _; rfl)
                k_extra "st"
                refine tr_iterInts (ns := x.2) (by k_extra "mem") fun it10 => ⟨it10, rfl, .lst (.head _), fun C10 D10 => ?_⟩
                refine tr_compLoop (fun n L' => ∃ va vb us fm11 fm12, x.2 = va ++ vb ∧ n = vb.length ∧ IntsAre us (mir va) ∧
                  Sel ((C10, pNs fm11) :: (D10, pList us) :: (it10, pLIter x.1 va.length) :: (C9, pNs fm12) :: (D9, pList (rowVals VTr.reverse)) :: (it9, pLIter D1 (A.length + 1)) :: (lcs VTr ++ ((Lf, pNs fm9) :: (aK, pCel cv) :: (aW, pList (rowVals RW)) :: (aF, pCel (some (.int first tf))) :: (aR, pCel (some (.int rich tr))) :: (aB, pCel (some (.int M tM))) :: (aN, pCel (some (.ref aNm))) :: (aV, pCel (some (.ref D1))) :: (aM, pCel (some (mulV fl))) :: (aH, pCel (some (.ref aHi))) :: (aNm, pList nvs) :: (D1, pList (rowVals VR)) :: (aL, pList (rowVals RL)) :: (aHi, pList (rowVals RH)) :: (aJ, pList (rowVals RJ)) :: (rcs RW ++ (lcs VR ++ (flF fl fs ++ (rcs RL ++ (rcs RH ++ (rcs RJ ++ []))))))))) L') ?_ x.2.length ⟨[], x.2, [], _, _, rfl, rfl, .nil, by k_extra "sel"⟩
                intro n10 L10 hI10
                obtain ⟨va, vb, us, fm11, fm12, hva, rfl, hus, hsel⟩ := hI10
                refine Tr.sel hsel ?_
                clear hsel
                have hul := ints_len hus
                rw [mir_len] at hul
                have hvl : va.length ≤ 3 := by have := congrArg List.length hva; simp at this; omega
                have hDl : (rowVals VTr.reverse).length ≤ sizeLine := by simp [rowVals]; omega
                cases vb with
                | cons v vb =>
                  refine tr_nextInt (ns := x.2) (v := v) (by k_extra "upd") (by k_extra "mem") pInts_seq (by rw [hva]; simp) fun tv => ?_
                  dsimp only
                  k_extra "sts"
                  refine tr_tests_nil ⟨fun _ => ?_, fun q => (nomatch q)⟩
                  k_extra "sts"
                  refine' ⟨vb.length, _, by simp, Sel.refl, va ++ [v], vb, _, _, _, by simp [hva], rfl, ?hi, ?hs⟩
                  (case hs => rw [List.length_append, List.length_singleton]; k_extra "sel")
                  (case hi => unfold mir; rw [List.map_append]; exact ints_app hus (ints_one _ _))
                | nil =>
                  rw [List.append_nil] at hva
                  subst hva
                  refine tr_nextIntEnd (ns := x.2) (R.deeper _) (by k_extra "rem") (by k_extra "mem") pInts_seq (by simp) ?_
                  dsimp only
                  refine ⟨fm11, _, by k_extra "sel", ?_⟩
                  refine Tr.loosenU (a := D10) (P := pList us) (P' := pInts (mir x.2)) (by k_extra "upd") (fun o p => ⟨us, hus, p⟩) ?_
                  k_extra "sts"
                  refine' ⟨Bz.length, _, by simp, Sel.refl, A ++ [x], Bz, (D10, mir x.2) :: VTr, fm12, by simp [hA9], rfl, ?hr, ?hs⟩
                  (case hr => rw [List.reverse_cons, List.map_append, hVT, List.map_append]; rfl)
                  (case hs => rw [List.reverse_cons, rowVals_snoc, lcs_cons, List.cons_append, List.length_append, List.length_singleton]; k_extra "sel")
              | nil =>
                rw [List.append_nil] at hA9
                subst hA9
                refine tr_nextEnd (R.deeper _) (by k_extra "rem") (by k_extra "mem") pList_seq (by simp [rowVals]) ?_
                dsimp only
                k_extra "sts"
                refine ⟨_, _, by k_extra "sel", ?_⟩
                k_extra "st"
                have hVTm : VTr.reverse.map (·.2) = (VR.map (·.2)).map mir := mir_rows hVT
                have hVTl : VTr.reverse.length = m := by rw [List.length_reverse]; omega
                have sp3 : ∀ Y, Sel (lcs VTr.reverse ++ Y) (lcs VTr ++ Y) := fun Y => .perm (List.Perm.append_right _ ((List.reverse_perm VTr).symm.map fun x : Row => (x.1, pInts x.2)))
                clear hVT hVTr hAl
                generalize VTr.reverse = VT at *
                obtain ⟨fmT, hFT, hfmT⟩ : ∃ fmT : Str → Option Value, FrHas fmT [(Str.ofString "many", .int m tm), (Str.ofString "low", .ref aL), (Str.ofString "just", .ref aJ), (Str.ofString "whole", .ref aW), (Str.ofString "most", .int (4 * fs.sum) tq), (Str.ofString "turned", .ref D9)] ∧ fmT = (fun y => if y = Str.ofString "turned" then some (Value.ref D9) else fm9 y) := ⟨_, by k_extra "fr", rfl⟩
                refine Tr.sel (L' := (Lf, pNs fmT) :: (aW, pList (rowVals RW)) :: (aF, pCel (some (.int first tf))) :: (aB, pCel (some (.int M tM))) :: (aN, pCel (some (.ref aNm))) :: (aM, pCel (some (mulV fl))) :: (aH, pCel (some (.ref aHi))) :: (aNm, pList nvs) :: (aL, pList (rowVals RL)) :: (aHi, pList (rowVals RH)) :: (D9, pList (rowVals VT)) :: (lcs VT ++ (rcs RW ++ (flF fl fs ++ (rcs RL ++ (rcs RH ++ [])))))) ?_ ?_
                · rw [hfmT]
                  refine' Sel.trans ?u ?v
                  (case u => repeat (first | exact sp3 _ | apply Sel.under))
                  (case v => k_extra "sel")
                clear hfmT sp3
                k_extra "sts"
                refine ⟨fun hq => ?_, fun hq => ?_⟩
                · have hq := of_decide_eq_true hq
                  have eLW : RL.map (·.2) = RW.map (·.2) := by
                    rw [eL, hRW]
                    refine List.filter_eq_self.mpr fun r hr => decide_eq_true ?_
                    have := dot_le (fs := fs) (r := r) (by rw [prodL_length hr, List.length_map]; omega) (fun f hf => by have := f2 f hf; omega) (hPr hr)
                    omega
                  k_extra "sts"
                  refine tr_eqRows (RS := RL) (RS2 := RW) ((R.deeper _).le (by omega)) (by k_extra "mem") (by k_extra "mem") (fun x hx => ?_) (fun x hx => ?_) ?_
                  · have hcx := cL x hx
                    k_extra "mem"
                  · have hcx := cW x hx
                    k_extra "mem"
                  rw [decide_eq_true eLW]
                  k_extra "sts"
                  exact ⟨_, Sel.refl, h _⟩
                · clear hq
                  have hVTs : ∀ x ∈ VT, x.2 ≠ [] ∧ x.2.Nodup ∧ x.2.length ≤ 3 ∧ ∀ a ∈ x.2, 0 ≤ a ∧ a ≤ 4 := fun x hx => by
                    have h1 : x.2 ∈ (VR.map (·.2)).map mir := hVTm ▸ List.mem_map.mpr ⟨x, hx, rfl⟩
                    obtain ⟨v, hv, hxv⟩ := List.mem_map.mp h1
                    obtain ⟨y, hy, rfl⟩ := List.mem_map.mp hv
                    obtain ⟨y1, y2, y3, y4, y5⟩ := hVRs y hy
                    rw [← hxv]
                    exact ⟨fun e => y1 (List.map_eq_nil_iff.mp e), mir_nodup y2, by rw [mir_len]; exact y4, mir_range y5⟩
                  have hPT : (prodL (VT.map (·.2))).length ≤ 27 := by
                    have h1 := prodL_len (Vs := VT.map (·.2)) fun v hv => by
                      obtain ⟨y, hy, rfl⟩ := List.mem_map.mp hv
                      exact (hVTs y hy).2.2.1
                    rw [List.length_map, hVTl] at h1
                    have h4 : 3 ^ m ≤ 3 ^ 3 := Nat.pow_le_pow_right (by decide) (by omega)
                    omega
                  have hPTs : ∀ {r}, r ∈ prodL (VT.map (·.2)) → Sm m (mir r) := fun {r} hr => ⟨by rw [mir_len, prodL_length hr, List.length_map, hVTl], mir_range (prodL_range (fun v hv => by
                    obtain ⟨y, hy, rfl⟩ := List.mem_map.mp hv
                    exact (hVTs y hy).2.2.2) hr)⟩
                  k_extra "st"
                  k_extra "st"
                  k_extra "st"
                  refine' tr_AssignComp ?hsw ?hclos ?hcell ?hkind ?hnames ?hs ?_
                  (case hsw => with_unfolding_all rfl)
                  (case hclos => with_unfolding_all rfl)
                  (case hcell => decide)
                  (case hkind => exact rfl)
                  (case hnames => decide)
                  (case hs => intro _; rfl)
                  k_extra "sts"
                  refine tr_floordiv (by decide) (by decide +kernel) fun _ => ?_
                  k_extra "sts"
                  refine Tr.sel (by k_extra "sel") (law_solved (m := m) (which := 1) (fs := fs) (VS := VT) (c := c.deeper _) hcG (B.deeper _) ((R.deeper _).le (by omega)) hm hnv hVTl f1 f3 (fun f hf => by have := f2 f hf; omega) (by omega) hVTs fun Sb Rb ub wsb => ?_)
                  have lb : Rb.length ≤ 27 := by
                    have h1 := len_le_of_subset (asc_nodup (List.pairwise_map.mpr ub)) (l2 := prodL (VT.map (·.2))) fun r hr => ((wsb r).mp hr).1
                    rw [List.length_map] at h1
                    omega
                  k_extra "sts"
                  rename_i itb
                  refine ⟨itb, rfl, .lst (.head _), fun Cb Db => ?_⟩
                  refine tr_compLoop (fun n L' => ∃ A Bz BR fmk, Rb = A ++ Bz ∧ n = Bz.length ∧ BR.reverse.map (·.2) = A.map (fun x => mir x.2) ∧
                    Sel ((Cb, pNs fmk) :: (Db, pList (rowVals BR.reverse)) :: (itb, pLIter Sb A.length) :: (Sb, pList (rowVals Rb)) :: (rcs BR ++ (rcs Rb ++ ((Lf, pNs fmT) :: (aW, pList (rowVals RW)) :: (aF, pCel (some (.int first tf))) :: (aB, pCel (some (.int M tM))) :: (aN, pCel (some (.ref aNm))) :: (aM, pCel (some (mulV fl))) :: (aH, pCel (some (.ref aHi))) :: (aNm, pList nvs) :: (aL, pList (rowVals RL)) :: (aHi, pList (rowVals RH)) :: (D9, pList (rowVals VT)) :: (lcs VT ++ (rcs RW ++ (flF fl fs ++ (rcs RL ++ (rcs RH ++ []))))))))) L') ?_ Rb.length ⟨[], Rb, [], _, rfl, rfl, rfl, by k_extra "sel"⟩
                  intro nb Lb hIb
                  obtain ⟨A, Bz, BR, fmk, hAb, rfl, hBR, hsel⟩ := hIb
                  refine Tr.sel hsel ?_
                  clear hsel
                  have hBRl : BR.length = A.length := by have := congrArg List.length hBR; simpa using this
                  have hAl : A.length ≤ 27 := by have := congrArg List.length hAb; simp at this; omega
                  cases Bz with
                  | cons x Bz =>
                    have hxR : x ∈ Rb := by rw [hAb]; simp
                    have hxc : (x.1, pTI x.2) ∈ rcs Rb := rcs_mem hxR
                    have hx3 : x.2.length ≤ 3 := by
                      have := prodL_length ((wsb x.2).mp (List.mem_map.mpr ⟨x, hxR, rfl⟩)).1
                      rw [List.length_map] at this
                      omega
                    refine tr_nextItem (v := .ref x.1) (by k_extra "upd") (by k_extra "mem") pList_seq (by rw [hAb]; simp [rowVals]) ?_
                    dsimp only
                    k_extra "sts"
                    refine tr_tests_nil ⟨fun _ => ?_, fun q => (nomatch q)⟩
                    k_extra "sts"
                    refine' tr_ListCompG ?hclos ?hcs ?hpc ?hkind ?hnames ?hs ?_
                    (case hclos => with_unfolding_all rfl)
                    (case hcs => intro _; rfl)
                    (case hpc => intro _; rfl)
                    (case hkind => exact rfl)
                    (case hnames => decide)
                    (case hs => intro _; rfl)
                    k_extra "sts"
                    refine tr_iterTup (by k_extra "mem") fun it10 => ⟨it10, rfl, selfTup (.head _), fun C10 D10 => ?_⟩
                    refine tr_compLoop (fun n L' => ∃ va vb us fm11 fm12, x.2 = va ++ vb ∧ n = vb.length ∧ IntsAre us (mir va) ∧
                      Sel ((C10, pNs fm11) :: (D10, pList us) :: (it10, pTIter x.1 va.length) :: (Cb, pNs fm12) :: (Db, pList (rowVals BR.reverse)) :: (itb, pLIter Sb (A.length + 1)) :: (Sb, pList (rowVals Rb)) :: (rcs BR ++ (rcs Rb ++ ((Lf, pNs fmT) :: (aW, pList (rowVals RW)) :: (aF, pCel (some (.int first tf))) :: (aB, pCel (some (.int M tM))) :: (aN, pCel (some (.ref aNm))) :: (aM, pCel (some (mulV fl))) :: (aH, pCel (some (.ref aHi))) :: (aNm, pList nvs) :: (aL, pList (rowVals RL)) :: (aHi, pList (rowVals RH)) :: (D9, pList (rowVals VT)) :: (lcs VT ++ (rcs RW ++ (flF fl fs ++ (rcs RL ++ (rcs RH ++ []))))))))) L') ?_ x.2.length ⟨[], x.2, [], _, _, rfl, rfl, .nil, by k_extra "sel"⟩
                    intro n10 L10 hI10
                    obtain ⟨va, vb, us, fm11, fm12, hva, rfl, hus, hsel⟩ := hI10
                    refine Tr.sel hsel ?_
                    clear hsel
                    have hul := ints_len hus
                    rw [mir_len] at hul
                    have hvl : va.length ≤ 3 := by have := congrArg List.length hva; simp at this; omega
                    have hDl : (rowVals BR.reverse).length ≤ sizeLine := by simp [rowVals]; omega
                    cases vb with
                    | cons v vb =>
                      refine tr_nextTup (ns := x.2) (v := v) (by k_extra "upd") (by k_extra "mem") (by rw [hva]; simp) fun tv => ?_
                      dsimp only
                      k_extra "sts"
                      refine tr_tests_nil ⟨fun _ => ?_, fun q => (nomatch q)⟩
                      k_extra "sts"
                      refine' ⟨vb.length, _, by simp, Sel.refl, va ++ [v], vb, _, _, _, by simp [hva], rfl, ?hi, ?hs⟩
                      (case hs => rw [List.length_append, List.length_singleton]; k_extra "sel")
                      (case hi => unfold mir; rw [List.map_append]; exact ints_app hus (ints_one _ _))
                    | nil =>
                      rw [List.append_nil] at hva
                      subst hva
                      refine tr_nextTupEnd (ns := x.2) (R.deeper _) (by k_extra "rem") (by k_extra "mem") (by simp) ?_
                      dsimp only
                      refine ⟨fm11, _, by k_extra "sel", ?_⟩
                      k_extra "sts"
                      refine tr_tupleL (by k_extra "mem") pList_is (by omega) fun T => ?_
                      refine Tr.loosen (P' := pTI (mir x.2)) (fun o p => ⟨us, hus, p⟩) ?_
                      k_extra "sts"
                      refine' ⟨Bz.length, _, by simp, Sel.refl, A ++ [x], Bz, (T, mir x.2) :: BR, fm12, by simp [hAb], rfl, ?hr, ?hs⟩
                      (case hr => rw [List.reverse_cons, List.map_append, hBR, List.map_append]; rfl)
                      (case hs => rw [List.reverse_cons, rowVals_snoc, rcs_cons, List.cons_append, List.length_append, List.length_singleton]; k_extra "sel")
                  | nil =>
                    rw [List.append_nil] at hAb
                    subst hAb
                    refine tr_nextEnd (R.deeper _) (by k_extra "rem") (by k_extra "mem") pList_seq (by simp [rowVals]) ?_
                    dsimp only
                    k_extra "sts"
                    refine ⟨_, _, by k_extra "sel", ?_⟩
                    k_extra "st"
                    have meb : BR.reverse.map (·.2) = (Rb.map (·.2)).map mir := by rw [hBR, List.map_map]; rfl
                    have spb : ∀ Y, Sel (rcs BR.reverse ++ Y) (rcs BR ++ Y) := fun Y => .perm (List.Perm.append_right _ ((List.reverse_perm BR).symm.map fun x : Row => (x.1, pTI x.2)))
                    clear hBR hBRl hAl
                    generalize BR.reverse = Kb at *
                    obtain ⟨fmB, hFb, hfmb⟩ : ∃ fmN : Str → Option Value, FrHas fmN [(Str.ofString "many", .int m tm), (Str.ofString "low", .ref aL), (Str.ofString "just", .ref aJ), (Str.ofString "whole", .ref aW), (Str.ofString "most", .int (4 * fs.sum) tq), (Str.ofString "turned", .ref D9), (Str.ofString "back", .ref Db)] ∧ fmN = (fun y => if y = Str.ofString "back" then some (Value.ref Db) else fmT y) := ⟨_, by k_extra "fr", rfl⟩
                    refine Tr.sel (L' := (Lf, pNs fmB) :: (aW, pList (rowVals RW)) :: (aF, pCel (some (.int first tf))) :: (aB, pCel (some (.int M tM))) :: (aN, pCel (some (.ref aNm))) :: (aM, pCel (some (mulV fl))) :: (aH, pCel (some (.ref aHi))) :: (aNm, pList nvs) :: (aL, pList (rowVals RL)) :: (aHi, pList (rowVals RH)) :: (D9, pList (rowVals VT)) :: (Db, pList (rowVals Kb)) :: (lcs VT ++ (rcs RW ++ (flF fl fs ++ (rcs RL ++ (rcs RH ++ (rcs Kb ++ []))))))) ?_ ?_
                    · rw [hfmb]
                      refine' Sel.trans ?u ?v
                      (case u => repeat (first | exact spb _ | apply Sel.under | apply Sel.underB))
                      (case v => k_extra "sel")
                    clear hfmb spb
                    have ab : ∀ x ∈ Kb, ∃ y ∈ Rb, x.2 = mir y.2 := fun x hx => by
                      have h1 : x.2 ∈ (Rb.map (·.2)).map mir := meb ▸ List.mem_map.mpr ⟨x, hx, rfl⟩
                      obtain ⟨r, hr, e⟩ := List.mem_map.mp h1
                      obtain ⟨y, hy, rfl⟩ := List.mem_map.mp hr
                      exact ⟨y, hy, e.symm⟩
                    have smb : ∀ x ∈ Kb, Sm m x.2 := fun x hx => by
                      obtain ⟨y, hy, e⟩ := ab x hx
                      rw [e]
                      exact hPTs ((wsb y.2).mp (List.mem_map.mpr ⟨y, hy, rfl⟩)).1
                    have ndb : (Kb.map (·.2)).Nodup := by
                      rw [meb]
                      exact List.pairwise_map.mpr ((asc_nodup (List.pairwise_map.mpr ub)).imp fun {a b} q e => q (mir_inj e))
                    have zb : Kb.length < 64 := by
                      have h1 := congrArg List.length meb
                      simp only [List.length_map] at h1
                      omega
                    have cb : ∀ x ∈ Kb, (x.1, pTI x.2) ∈ rcs Kb := fun x hx => rcs_mem hx
                    k_extra "st"
                    refine' tr_AssignComp ?hsw ?hclos ?hcell ?hkind ?hnames ?hs ?_
                    (case hsw => with_unfolding_all rfl)
                    (case hclos => with_unfolding_all rfl)
                    (case hcell => decide)
                    (case hkind => exact rfl)
                    (case hnames => decide)
                    (case hs => intro _; rfl)
                    k_extra "sts"
                    refine tr_floordiv (by decide) (by decide +kernel) fun _ => ?_
                    k_extra "sts"
                    refine Tr.sel (by k_extra "sel") (law_solved (m := m) (which := 0) (fs := fs) (VS := VT) (c := c.deeper _) hcG (B.deeper _) ((R.deeper _).le (by omega)) hm hnv hVTl f1 f3 (fun f hf => by have := f2 f hf; omega) (by omega) hVTs fun So Ro uo wso => ?_)
                    have lo : Ro.length ≤ 27 := by
                      have h1 := len_le_of_subset (asc_nodup (List.pairwise_map.mpr uo)) (l2 := prodL (VT.map (·.2))) fun r hr => ((wso r).mp hr).1
                      rw [List.length_map] at h1
                      omega
                    k_extra "sts"
                    rename_i ito
                    refine ⟨ito, rfl, .lst (.head _), fun Co Do => ?_⟩
                    refine tr_compLoop (fun n L' => ∃ A Bz BR fmk, Ro = A ++ Bz ∧ n = Bz.length ∧ BR.reverse.map (·.2) = A.map (fun x => mir x.2) ∧
                      Sel ((Co, pNs fmk) :: (Do, pList (rowVals BR.reverse)) :: (ito, pLIter So A.length) :: (So, pList (rowVals Ro)) :: (rcs BR ++ (rcs Ro ++ ((Lf, pNs fmB) :: (aW, pList (rowVals RW)) :: (aF, pCel (some (.int first tf))) :: (aB, pCel (some (.int M tM))) :: (aN, pCel (some (.ref aNm))) :: (aM, pCel (some (mulV fl))) :: (aH, pCel (some (.ref aHi))) :: (aNm, pList nvs) :: (aL, pList (rowVals RL)) :: (aHi, pList (rowVals RH)) :: (D9, pList (rowVals VT)) :: (Db, pList (rowVals Kb)) :: (lcs VT ++ (rcs RW ++ (flF fl fs ++ (rcs RL ++ (rcs RH ++ (rcs Kb ++ [])))))))))) L') ?_ Ro.length ⟨[], Ro, [], _, rfl, rfl, rfl, by k_extra "sel"⟩
                    intro no Lo hIo
                    obtain ⟨A, Bz, BR, fmk, hAo, rfl, hBR, hsel⟩ := hIo
                    refine Tr.sel hsel ?_
                    clear hsel
                    have hBRl : BR.length = A.length := by have := congrArg List.length hBR; simpa using this
                    have hAl : A.length ≤ 27 := by have := congrArg List.length hAo; simp at this; omega
                    cases Bz with
                    | cons x Bz =>
                      have hxR : x ∈ Ro := by rw [hAo]; simp
                      have hxc : (x.1, pTI x.2) ∈ rcs Ro := rcs_mem hxR
                      have hx3 : x.2.length ≤ 3 := by
                        have := prodL_length ((wso x.2).mp (List.mem_map.mpr ⟨x, hxR, rfl⟩)).1
                        rw [List.length_map] at this
                        omega
                      refine tr_nextItem (v := .ref x.1) (by k_extra "upd") (by k_extra "mem") pList_seq (by rw [hAo]; simp [rowVals]) ?_
                      dsimp only
                      k_extra "sts"
                      refine tr_tests_nil ⟨fun _ => ?_, fun q => (nomatch q)⟩
                      k_extra "sts"
                      refine' tr_ListCompG ?hclos ?hcs ?hpc ?hkind ?hnames ?hs ?_
                      (case hclos => with_unfolding_all rfl)
                      (case hcs => intro _; rfl)
                      (case hpc => intro _; rfl)
                      (case hkind => exact rfl)
                      (case hnames => decide)
                      (case hs => intro _; rfl)
                      k_extra "sts"
                      refine tr_iterTup (by k_extra "mem") fun it10 => ⟨it10, rfl, selfTup (.head _), fun C10 D10 => ?_⟩
                      refine tr_compLoop (fun n L' => ∃ va vb us fm11 fm12, x.2 = va ++ vb ∧ n = vb.length ∧ IntsAre us (mir va) ∧
                        Sel ((C10, pNs fm11) :: (D10, pList us) :: (it10, pTIter x.1 va.length) :: (Co, pNs fm12) :: (Do, pList (rowVals BR.reverse)) :: (ito, pLIter So (A.length + 1)) :: (So, pList (rowVals Ro)) :: (rcs BR ++ (rcs Ro ++ ((Lf, pNs fmB) :: (aW, pList (rowVals RW)) :: (aF, pCel (some (.int first tf))) :: (aB, pCel (some (.int M tM))) :: (aN, pCel (some (.ref aNm))) :: (aM, pCel (some (mulV fl))) :: (aH, pCel (some (.ref aHi))) :: (aNm, pList nvs) :: (aL, pList (rowVals RL)) :: (aHi, pList (rowVals RH)) :: (D9, pList (rowVals VT)) :: (Db, pList (rowVals Kb)) :: (lcs VT ++ (rcs RW ++ (flF fl fs ++ (rcs RL ++ (rcs RH ++ (rcs Kb ++ [])))))))))) L') ?_ x.2.length ⟨[], x.2, [], _, _, rfl, rfl, .nil, by k_extra "sel"⟩
                      intro n10 L10 hI10
                      obtain ⟨va, vb, us, fm11, fm12, hva, rfl, hus, hsel⟩ := hI10
                      refine Tr.sel hsel ?_
                      clear hsel
                      have hul := ints_len hus
                      rw [mir_len] at hul
                      have hvl : va.length ≤ 3 := by have := congrArg List.length hva; simp at this; omega
                      have hDl : (rowVals BR.reverse).length ≤ sizeLine := by simp [rowVals]; omega
                      cases vb with
                      | cons v vb =>
                        refine tr_nextTup (ns := x.2) (v := v) (by k_extra "upd") (by k_extra "mem") (by rw [hva]; simp) fun tv => ?_
                        dsimp only
                        k_extra "sts"
                        refine tr_tests_nil ⟨fun _ => ?_, fun q => (nomatch q)⟩
                        k_extra "sts"
                        refine' ⟨vb.length, _, by simp, Sel.refl, va ++ [v], vb, _, _, _, by simp [hva], rfl, ?hi, ?hs⟩
                        (case hs => rw [List.length_append, List.length_singleton]; k_extra "sel")
                        (case hi => unfold mir; rw [List.map_append]; exact ints_app hus (ints_one _ _))
                      | nil =>
                        rw [List.append_nil] at hva
                        subst hva
                        refine tr_nextTupEnd (ns := x.2) (R.deeper _) (by k_extra "rem") (by k_extra "mem") (by simp) ?_
                        dsimp only
                        refine ⟨fm11, _, by k_extra "sel", ?_⟩
                        k_extra "sts"
                        refine tr_tupleL (by k_extra "mem") pList_is (by omega) fun T => ?_
                        refine Tr.loosen (P' := pTI (mir x.2)) (fun o p => ⟨us, hus, p⟩) ?_
                        k_extra "sts"
                        refine' ⟨Bz.length, _, by simp, Sel.refl, A ++ [x], Bz, (T, mir x.2) :: BR, fm12, by simp [hAo], rfl, ?hr, ?hs⟩
                        (case hr => rw [List.reverse_cons, List.map_append, hBR, List.map_append]; rfl)
                        (case hs => rw [List.reverse_cons, rowVals_snoc, rcs_cons, List.cons_append, List.length_append, List.length_singleton]; k_extra "sel")
                    | nil =>
                      rw [List.append_nil] at hAo
                      subst hAo
                      refine tr_nextEnd (R.deeper _) (by k_extra "rem") (by k_extra "mem") pList_seq (by simp [rowVals]) ?_
                      dsimp only
                      k_extra "sts"
                      refine ⟨_, _, by k_extra "sel", ?_⟩
                      k_extra "st"
                      have meo : BR.reverse.map (·.2) = (Ro.map (·.2)).map mir := by rw [hBR, List.map_map]; rfl
                      have spo : ∀ Y, Sel (rcs BR.reverse ++ Y) (rcs BR ++ Y) := fun Y => .perm (List.Perm.append_right _ ((List.reverse_perm BR).symm.map fun x : Row => (x.1, pTI x.2)))
                      clear hBR hBRl hAl
                      generalize BR.reverse = Ko at *
                      obtain ⟨fmO, hFo, hfmo⟩ : ∃ fmN : Str → Option Value, FrHas fmN [(Str.ofString "many", .int m tm), (Str.ofString "low", .ref aL), (Str.ofString "just", .ref aJ), (Str.ofString "whole", .ref aW), (Str.ofString "most", .int (4 * fs.sum) tq), (Str.ofString "turned", .ref D9), (Str.ofString "back", .ref Db), (Str.ofString "other", .ref Do)] ∧ fmN = (fun y => if y = Str.ofString "other" then some (Value.ref Do) else fmB y) := ⟨_, by k_extra "fr", rfl⟩
                      refine Tr.sel (L' := (Lf, pNs fmO) :: (aW, pList (rowVals RW)) :: (aF, pCel (some (.int first tf))) :: (aB, pCel (some (.int M tM))) :: (aN, pCel (some (.ref aNm))) :: (aM, pCel (some (mulV fl))) :: (aH, pCel (some (.ref aHi))) :: (aNm, pList nvs) :: (aL, pList (rowVals RL)) :: (aHi, pList (rowVals RH)) :: (D9, pList (rowVals VT)) :: (Do, pList (rowVals Ko)) :: (Db, pList (rowVals Kb)) :: (lcs VT ++ (rcs RW ++ (flF fl fs ++ (rcs RL ++ (rcs RH ++ (rcs Ko ++ (rcs Kb ++ [])))))))) ?_ ?_
                      · rw [hfmo]
                        refine' Sel.trans ?u ?v
                        (case u => repeat (first | exact spo _ | apply Sel.under | apply Sel.underB))
                        (case v => k_extra "sel")
                      clear hfmo spo
                      have ao : ∀ x ∈ Ko, ∃ y ∈ Ro, x.2 = mir y.2 := fun x hx => by
                        have h1 : x.2 ∈ (Ro.map (·.2)).map mir := meo ▸ List.mem_map.mpr ⟨x, hx, rfl⟩
                        obtain ⟨r, hr, e⟩ := List.mem_map.mp h1
                        obtain ⟨y, hy, rfl⟩ := List.mem_map.mp hr
                        exact ⟨y, hy, e.symm⟩
                      have smo : ∀ x ∈ Ko, Sm m x.2 := fun x hx => by
                        obtain ⟨y, hy, e⟩ := ao x hx
                        rw [e]
                        exact hPTs ((wso y.2).mp (List.mem_map.mpr ⟨y, hy, rfl⟩)).1
                      have ndo : (Ko.map (·.2)).Nodup := by
                        rw [meo]
                        exact List.pairwise_map.mpr ((asc_nodup (List.pairwise_map.mpr uo)).imp fun {a b} q e => q (mir_inj e))
                      have zo : Ko.length < 64 := by
                        have h1 := congrArg List.length meo
                        simp only [List.length_map] at h1
                        omega
                      have co : ∀ x ∈ Ko, (x.1, pTI x.2) ∈ rcs Ko := fun x hx => rcs_mem hx
                      have eqs : ∀ {w w' : Nat} {Ls Qs Ks Rs : List Row}, ((w = 0 ∧ w' = 1) ∨ (w = 1 ∧ w' = 0)) → SpecR VR fs w M Ls → (∀ r, r ∈ Rs.map (·.2) ↔ r ∈ prodL (VT.map (·.2)) ∧ okK w' (4 * fs.sum - M) (dot fs r)) → Ks.map (·.2) = (Rs.map (·.2)).map mir →
                          List.Perm Qs Ks → Qs.Pairwise (fun x y => code x.2 < code y.2) → Qs.map (·.2) = Ls.map (·.2) := fun {w w' Ls Qs Ks Rs} e1 e2 e3 e4 e5 e6 =>
                        back_eq (Vs := VR.map (·.2)) (fs := fs) (M := M) e1 (by rw [List.length_map]; omega) (List.pairwise_map.mpr e2.1) e2.2 (Rs := Rs.map (·.2)) (by rw [← hVTm]; exact e3) (List.pairwise_map.mpr e6) (e4 ▸ e5.map (·.2))
                      k_extra "st"
                      k_extra "st"
                      refine tr_BoolAnd ?_
                      k_extra "sts"
                      refine tr_sortedListR (m := m) (RS := Kb) hm (by k_extra "mem") (fun x hx => ⟨?_, smb x hx⟩) ndb zb fun Eb Qb pb qb => ?_
                      · have hcx := cb x hx
                        k_extra "mem"
                      k_extra "sts"
                      refine tr_eqRows (RS := Qb) (RS2 := RL) ((R.deeper _).le (by omega)) (by k_extra "mem") (by k_extra "mem") (fun x hx => ?_) (fun x hx => ?_) ?_
                      · have hcx := cb x (pb.mem_iff.mp hx)
                        k_extra "mem"
                      · have hcx := cL x hx
                        k_extra "mem"
                      rw [decide_eq_true (eqs (.inl ⟨rfl, rfl⟩) sL wsb meb pb qb)]
                      k_extra "sts"
                      refine ⟨fun q => (nomatch q), fun _ => ?_⟩
                      k_extra "sts"
                      refine tr_sortedListR (m := m) (RS := Ko) hm (by k_extra "mem") (fun x hx => ⟨?_, smo x hx⟩) ndo zo fun Eo Qo po qo => ?_
                      · have hcx := co x hx
                        k_extra "mem"
                      k_extra "sts"
                      refine tr_eqRows (RS := Qo) (RS2 := RH) ((R.deeper _).le (by omega)) (by k_extra "mem") (by k_extra "mem") (fun x hx => ?_) (fun x hx => ?_) ?_
                      · have hcx := co x (po.mem_iff.mp hx)
                        k_extra "mem"
                      · have hcx := cH x hx
                        k_extra "mem"
                      rw [decide_eq_true (eqs (.inr ⟨rfl, rfl⟩) sH wso meo po qo)]
                      k_extra "sts"
                      exact ⟨_, Sel.refl, h _⟩)
  | succ n =>
    refine tr_nextRange (by k_extra "upd") (by omega) fun ti => ?_
    dsimp only
    have e1 : ((i : Int) + 1) = ((i + 1 : Nat) : Int) := rfl
    have e2 : (((n + 1 : Nat) : Int) - 1) = (n : Int) := by omega
    rw [e1, e2]
    k_extra "sts"
    refine tr_tests_nil ⟨fun _ => ?_, fun q => (nomatch q)⟩
    k_extra "sts"
    refine' tr_ListCompG ?hclos ?hcs ?hpc ?hkind ?hnames ?hs ?_
    (case hclos => with_unfolding_all rfl)
    (case hcs => intro _; rfl)
    (case hpc => intro _; rfl)
    (case hkind => exact rfl)
    (case hnames => decide)
    (case hs => intro _; rfl)
    k_extra "sts"
    refine tr_floordiv (by decide) (by decide +kernel) fun _ => ?_
    k_extra "sts"
    obtain ⟨w, hw1, hw3, hw2, ew⟩ : ∃ w : Nat, 1 ≤ w ∧ w ≤ 3 ∧ (1 ≤ i → w ≤ 2) ∧ 3 - ((i : Int) + 1).fdiv 2 = (w : Int) := by
      have : i = 0 ∨ i = 1 ∨ i = 2 := by omega
      rcases this with rfl | rfl | rfl
      · exact ⟨3, by decide, by decide, by decide, by decide⟩
      · exact ⟨2, by decide, by decide, by decide, by decide⟩
      · exact ⟨2, by decide, by decide, by decide, by decide⟩
    rw [ew]
    refine tr_range fun r2 => ?_
    refine tr_iterRange (by k_extra "mem") (by omega) fun it2 => ⟨it2, rfl, selfRange (.head _), fun C2 D2 => ?_⟩
    refine tr_compLoop (fun n2 L' => ∃ j us ks fm2, j + n2 = w ∧ IntsAre us ks ∧ ks.length = j ∧ (∀ a ∈ ks, 0 ≤ a ∧ a ≤ 4) ∧
      Sel ((C2, pNs fm2) :: (D2, pList us) :: (it2, pRIter j n2) :: (k1, pCel (some (.int i ti))) :: (C1, pNs fm) :: (D1, pList (rowVals VS.reverse)) :: (it1, pRIter (i + 1 : Nat) n) :: (lcs VS ++ ((aNm, pList nvs) :: (Lf, pNs fun y => if y = Str.ofString "many" then some (Value.int m tm) else if y = Str.ofString "script" then some (.ref sc) else none) :: (aF, pCel (some (.int first tf))) :: (aR, pCel (some (.int rich tr))) :: (aB, pCel (some (.int M tM))) :: (aN, pCel (some (.ref aNm))) :: (aK, pCel none) :: (aV, pCel none) :: (aM, pCel none) :: (aH, pCel none) :: []))) L') ?_ w ⟨0, [], [], _, Nat.zero_add _, .nil, rfl, fun _ h => (nomatch h), by k_extra "sel"⟩
    intro n2 L2 hI2
    obtain ⟨j, us, ks, fm2, hjn, hus, hkl, hks, hsel⟩ := hI2
    refine Tr.sel hsel ?_
    clear hsel
    have hul := ints_len hus
    cases n2 with
    | succ n2 =>
      refine tr_nextRange (by k_extra "upd") (by omega) fun tj => ?_
      dsimp only
      have e1 : ((j : Int) + 1) = ((j + 1 : Nat) : Int) := rfl
      have e2 : (((n2 + 1 : Nat) : Int) - 1) = (n2 : Int) := by omega
      rw [e1, e2]
      k_extra "sts"
      refine tr_tests_nil ⟨fun _ => ?_, fun q => (nomatch q)⟩
      k_extra "sts"
      refine tr_mul (.of_left (by decide +kernel)) fun _ => ?_
      k_extra "sts"
      refine tr_mul (.of_left (by decide +kernel)) fun _ => ?_
      k_extra "sts"
      have e27 : (2 : Int) ^ 27 = 134217728 := by decide
      have ib : Builtin.Int.intBits 2 = 2 := by decide +kernel
      refine tr_pow (by omega) (by rw [ib, e27]; omega) fun _ => ?_
      have hp2 := pow2_ok (20 + 9 * (i : Int) + 3 * (j : Int)).toNat (by omega)
      refine tr_floordiv hp2.1 hp2.2 fun _ => ?_
      k_extra "sts"
      refine tr_mod (by decide) fun _ => ?_
      have v0 : ∀ z : Int, 0 ≤ z.fmod 5 ∧ z.fmod 5 ≤ 4 := fun z => by
        have h1 := Int.fmod_nonneg_of_pos z (b := 5) (by decide)
        have h2 := Int.fmod_lt_of_pos z (b := 5) (by decide)
        omega
      have v1 := v0 (rich.fdiv (2 ^ (20 + 9 * (i : Int) + 3 * (j : Int)).toNat))
      generalize (rich.fdiv (2 ^ (20 + 9 * (i : Int) + 3 * (j : Int)).toNat)).fmod 5 = z at v1 ⊢
      k_extra "sts"
      refine' ⟨n2, _, by omega, Sel.refl, j + 1, _, ks ++ [z], _, by omega, ints_app hus (ints_one z _), by simp [hkl], ?ha, ?hs⟩
      (case ha =>
        intro a ha
        rcases List.mem_append.mp ha with ha | ha
        · exact hks a ha
        · rw [List.mem_singleton.mp ha]; exact v1)
      (case hs => k_extra "sel")
    | zero =>
      refine tr_nextRangeEnd (R.deeper _) (by k_extra "rem") (by simp) ?_
      dsimp only
      refine ⟨fm2, _, by k_extra "sel", ?_⟩
      k_extra "sts"
      refine tr_setInts ((R.deeper _).le (by omega)) (by k_extra "mem") hus (by omega) fun S es ks2 s1 s2 s3 => ?_
      k_extra "sts"
      have hk2 : ks2.length ≤ ks.length := len_le_of_subset s2 fun a ha => (s3 a).mp ha
      refine tr_sortedSetI ((R.deeper _).le (by omega)) (by k_extra "mem") s1 (by omega) fun D ks3 p1 p2 => ?_
      have hrv : (rowVals VS.reverse).length ≤ sizeLine := by simp [rowVals]; omega
      have hk3 : ks3.length ≤ w := by rw [p1.length_eq]; omega
      have hmem : ∀ a, a ∈ ks3 ↔ a ∈ ks := fun a => by rw [p1.mem_iff]; exact s3 a
      k_extra "sts"
      refine' ⟨n, _, by omega, Sel.refl, i + 1, (D, ks3) :: VS, fm, _, by omega, by simp [hVl], ?h1, ?h2, ?hs⟩
      (case h1 =>
        intro x hx
        rcases List.mem_cons.mp hx with rfl | hx
        · refine ⟨fun e => ?_, p1.nodup_iff.mpr s2, p2, by show ks3.length ≤ 3; omega, fun a ha => hks a ((hmem a).mp ha)⟩
          cases ks with
          | nil => simp at hkl; omega
          | cons a ks => have := (hmem a).mpr (.head _); rw [show ks3 = [] from e] at this; exact nomatch this
        · exact hVs x hx)
      (case h2 =>
        intro jj x hx hj1
        rw [List.reverse_cons] at hx
        rcases Nat.lt_or_ge jj VS.reverse.length with q | q
        · rw [List.getElem?_append_left q] at hx; exact hV2 jj x hx hj1
        · rw [List.getElem?_append_right q] at hx
          have hjj : jj - VS.reverse.length = 0 := by
            rcases Nat.eq_zero_or_pos (jj - VS.reverse.length) with z | z
            · exact z
            · rw [List.getElem?_eq_none (by rw [List.length_singleton]; exact z)] at hx; exact nomatch hx
          rw [hjj] at hx
          cases hx
          have : jj = i := by rw [List.length_reverse] at hjj q; omega
          have := hw2 (by omega)
          show ks3.length ≤ 2
          omega)
      (case hs => rw [List.reverse_cons, rowVals_snoc, lcs_cons, List.cons_append]; k_extra "sel")
end
end
end Mine
namespace Mine
set_option maxHeartbeats 8000000
theorem Rm_caller : Rm 100 callerA := ⟨rfl, by decide, by decide⟩
theorem mg_of_law {K : Frag} {h : Heap} {mg : Str → Option Value} {x : Str} {a b : Addr} (X : K.In h) (g : h.Ns mainGlobals mg) (e : nsIn K mainGlobals x = some (some (.ref b))) (hm : mg x = some (.ref a)) : a = b := by
  have := (mg_of X g e).symm.trans hm
  cases this
  rfl
end Mine
set_option maxHeartbeats 8000000 in
theorem PySem.Challenge.cw_aw5022_01_holds : PySem.Challenge.rw_aw5022_01.Holds := by
  refine Mine.hd ?_
  k_fill
  intro w s₀ s₁ mg mb G Y fa o pm cd doc dV kV ho hd hcd hD hmg hg args vals as hpre hlay hrd hwl hlo
  have KX := kIn_of Y
  have V := (Ground.X G).2
  refine Ground.open G ?_
  intro T B D TE TW
  try (refine guard_noD D (by decide +kernel) ?_; clear D)
  have hfa : fa = 506 := Mine.mg_of_law KX T.g (by k_is) hmg
  have BB : Mine.Bs (Mine.hd.heap_39 w.params) ⟨PySem.Challenge.rw_aw5022_01.row.prog, w, callerA, s₁.heap, AllBare, s₁.os⟩ mg mb := ⟨KX, T.g, T.b, T.builtins⟩
  have nl := T.nolimit
  clear hmg
  wrow_args hpre hlay hrd hwl hlo
  subst hfa

  rename_i ns _ _ hlay0 _ _ _ _ sc vs _ hL _ _ _ hI _ hlen _
  refine wpAny_mono (Mine.law_walk (c := ⟨PySem.Challenge.rw_aw5022_01.row.prog, w, callerA, s₁.heap, AllBare, s₁.os⟩) (X := []) (Q := fun v _ => v = .bool true) rfl BB Mine.Rm_caller hL hI (fun n hn => PyData.bits_item_of_ints hlay0 hn) (by omega) (fun _ => rfl) s₁ (Mine.Own.start nl) (AllBare.of_eq hg) rfl) ?_ ?_
  · rintro v s' ⟨L', H, g, os, rfl⟩
    exact ⟨.inl ⟨_, .bool true, [], rfl, fun _ => rfl, .bool true, postW_of rfl (w_eq_bool (w_res rfl) w_lit) rfl, unshared_nil⟩, .of_keep H.keep, os, g⟩
  · intro e s' h
    exact h.elim
