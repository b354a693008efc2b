import PyProof.Rows.All
import Wide.All
import OpenK.AllK
import Wide.FinOn
import KE.KSortAsk
import PySem.Challenge.RW_ph0034_01
set_option Elab.async false

-- Hd
section
open PySem PySem.W PyProof.Rows
set_option maxRecDepth 100000
set_option maxHeartbeats 8000000
set_option linter.all false
namespace Mine
theorem hd_holes {P R G : Prop} (_ : P) (_ : R) (g : G) : G := g
theorem left_boot {p q : Program} {loose : List Str} {Xt : Shared → Bool} {α : Type} {Yf : Shared → α} {Ya : World → α} {N : Nat}
    (e : opening p = plainProg p.main.scope.names) (hN : Nat.ble 600 N = true) (f : ∀ s, fenceModules? p s = some s) {m₀ : Nat} {ann : Option Value}
    (size : ∀ w : World, ((boot_heap w.params).isNs mainGlobals && (#[] : Array GenState).size == 0, (boot_heap w.params).objs.size, (boot_heap w.params).nsMap mainGlobals "__annotations__") = (true, m₀, ann))
    (run : ∀ (w : World) (os : OsState), (topRun treeTable p w m₀ ann N ⟨boot_heap w.params, #[], boot_drawn, boot_toks, os⟩ (topStub p)).map (fun s => (staticsOk (importedModules p.main.body) (boot_heap w.params) s.heap && namesBound p s.heap && gensDone s && laidKept (boot_heap w.params) s.heap,
        openSeen q loose (importedModules p.main.body) Xt true s, Yf s)) = some (true, openGood q loose, Ya w)) : LeftO p q loose Xt Yf Ya N := fun w => by
  obtain ⟨⟨h, gs, d, k, os⟩, e1, e2⟩ := Option.map_eq_some_iff.mp (boot_open e hN f w)
  obtain ⟨rfl, rfl, rfl, rfl⟩ : h = boot_heap w.params ∧ gs = #[] ∧ d = boot_drawn ∧ k = boot_toks := by simpa using e2
  obtain ⟨z1, z2, z3⟩ : _ ∧ _ ∧ _ := by simpa only [Prod.mk.injEq] using size w
  obtain ⟨s1, r, e3⟩ := Option.map_eq_some_iff.mp (run w os)
  obtain ⟨l1, l2, l3⟩ : _ ∧ _ ∧ _ := by simpa only [Prod.mk.injEq] using e3
  have t : topFrom treeTable p w N ⟨boot_heap w.params, #[], boot_drawn, boot_toks, os⟩ = some s1 := by
    unfold topFrom
    dsimp only
    rw [z1, z2, z3, r]
    show (match staticsOk (importedModules p.main.body) (boot_heap w.params) s1.heap && namesBound p s1.heap && gensDone s1 && laidKept (boot_heap w.params) s1.heap with | true => _ | false => _) = _
    rw [l1]
  unfold openEnds
  rw [e1]
  show (topFrom treeTable p w N _).map _ = _
  rw [t]
  exact congrArg some (Prod.ext l2 l3)
theorem said0 : PySem.Challenge.rw_ph0034_01.wellSaid = true := by
  rw [Fast.te9446332074065402090]
  kernel_rfl
noncomputable def hd := fun (h : _) => (by
  w_on
  refine holds_law said0 fun said => ?_
  refine' hd_holes ?hl ?hc ?main
  case main =>
    k_head
    case hw => w_witness2
  case hc => exact h
  case hl =>
    refine left_boot (m₀ := 11) (ann := some (.ref 6)) (by kernel_rfl) (by kernel_rfl) (fun s => by kernel_rfl) (fun w => by kernel_rfl) fun w os => ?_
    rw [Fast.te14082659384304107361, Fast.te14364793385576792824, Fast.te4187177175401517315]
    kernel_rfl : PySem.Challenge.rw_ph0034_01.Holds)
end Mine
end

-- Core
section
open PySem PySem.W PyProof.Rows
set_option maxRecDepth 100000
set_option linter.all false
namespace Mine

/-- from (s, mutable X) to (s', mutable X'): what was not mutable stays and is not mutable -/
def Go (X : List Addr) (s : Shared) (X' : List Addr) (s' : Shared) : Prop :=
  (s'.gens = s.gens ∧ s'.os = s.os) ∧ ∀ b o, b ∉ X → s.heap.get? b = some o → b ∉ X' ∧ s'.heap.get? b = some o
theorem Go.refl (X s) : Go X s X s := ⟨⟨rfl, rfl⟩, fun _ _ h e => ⟨h, e⟩⟩
theorem Go.trans {X Y Z s t u} (a : Go X s Y t) (b : Go Y t Z u) : Go X s Z u :=
  ⟨⟨b.1.1.trans a.1.1, b.1.2.trans a.1.2⟩, fun x o h e => let ⟨h1, e1⟩ := a.2 x o h e; b.2 x o h1 e1⟩
abbrev Kept (s s' : Shared) : Prop := Go [] s [] s'
theorem Kept.get {s s' : Shared} (k : Kept s s') {b o} (e : s.heap.get? b = some o) : s'.heap.get? b = some o := (k.2 b o (by simp) e).2
theorem Kept.go {s s' : Shared} (k : Kept s s') (X) : Go X s X s' := ⟨k.1, fun b o h e => ⟨h, k.get e⟩⟩

/-- the room that a call needs -/
structure Rm (A : Around) (k : Nat) : Prop where
  handled : A.handled = none
  depth : A.depth + k < recursionLimit
  units : A.units + 20 * k < cLine
theorem Rm.in1 {A k} (h : Rm A (k + 1)) : Rm A.in1 k := ⟨h.handled, by have := h.depth; simp only [Around.in1]; omega, by have := h.units; simp only [Around.in1]; omega⟩
theorem Rm.deeper {A k} (h : Rm A (k + 1)) (env : Env) : Rm (A.deeper env) k := ⟨h.handled, by have := h.depth; show A.depth + 1 + k < _; omega, by have := h.units; show A.units + 3 + _ < _; omega⟩
theorem Rm.le {A k j} (h : Rm A k) (e : j ≤ k) : Rm A j := ⟨h.handled, by have := h.depth; omega, by have := h.units; omega⟩

def upd (m : Str → Option Value) (x : Str) (v : Value) : Str → Option Value := fun y => if y = x then some v else m y
theorem upd_same {m x v} : upd m x v x = some v := if_pos rfl
theorem upd_ne {m x v y} (h : y ≠ x) : upd m x v y = m y := if_neg h
theorem lks {m x v y r} (n : y ≠ x) (h : m y = r) : upd m x v y = r := (upd_ne n).trans h
theorem ofString_inj {a b : String} (h : Str.ofString a = Str.ofString b) : a = b := by
  rw [Str.ofString_eq_toList, Str.ofString_eq_toList] at h
  have h1 : a.toList.map Char.toNat = b.toList.map Char.toNat := by simpa using h
  have : ∀ {x y : List Char}, x.map Char.toNat = y.map Char.toNat → x = y := by
    intro x
    induction x with
    | nil => intro y e; cases y <;> simp_all
    | cons c r ih =>
      intro y e
      cases y with
      | nil => simp at e
      | cons d t =>
        simp only [List.map_cons, List.cons.injEq] at e
        rw [ih e.2, Char.toNat_inj.mp e.1]
  exact String.toList_inj.mp (this h1)
theorem sne {a b : String} (h : a ≠ b) : Str.ofString a ≠ Str.ofString b := fun e => h (ofString_inj e)

/-- the ground under the calls -/
structure Gd (w : World) (mg mb : Str → Option Value) (B : Heap) : Prop where
  K : (hd.heap_1 w.params).In B
  g : B.Ns mainGlobals mg
  b : B.Ns builtinsNs mb
  nolimit : B.NoLimit
  builtins : ∀ x : Str, x ≠ "__name__" → mb x = bootBuiltins x
  bm : ∃ bm ob, mg "__builtins__" = some (.ref bm) ∧ bm ≠ builtinsNs ∧ B.get? bm = some ob ∧ ob.cls = .type "module" ∧ ob.dict = some builtinsNs ∧ ob.data = .plain
  c90 : CodeHd B 90 86
  c102 : CodeHd B 102 98
  c109 : CodeHd B 109 105

theorem Gd.keeps {w mg mb} {B B' : Heap} (G : Gd w mg mb B) (k : ∀ b o, B.get? b = some o → B'.get? b = some o) : Gd w mg mb B' := ⟨G.K.keeps k, G.g.keeps k, G.b.keeps k, G.nolimit.keeps k, G.builtins, let ⟨bm, ob, b1, b2, b3, r⟩ := G.bm; ⟨bm, ob, b1, b2, k _ _ b3, r⟩, G.c90.keeps k, G.c102.keeps k, G.c109.keeps k⟩
theorem Gd.kept {w mg mb} {s s' : Shared} (G : Gd w mg mb s.heap) (k : Kept s s') : Gd w mg mb s'.heap := G.keeps fun _ _ e => k.get e
def Liv (s : Shared) (X : List Addr) : Prop := ∀ x ∈ X, ∃ o, s.heap.get? x = some o
theorem Liv.kept {s s' : Shared} {X} (h : Liv s X) (k : Kept s s') : Liv s' X := fun x hx => let ⟨o, e⟩ := h x hx; ⟨o, k.get e⟩

/-- a frame: where its names lie, its cells -/
structure Fm where
  L : Addr
  cs : List (Str × Addr) := []
def Fm.adr (φ : Fm) : List Addr := φ.L :: φ.cs.map (·.2)

/-- a frame's state: its names m, the objects that it owns; B: what stays; X: what no frozen datum reaches -/
structure Fra (B : Heap) (s : Shared) (X : List Addr) (φ : Fm) (m : Str → Option Value) (own : List (Addr × Obj)) : Prop where
  keep : ∀ b o, B.get? b = some o → s.heap.get? b = some o
  fresh : ∀ x ∈ φ.adr ++ own.map (·.1), B.get? x = none
  ns : ∃ ml, s.heap.Ns φ.L ml ∧ ∀ x, φ.cs.lookup x = none → ml x = m x
  cell : ∀ x c, φ.cs.lookup x = some c → s.heap.IsCell c (m x)
  has : ∀ p ∈ own, s.heap.get? p.1 = some p.2
  nd : (φ.adr ++ own.map (·.1)).Nodup
  inX : ∀ x ∈ φ.adr ++ own.map (·.1), x ∈ X
  live : Liv s X

theorem ns_keeps {h h' : Heap} {L m} (n : h.Ns L m) (k : ∀ o, h.get? L = some o → h'.get? L = some o) : h'.Ns L m := by
  obtain ⟨o, es, ep, a, r⟩ := n
  exact ⟨o, es, ep, k o a, r⟩
theorem cell_keeps {h h' : Heap} {c v} (n : h.IsCell c v) (k : ∀ o, h.get? c = some o → h'.get? c = some o) : h'.IsCell c v := by
  obtain ⟨o, a, r⟩ := n
  exact ⟨o, k o a, r⟩
theorem lookup_mem {α β : Type} [BEq α] [LawfulBEq α] : ∀ {l : List (α × β)} {x : α} {c : β}, l.lookup x = some c → (x, c) ∈ l
  | (y, d) :: r, x, c, e => by
    rw [List.lookup_cons] at e
    by_cases q : x = y
    · subst q; simp at e; simp [e]
    · have : (x == y) = false := by simpa using q
      rw [this] at e; exact List.mem_cons_of_mem _ (lookup_mem e)
theorem Fm.mem {φ : Fm} {x c} (e : φ.cs.lookup x = some c) : c ∈ φ.adr := List.mem_cons_of_mem _ (List.mem_map_of_mem (lookup_mem e) (f := (·.2)))

theorem Fra.kept {B s X φ m own s'} (F : Fra B s X φ m own) (k : Kept s s') : Fra B s' X φ m own :=
  ⟨fun b o e => k.get (F.keep b o e), F.fresh, let ⟨ml, n, e⟩ := F.ns; ⟨ml, ns_keeps n fun _ e => k.get e, e⟩, fun x c e => cell_keeps (F.cell x c e) fun _ e => k.get e, fun p hp => k.get (F.has p hp), F.nd, F.inX, F.live.kept k⟩
theorem Fra.toKept {s₀ s : Shared} {X φ m own} (F : Fra s₀.heap s X φ m own) (g : s.gens = s₀.gens ∧ s.os = s₀.os) : Kept s₀ s := ⟨g, fun b o _ e => ⟨by simp, F.keep b o e⟩⟩
theorem Fra.at {B s X φ m own} (F : Fra B s X φ m own) {k : Nat} {a o} (hk : own[k]? = some (a, o)) : s.heap.get? a = some o := F.has (a, o) (List.mem_of_getElem? hk)
theorem Fra.ne {B s X φ m own} (F : Fra B s X φ m own) {x a} (hx : x ∈ φ.adr) (ha : a ∈ own.map (·.1)) : x ≠ a := (List.nodup_append.mp F.nd).2.2 x hx a ha
theorem Fra.nodA {B s X φ m own} (F : Fra B s X φ m own) : φ.adr.Nodup := (List.nodup_append.mp F.nd).1
theorem Fra.Lc {B s X φ m own} (F : Fra B s X φ m own) {x c} (e : φ.cs.lookup x = some c) : c ≠ φ.L := fun q => (List.nodup_cons.mp F.nodA).1 (q ▸ List.mem_map_of_mem (lookup_mem e) (f := (·.2)))
theorem snd_inj {α β : Type} : ∀ {l : List (α × β)}, (l.map (·.2)).Nodup → ∀ {x y c}, (x, c) ∈ l → (y, c) ∈ l → x = y
  | p :: r, nd, x, y, c, hx, hy => by
    have ⟨n1, n2⟩ := List.nodup_cons.mp nd
    rcases List.mem_cons.mp hx with h1 | h1 <;> rcases List.mem_cons.mp hy with h2 | h2
    · exact (Prod.mk.inj (h1.trans h2.symm)).1
    · subst h1; exact absurd (List.mem_map_of_mem h2 (f := (·.2))) n1
    · subst h2; exact absurd (List.mem_map_of_mem h1 (f := (·.2))) n1
    · exact snd_inj n2 h1 h2

/-- a step that turns only one address a of the frame's own or of what it owns: all else stands -/
theorem Fra.same {B s X φ m own s'} (F : Fra B s X φ m own) {a : Addr} (ha : a ∈ φ.adr ++ own.map (·.1)) (hs : Heap.SameBut a s.heap s'.heap) (he : ∃ o, s'.heap.get? a = some o) (e : s'.gens = s.gens ∧ s'.os = s.os) :
    Go X s X s' ∧ (∀ b o, B.get? b = some o → s'.heap.get? b = some o) ∧ Liv s' X := by
  have aX : a ∈ X := F.inX a ha
  refine ⟨⟨e, fun b o h e => ⟨h, (hs.2 b fun (q : b = a) => h (q ▸ aX)).trans e⟩⟩, fun b o e => (hs.2 b fun q => ?_).trans (F.keep b o e), fun x hx => ?_⟩
  · rw [q, F.fresh a ha] at e; cases e
  · by_cases q : x = a
    · exact q ▸ he
    · obtain ⟨o, b⟩ := F.live x hx; exact ⟨o, (hs.2 x q).trans b⟩

/-- a step that turns only the names -/
theorem Fra.setL {B s X φ m own s'} (F : Fra B s X φ m own) {x : Str} {v : Value} (hx : φ.cs.lookup x = none) {ml : Str → Option Value} (hml : ∀ y, φ.cs.lookup y = none → ml y = m y) (hn : s'.heap.Ns φ.L (fun y => if y = x then some v else ml y))
    (hs : Heap.SameBut φ.L s.heap s'.heap) (e : s'.gens = s.gens ∧ s'.os = s.os) : Fra B s' X φ (upd m x v) own ∧ Go X s X s' := by
  obtain ⟨g, hk, hl⟩ := F.same (a := φ.L) (by simp [Fm.adr]) hs (by obtain ⟨o, _, _, a, _⟩ := hn; exact ⟨o, a⟩) e
  refine ⟨⟨hk, F.fresh, ⟨_, hn, fun y hy => ?_⟩, fun y c hc => ?_, fun p hp => (hs.2 _ (Ne.symm (F.ne (by simp [Fm.adr]) (List.mem_map_of_mem hp)))).trans (F.has p hp), F.nd, F.inX, hl⟩, g⟩
  · by_cases q : y = x
    · simp [q, upd]
    · rw [upd_ne q]; simp [q, hml y hy]
  · have : y ≠ x := fun q => by rw [q, hx] at hc; cases hc
    rw [upd_ne this]
    exact cell_keeps (F.cell y c hc) fun o e => (hs.2 c (F.Lc hc)).trans e

/-- a step that turns only a cell -/
theorem Fra.setC {B s X φ m own s'} (F : Fra B s X φ m own) {x : Str} {c : Addr} {v : Value} (hx : φ.cs.lookup x = some c) (hn : s'.heap.IsCell c (some v))
    (hs : Heap.SameBut c s.heap s'.heap) (e : s'.gens = s.gens ∧ s'.os = s.os) : Fra B s' X φ (upd m x v) own ∧ Go X s X s' := by
  obtain ⟨g, hk, hl⟩ := F.same (a := c) (List.mem_append_left _ (Fm.mem hx)) hs (by obtain ⟨o, a, _⟩ := hn; exact ⟨o, a⟩) e
  obtain ⟨ml, n1, n2⟩ := F.ns
  refine ⟨⟨hk, F.fresh, ⟨ml, ns_keeps n1 fun o e => (hs.2 _ (Ne.symm (F.Lc hx))).trans e, fun y hy => ?_⟩, fun y d hd => ?_, fun p hp => (hs.2 _ (Ne.symm (F.ne (Fm.mem hx) (List.mem_map_of_mem hp)))).trans (F.has p hp), F.nd, F.inX, hl⟩, g⟩
  · rw [upd_ne (fun q => by rw [q, hx] at hy; cases hy)]; exact n2 y hy
  · by_cases q : y = x
    · subst q; rw [hx] at hd; cases hd; rw [upd_same]; exact hn
    · rw [upd_ne q]
      refine cell_keeps (F.cell y d hd) fun o e => (hs.2 d fun q' => ?_).trans e
      subst q'
      exact q (snd_inj (List.nodup_cons.mp F.nodA).2 (lookup_mem hd) (lookup_mem hx))

theorem own_set {own : List (Addr × Obj)} {k : Nat} {a : Addr} {o o' : Obj} (hk : own[k]? = some (a, o)) : (own.set k (a, o')).map (·.1) = own.map (·.1) := by
  apply List.ext_getElem?
  intro i
  simp only [List.getElem?_map, List.getElem?_set]
  by_cases q : k = i
  · subst q; rw [hk]; simp; exact (List.getElem?_eq_some_iff.mp hk).1
  · simp [q]

/-- a step that turns the k-th owned object -/
theorem Fra.setO {B s X φ m own s'} (F : Fra B s X φ m own) {k : Nat} {a : Addr} {o o' : Obj} (hk : own[k]? = some (a, o)) (hs : Heap.SameBut a s.heap s'.heap) (ho : s'.heap.get? a = some o') (e : s'.gens = s.gens ∧ s'.os = s.os) :
    Fra B s' X φ m (own.set k (a, o')) ∧ Go X s X s' := by
  have mem : (a, o) ∈ own := List.mem_of_getElem? hk
  have am : a ∈ own.map (·.1) := List.mem_map_of_mem mem (f := (·.1))
  obtain ⟨g, hkp, hl⟩ := F.same (a := a) (List.mem_append_right _ am) hs ⟨o', ho⟩ e
  have hm := own_set (o' := o') hk
  refine ⟨⟨hkp, hm ▸ F.fresh, ?_, fun y c hc => ?_, fun p hp => ?_, hm ▸ F.nd, hm ▸ F.inX, hl⟩, g⟩
  · obtain ⟨ml, n1, n2⟩ := F.ns
    exact ⟨ml, ns_keeps n1 fun o e => (hs.2 _ (F.ne (by simp [Fm.adr]) am)).trans e, n2⟩
  · exact cell_keeps (F.cell y c hc) fun o e => (hs.2 c (F.ne (Fm.mem hc) am)).trans e
  · obtain ⟨i, hi⟩ := List.mem_iff_getElem?.mp hp
    rw [List.getElem?_set] at hi
    by_cases q : k = i
    · subst q
      have hlt := (List.getElem?_eq_some_iff.mp hk).1
      simp [hlt] at hi
      subst hi; exact ho
    · simp only [q, if_false] at hi
      have pm : p ∈ own := List.mem_of_getElem? hi
      refine (hs.2 _ fun e1 => ?_).trans (F.has p pm)
      have nd := (List.nodup_append.mp F.nd).2.1
      have h1 : (own.map (·.1))[k]? = some a := by simp [hk]
      have h2 : (own.map (·.1))[i]? = some a := by simp [hi, e1]
      exact q ((List.getElem?_inj (by have := (List.getElem?_eq_some_iff.mp hk).1; simpa using this) nd).mp (h1.trans h2.symm))

theorem push_kept {s s' : Shared} {o : Obj} (hh : s'.heap = s.heap.push o) (e : s'.gens = s.gens ∧ s'.os = s.os) : Kept s s' :=
  ⟨e, fun b o h e => ⟨by simp, by rw [hh]; exact Heap.get?_push_of_some _ e⟩⟩

/-- a new object that the frame owns -/
theorem Fra.newO {B s X φ m own s'} (F : Fra B s X φ m own) {o : Obj} (hf : o.isFreed = false) (hh : s'.heap = s.heap.push o) (e : s'.gens = s.gens ∧ s'.os = s.os) :
    Fra B s' (s.heap.objs.size :: X) φ m (own ++ [(s.heap.objs.size, o)]) ∧ Go X s (s.heap.objs.size :: X) s' ∧ s.heap.objs.size ∉ X := by
  have lt : ∀ {b o}, s.heap.get? b = some o → b ≠ s.heap.objs.size := fun e => Nat.ne_of_lt (Heap.lt_size e)
  have g : Go X s (s.heap.objs.size :: X) s' := ⟨e, fun b o h e => ⟨by simp [h, lt e], by rw [hh]; exact Heap.get?_push_of_some _ e⟩⟩
  have k : Kept s s' := push_kept hh e
  have K := F.kept k
  have sp : ∀ x ∈ φ.adr ++ (own ++ [(s.heap.objs.size, o)]).map (·.1), x ∈ φ.adr ++ own.map (·.1) ∨ x = s.heap.objs.size := fun x hx => by
    simpa [or_assoc] using hx
  refine ⟨⟨K.keep, fun x hx => ?_, K.ns, K.cell, fun p hp => ?_, ?_, fun x hx => ?_, fun x hx => ?_⟩, g, fun q => by obtain ⟨o, a⟩ := F.live _ q; exact lt a rfl⟩
  · rcases sp x hx with h | h
    · exact F.fresh x h
    · subst h
      cases q : B.get? s.heap.objs.size with
      | none => rfl
      | some o => exact absurd rfl (lt (F.keep _ _ q))
  · rcases List.mem_append.mp hp with h | h
    · exact k.get (F.has p h)
    · simp at h; subst h; rw [hh]; exact Heap.get?_push_size _ hf
  · rw [List.map_append, ← List.append_assoc]
    refine List.nodup_append.mpr ⟨F.nd, by simp, fun x hx y hy => ?_⟩
    simp at hy; subst hy
    obtain ⟨o, a⟩ := F.live x (F.inX x hx); exact lt a
  · rcases sp x hx with h | h
    · exact List.mem_cons_of_mem _ (F.inX x h)
    · simp [h]
  · rcases List.mem_cons.mp hx with h | h
    · subst h; exact ⟨o, by rw [hh]; exact Heap.get?_push_size _ hf⟩
    · obtain ⟨o, a⟩ := F.live x h; exact ⟨o, k.get a⟩

/-- a new object, frozen at once -/
theorem Fra.newF {B s X φ m own s'} (F : Fra B s X φ m own) {o : Obj} (hf : o.isFreed = false) (hh : s'.heap = s.heap.push o) (e : s'.gens = s.gens ∧ s'.os = s.os) :
    Fra B s' X φ m own ∧ Kept s s' ∧ s'.heap.get? s.heap.objs.size = some o ∧ s.heap.objs.size ∉ X :=
  have k : Kept s s' := push_kept hh e
  ⟨F.kept k, k, by rw [hh]; exact Heap.get?_push_size _ hf, fun q => by obtain ⟨o, a⟩ := F.live _ q; exact Nat.lt_irrefl _ (Heap.lt_size a)⟩

/-- the frame gives up its last owned object -/
theorem Fra.freeze {B s X φ m own} {a : Addr} {o : Obj} (F : Fra B s (a :: X) φ m (own ++ [(a, o)])) : Fra B s X φ m own ∧ s.heap.get? a = some o ∧ Go (a :: X) s X s := by
  have g : Go (a :: X) s X s := ⟨⟨rfl, rfl⟩, fun b o h e => ⟨fun q => h (List.mem_cons_of_mem _ q), e⟩⟩
  have nd : (φ.adr ++ own.map (·.1)) ++ [a] |>.Nodup := by have := F.nd; simpa using this
  obtain ⟨n1, n2, n3⟩ := List.nodup_append.mp nd
  have sub : ∀ x ∈ φ.adr ++ own.map (·.1), x ∈ φ.adr ++ (own ++ [(a, o)]).map (·.1) := fun x hx => by
    rcases List.mem_append.mp hx with h | h
    · exact List.mem_append_left _ h
    · refine List.mem_append_right _ ?_; rw [List.map_append]; exact List.mem_append_left _ h
  refine ⟨⟨F.keep, fun x hx => F.fresh x (sub x hx), F.ns, F.cell, fun p hp => F.has p (List.mem_append_left _ hp), n1, fun x hx => ?_, fun x hx => F.live x (List.mem_cons_of_mem _ hx)⟩, F.has (a, o) (by simp), g⟩
  rcases List.mem_cons.mp (F.inX x (sub x hx)) with h | h
  · exact absurd h (n3 x hx a (by simp))
  · exact h

theorem Fra.ext {B s X φ m own} {s₁ : Shared} {it : Addr} (F : Fra B s X φ m own) (hit : it ∉ X) (hb : B.get? it = none) (hx : Heap.ExtBut it s.heap s₁.heap) : Fra B s₁ X φ m own :=
  have ne : ∀ x ∈ X, x ≠ it := fun x hx q => hit (q ▸ hx)
  ⟨fun b o e => hx b o (fun q => by rw [q, hb] at e; cases e) (F.keep b o e), F.fresh, let ⟨ml, n1, n2⟩ := F.ns; ⟨ml, ns_keeps n1 fun o e => hx _ o (ne _ (F.inX _ (by simp [Fm.adr]))) e, n2⟩,
    fun y c hc => cell_keeps (F.cell y c hc) fun o e => hx _ o (ne _ (F.inX _ (List.mem_append_left _ (Fm.mem hc)))) e,
    fun q hq => hx _ _ (ne _ (F.inX _ (List.mem_append_right _ (List.mem_map_of_mem hq)))) (F.has q hq), F.nd, F.inX, fun x h => let ⟨o, e⟩ := F.live x h; ⟨o, hx x o (ne x h) e⟩⟩

/-! relations between values and plain data -/
abbrev Rel (α : Type) := Heap → List Addr → Value → α → Prop
def Mono {α : Type} (R : Rel α) : Prop := ∀ {s X s' X'}, Go X s X' s' → ∀ {v a}, R s.heap X v a → R s'.heap X' v a
def RInt : Rel Int := fun _ _ v i => ∃ t, v = .int i t
def RBool : Rel Bool := fun _ _ v b => v = .bool b
def RStr : Rel Str := fun _ _ v x => ∃ t, v = .str x t
theorem mInt : Mono RInt := fun _ _ _ h => h
theorem mBool : Mono RBool := fun _ _ _ h => h
theorem mStr : Mono RStr := fun _ _ _ h => h
inductive All2 {α : Type} (P : Value → α → Prop) : List Value → List α → Prop
  | nil : All2 P [] []
  | cons {v a vs as} : P v a → All2 P vs as → All2 P (v :: vs) (a :: as)
theorem All2.imp {α} {P Q : Value → α → Prop} (h : ∀ v a, P v a → Q v a) : ∀ {vs as}, All2 P vs as → All2 Q vs as
  | _, _, .nil => .nil
  | _, _, .cons a r => .cons (h _ _ a) (r.imp h)
theorem All2.len {α} {P : Value → α → Prop} : ∀ {vs as}, All2 P vs as → vs.length = as.length
  | _, _, .nil => rfl
  | _, _, .cons _ r => congrArg (· + 1) r.len
theorem All2.snoc {α} {P : Value → α → Prop} {v a} (h : P v a) : ∀ {vs as}, All2 P vs as → All2 P (vs ++ [v]) (as ++ [a])
  | _, _, .nil => .cons h .nil
  | _, _, .cons x r => .cons x (r.snoc h)
theorem All2.get {α} {P : Value → α → Prop} : ∀ {vs as}, All2 P vs as → ∀ {i : Nat} {v}, vs[i]? = some v → ∃ a, as[i]? = some a ∧ P v a
  | _, _, .cons x r, 0, _, e => ⟨_, rfl, by simp at e; exact e ▸ x⟩
  | _, _, .cons _ r, i + 1, _, e => by simp only [List.getElem?_cons_succ] at e ⊢; exact r.get e
theorem All2.get' {α} {P : Value → α → Prop} : ∀ {vs as}, All2 P vs as → ∀ {i : Nat} {a}, as[i]? = some a → ∃ v, vs[i]? = some v ∧ P v a
  | _, _, .cons x r, 0, _, e => ⟨_, rfl, by simp at e; exact e ▸ x⟩
  | _, _, .cons _ r, i + 1, _, e => by simp only [List.getElem?_cons_succ] at e ⊢; exact r.get' e
theorem All2.append {α} {P : Value → α → Prop} : ∀ {vs as ws bs}, All2 P vs as → All2 P ws bs → All2 P (vs ++ ws) (as ++ bs)
  | _, _, _, _, .nil, h => h
  | _, _, _, _, .cons x r, h => .cons x (r.append h)
def lst (vs : List Value) (n : Nat) : Obj := { cls := .type "list", data := .seq vs.toArray n }
def tup (vs : List Value) (n : Nat) : Obj := { cls := .type "tuple", data := .seq vs.toArray n }
inductive RList {α : Type} (R : Rel α) (h : Heap) (X : List Addr) (v : Value) (l : List α) : Prop
  | mk (a : Addr) (vs : List Value) (n : Nat) (e : v = .ref a) (aX : a ∉ X) (ha : h.get? a = some (lst vs n)) (hr : All2 (R h X) vs l)
inductive RTup {α : Type} (R : Rel α) (h : Heap) (X : List Addr) (v : Value) (l : List α) : Prop
  | mk (a : Addr) (vs : List Value) (n : Nat) (e : v = .ref a) (aX : a ∉ X) (ha : h.get? a = some (tup vs n)) (hr : All2 (R h X) vs l)
theorem mList {α} {R : Rel α} (mr : Mono R) : Mono (RList R) := fun g _ _ q => by
  obtain ⟨a, vs, n, e, h, o, r⟩ := q
  exact ⟨a, vs, n, e, (g.2 a _ h o).1, (g.2 a _ h o).2, r.imp fun _ _ x => mr g x⟩
theorem mTup {α} {R : Rel α} (mr : Mono R) : Mono (RTup R) := fun g _ _ q => by
  obtain ⟨a, vs, n, e, h, o, r⟩ := q
  exact ⟨a, vs, n, e, (g.2 a _ h o).1, (g.2 a _ h o).2, r.imp fun _ _ x => mr g x⟩

/-! the text's functions -/
noncomputable def objAt (n : Nat) : Obj := ((hd.heap_1 (⟨fun _ => 0, fun _ => 0, id, fun _ => 0, fun _ _ => 0, fun _ => false, fun _ => 0, .refcount, .text, fun _ => 0, fun _ => none, fun _ => false, fun _ _ _ => true, fun _ _ _ => true, true, fun _ => false, fun _ => none, fun _ => none, fun _ _ _ => 0, fun _ _ => none, fun _ => none, fun _ => (0, false, Str.ofString ""), fun _ => none, fun d => d, fun _ => false⟩ : Params)).lookup n).getD default
noncomputable def fd (n : Nat) : FuncData := match (objAt n).data with | .func f => f | _ => default
noncomputable def bd (n : Nat) : List Stmt := match (fd n).body with | .stmts b => b | _ => []
noncomputable def en (n : Nat) (L : Addr) : Env := callEnv (fd n) L n
noncomputable def enC (n : Nat) (L : Addr) : Env := callEnvC (fd n) L n
end Mine
end

-- Rules
section
open PySem PySem.W PyProof.Rows
set_option maxRecDepth 100000
set_option linter.all false
namespace Mine
abbrev NoE : Value → Shared → Prop := fun _ _ => False
abbrev W {α : Type} (p : Program) (w : World) (A : Around) (t : Sem α) (Q : α → Shared → Prop) (s : Shared) : Prop := wpAny (model p w) A t Q NoE s
theorem mc_arm (o : Expr) (name : Str) (apos : Pos) (args : List Expr) (pos : Pos) (env : Env) : eval (.Call (.Attribute o name apos) args [] pos) env = (do
    let ov ← attributeBase o name env (eval o env)
    standAt apos.atName
    methodCall o name apos pos env ov (args.length + 0) (backTo pos (starEach args env)) []) := rfl
theorem mc_few (o : Expr) (name : Str) (apos pos : Pos) (env : Env) (ov : Value) (n : Nat) (trees : List (Bool × Sem Value)) (hf : methodCallForm n trees [] = true) (hp : (apos.endLine == pos.line) = true) : methodCall o name apos pos env ov n trees [] = (do
    let (f, first) ← holding [ov] (getMethod ov name (do return (← importBound o env).getD true))
    callWith pos f first trees []) := by
  unfold methodCall
  rw [hf]
  have e1 : methodCallPos true o env apos pos = pure pos := by unfold methodCallPos; rw [hp]; rfl
  have e2 : calleeOf true o env ov name = getMethod ov name (do return (← importBound o env).getD true) := rfl
  show (do let (f, first) ← holding [ov] (calleeOf true o env ov name); let callPos ← methodCallPos true o env apos pos; callWith callPos f first trees []) = _
  rw [e1, e2]
  rfl
def notStar : Expr → Bool
  | .Starred _ _ => false
  | _ => true
theorem se_cons (e : Expr) (r : List Expr) (env : Env) (h : notStar e = true) : starEach (e :: r) env = (false, eval e env) :: starEach r env := by
  cases e <;> first | rfl | cases h
abbrev SG (s s' : Shared) : Prop := s'.gens = s.gens ∧ s'.os = s.os
section
variable {p : Program} {w : World} {A : Around} {s : Shared} {env : Env} {B : Heap} {X : List Addr} {φ : Fm} {m : Str → Option Value} {own : List (Addr × Obj)}

theorem wp_gen {α : Type} {t : Sem α} {Q : α → Shared → Prop} (h : ∀ Q0 : α → Shared → Prop, (∀ a s', Q a s' → Q0 a s') → W p w A t Q0 s) : W p w A t Q s := h Q fun _ _ z => z

/-- a method call -/
theorem MC {o : Expr} {name : Str} {apos pos : Pos} {args : List Expr} {Q : Value → Shared → Prop}
    (h : W p w A (eval o env) (fun ov s₁ => W p w A (getMethod ov name (do return (← importBound o env).getD true)) (fun fx s₂ => W p w A (callWith pos fx.1 fx.2 (backTo pos (starEach args env)) []) Q s₂) s₁) s)
    (hb : attributeBase o name env (eval o env) = eval o env := by rfl) (hf : methodCallForm (args.length + 0) (backTo pos (starEach args env)) [] = true := by rfl) (hp : (apos.endLine == pos.line) = true := by rfl) :
    W p w A (eval (.Call (.Attribute o name apos) args [] pos) env) Q s := by
  unfold W
  rw [mc_arm, hb]
  refine wpAny_bind (wpAny_mono h (fun ov s₁ h₁ => wpAny_bind (wpAny_standAt ?_)) fun _ _ x => x)
  rw [mc_few _ _ _ _ _ _ _ _ hf hp]
  exact wpAny_bind (wpAny_holding (wpAny_mono h₁ (fun fx s₂ h₂ => h₂) fun _ _ x => x))
theorem AC {e : Expr} {rest : List Expr} {pos : Pos} {Q : List Value → Shared → Prop} (h : W p w A (eval e env) (fun v s₁ => W p w A (spliced (backTo pos (starEach rest env))) (fun vs s₂ => Q (v :: vs) s₂) s₁) s)
    (hs : notStar e = true := by rfl) : W p w A (spliced (backTo pos (starEach (e :: rest) env))) Q s := args_cons h (se_cons _ _ _ hs)
theorem CM1 {pos : Pos} {id : String} {first : List Value} {e : Expr} {rest : List Expr} {Q : Value → Shared → Prop} (h : W p w A (spliced (backTo pos (starEach (e :: rest) env))) (fun vs s₁ => W p w A (call (.builtin id) (first ++ vs)) Q s₁) s)
    (hs : notStar e = true := by rfl) (hplain : (backTo pos (starEach rest env)).any (·.1) = false := by rfl) : W p w A (callWith pos (.builtin id) first (backTo pos (starEach (e :: rest) env)) []) Q s := callWith_method1 h (se_cons _ _ _ hs) hplain
theorem CDA {h' : Heap} {pos : Pos} {f : Addr} {o : Obj} {fd : FuncData} {e : Expr} {rest : List Expr} {Q : Value → Shared → Prop} (ho : h'.get? f = some o) (hdat : o.data = .func fd)
    (h : W p w A (spliced (backTo pos (starEach (e :: rest) env))) (fun vs s₁ => s₁.heap.get? f = some o ∧ W p w A (call (.ref f) vs) Q s₁) s) (hs : notStar e = true := by rfl) :
    W p w A (callWith pos (.ref f) [] (backTo pos (starEach (e :: rest) env)) []) Q s := callWith_def_at ho hdat h (se_cons _ _ _ hs)
theorem r_loc {x : Str} {pos : Pos} {v : Value} {Q : Value → Shared → Prop} (F : Fra B s X φ m own) (hv : m x = some v) (h : Q v s)
    (hk : env.scope.kind = .function := by rfl) (hl : env.kindOf x = some .local := by rfl) (hc : φ.cs.lookup x = none := by rfl) (hL : env.locals = φ.L := by rfl) (hd : (x == ("__debug__" : Str)) = false := by rfl) :
    W p w A (eval (.Name x pos) env) Q s := let ⟨_, n1, n2⟩ := F.ns; wpAny_Name (wpAny_loadName_local hk hl (hL ▸ n1) ((n2 x hc).trans hv) h) hd
theorem r_cell {x : Str} {pos : Pos} {v : Value} {c : Addr} {Q : Value → Shared → Prop} (F : Fra B s X φ m own) (hv : m x = some v) (h : Q v s)
    (hk : env.scope.kind = .function := by rfl) (hl : env.kindOf x = some .cell := by rfl) (hc : φ.cs.lookup x = some c := by rfl) (he : env.cells.lookup x = some c := by rfl) (hd : (x == ("__debug__" : Str)) = false := by rfl) :
    W p w A (eval (.Name x pos) env) Q s := wpAny_Name (wpAny_loadName_cell hk hl he (hv ▸ F.cell x c hc) h) hd
theorem r_storeC {x : Str} {v : Value} {c : Addr} {Q : Unit → Shared → Prop} (F : Fra B s X φ m own)
    (h : ∀ s', Go X s X s' → Fra B s' X φ (upd m x v) own → Q () s')
    (hk : env.scope.kind = .function := by rfl) (hl : env.kindOf x = some .cell := by rfl) (hc : φ.cs.lookup x = some c := by rfl) (he : env.cells.lookup x = some c := by rfl) :
    W p w A (storeName env x v) Q s :=
  wpAny_storeName_cell hk hl he (F.cell x c hc) fun h' hn hs => by
    obtain ⟨F', g⟩ := F.setC (s' := { s with heap := h' }) hc hn hs ⟨rfl, rfl⟩
    exact h _ g F'
theorem r_store {x : Str} {v : Value} {Q : Unit → Shared → Prop} (F : Fra B s X φ m own)
    (h : ∀ s', Go X s X s' → Fra B s' X φ (upd m x v) own → Q () s')
    (hl : env.kindOf x = some .local := by rfl) (hc : φ.cs.lookup x = none := by rfl) (hL : env.locals = φ.L := by rfl) (hp : (env.scope.kind == .class || (env.scope.kind == .module && env.locals != env.globals)) = false := by rfl) :
    W p w A (storeName env x v) Q s := by
  obtain ⟨ml, n1, n2⟩ := F.ns
  refine wpAny_storeName_local hl (hL ▸ n1) (fun h' hn hs => ?_) hp
  rw [hL] at hn hs
  obtain ⟨F', g⟩ := F.setL (s' := { s with heap := h', toks := s.toks + 1 }) hc n2 hn hs ⟨rfl, rfl⟩
  exact h _ g F'
theorem r_glob {x : Str} {pos : Pos} {v : Value} {mg mb : Str → Option Value} {Q : Value → Shared → Prop} (G : Gd w mg mb B) (F : Fra B s X φ m own) (hv : nsIn (hd.heap_1 w.params) mainGlobals x = some (some v)) (h : Q v s)
    (hk : env.scope.kind = .function := by rfl) (hl : env.kindOf x = some .globalImplicit := by rfl) (hL : env.globals = mainGlobals := by rfl) (hd : (x == ("__debug__" : Str)) = false := by rfl) :
    W p w A (eval (.Name x pos) env) Q s := Calls.Name_function_global hk hl (Calls.loadGlobal_global (hL ▸ G.g.keeps F.keep) (mg_of G.K G.g hv) h) hd
theorem r_blt {x : Str} {pos : Pos} {v : Value} {mg mb : Str → Option Value} {Q : Value → Shared → Prop} (G : Gd w mg mb B) (F : Fra B s X φ m own) (hn : nsIn (hd.heap_1 w.params) mainGlobals x = some none) (hv : bootBuiltins x = some v) (h : Q v s) (hx : x ≠ "__name__" := by decide)
    (hk : env.scope.kind = .function := by rfl) (hl : env.kindOf x = some .globalImplicit := by rfl) (hL : env.globals = mainGlobals := by rfl) (hB : env.builtins = builtinsNs := by rfl) (hd : (x == ("__debug__" : Str)) = false := by rfl) :
    W p w A (eval (.Name x pos) env) Q s := Calls.Name_function_global hk hl (Calls.loadGlobal_builtin (hL ▸ G.g.keeps F.keep) (mg_none_of G.K G.g hn) (hB ▸ G.b.keeps F.keep) ((G.builtins x hx).trans hv) h) hd

/-- a new list that the frame owns -/
theorem r_newListO {vs : List Value} {Q : Value → Shared → Prop} (F : Fra B s X φ m own)
    (h : ∀ s' a, a ∉ X → Go X s (a :: X) s' → Fra B s' (a :: X) φ m (own ++ [(a, lst vs 0)]) → Q (.ref a) s') (hsz : vs.length ≤ sizeLine := by size_fits) : W p w A (newList vs) Q s :=
  wpAny_newList (by
    obtain ⟨F', g, n⟩ := F.newO (s' := { s with heap := s.heap.push (lst vs 0) }) (o := lst vs 0) rfl rfl ⟨rfl, rfl⟩
    exact h _ _ n g F') hsz
/-- a new list, frozen -/
theorem r_newListF {vs : List Value} {Q : Value → Shared → Prop} (F : Fra B s X φ m own)
    (h : ∀ s' a, Kept s s' → Fra B s' X φ m own → a ∉ X → s'.heap.get? a = some (lst vs 0) → Q (.ref a) s') (hsz : vs.length ≤ sizeLine := by size_fits) : W p w A (newList vs) Q s :=
  wpAny_newList (by
    obtain ⟨F', k, e, n⟩ := F.newF (s' := { s with heap := s.heap.push (lst vs 0) }) (o := lst vs 0) rfl rfl ⟨rfl, rfl⟩
    exact h _ _ k F' n e) hsz
theorem r_newTupF {vs : List Value} {Q : Value → Shared → Prop} (F : Fra B s X φ m own)
    (h : ∀ s' a, Kept s s' → Fra B s' X φ m own → a ∉ X → s'.heap.get? a = some (tup vs 0) → Q (.ref a) s') (hsz : vs.length ≤ sizeLine := by size_fits) : W p w A (newTuple vs) Q s :=
  wpAny_newObj_type (by
    obtain ⟨F', k, e, n⟩ := F.newF (s' := { s with heap := s.heap.push (tup vs 0) }) (o := tup vs 0) rfl rfl ⟨rfl, rfl⟩
    exact h _ _ k F' n e) (by show vs.toArray.size ≤ sizeLine; rw [List.size_toArray]; exact hsz)

/-- append to the k-th owned list -/
theorem r_append {a : Addr} {vs : List Value} {n : Nat} {x : Value} {Q : Value → Shared → Prop} (F : Fra B s X φ m own) (k : Nat) (hk : own[k]? = some (a, lst vs n))
    (h : ∀ s', Go X s X s' → Fra B s' X φ m (own.set k (a, lst (vs ++ [x]) (n + 1))) → Q .none s') (hsz : vs.length ≤ sizeLine := by size_fits) : W p w A (call (.builtin "list.append") [.ref a, x]) Q s :=
  append_at (F.at hk) (fun h' hs ho => by
    obtain ⟨F', g⟩ := F.setO (s' := { s with heap := h' }) (o' := lst (vs ++ [x]) (n + 1)) hk hs (by rw [ho]; simp [lst]) ⟨rfl, rfl⟩
    exact h _ g F') (by simpa using hsz)
theorem r_method_append {a : Addr} {vs : List Value} {n : Nat} {pl : Sem Bool} {Q : Value × List Value → Shared → Prop} (ho : s.heap.get? a = some (lst vs n)) (h : Q (.builtin "list.append", [.ref a]) s) :
    W p w A (getMethod (.ref a) "append" pl) Q s := PySem.Calls.getMethod_list_append ho rfl rfl h

def Kp (Y : List Addr) (s s' : Shared) : Prop := ∀ b o, b ∉ Y → s.heap.get? b = some o → s'.heap.get? b = some o
theorem Go.kp {Y s Y' s'} (g : Go Y s Y' s') : Kp Y s s' := fun b o h e => (g.2 b o h e).2

/-- an iterator of n items at it -/
structure Src (p : Program) (w : World) (A : Around) (s₂ : Shared) (it : Addr) (X : List Addr) (n : Nat) (IO : Nat → Obj → Prop) (V : Nat → Value → Prop) : Prop where
  nxt : ∀ i s₁ o, i < n → Kp (it :: X) s₂ s₁ → s₁.heap.get? it = some o → IO i o → ∀ Q : Option Value → Shared → Prop, (∀ v s₂ o', V i v → Heap.SameBut it s₁.heap s₂.heap → s₂.heap.get? it = some o' → IO (i + 1) o' → SG s₁ s₂ → Q (some v) s₂) → W p w A (pyNext (.ref it)) Q s₁
  fin : ∀ s₁ o, Kp (it :: X) s₂ s₁ → s₁.heap.get? it = some o → IO n o → ∀ Q : Option Value → Shared → Prop, (∀ s₂, Heap.ExtBut it s₁.heap s₂.heap → SG s₁ s₂ → Q none s₂) → W p w A (pyNext (.ref it)) Q s₁
  again : ∀ s₁ o, s₁.heap.get? it = some o → IO 0 o → ∀ Q : Value → Shared → Prop, Q (.ref it) s₁ → W p w A (pyIter (.ref it)) Q s₁
  go : ∀ i s₁ o target v, s₁.heap.get? it = some o → IO i o → ∀ Q : Unit → Shared → Prop, Q () s₁ → W p w A (letOwnedTupleGo target (.ref it) v) Q s₁

/-- loops over an iterator that the frame owns, its only turned object -/
theorem loop_gen {target : Expr} {body : List Stmt} {it : Addr} {R : Result → Shared → Prop} (n : Nat) (IO : Nat → Obj → Prop) (V : Nat → Value → Prop)
    {o₀ : Obj} (F : Fra B s (it :: X) φ m (own ++ [(it, o₀)])) (hio₀ : IO 0 o₀) (hit : it ∉ X)
    (S : Src p w A s it X n IO V)
    (P : Nat → Shared → (Str → Option Value) → List (Addr × Obj) → Prop) (h0 : P 0 s m own)
    (turn : ∀ i v s₀ s₁ m₁ own₁ o, i < n → V i v → Go (it :: X) s (it :: X) s₀ → P i s₀ m₁ own₁ → Go (it :: X) s₀ (it :: X) s₁ → Fra B s₁ (it :: X) φ m₁ (own₁ ++ [(it, o)]) →
      W p w A (assign target env v) (fun _ s₂ => W p w A (execs body env) (fun f s₃ => match f with
        | .next | .cont => ∃ m₂ own₂, Fra B s₃ (it :: X) φ m₂ (own₂ ++ [(it, o)]) ∧ Go (it :: X) s₁ (it :: X) s₃ ∧ P (i + 1) s₃ m₂ own₂
        | .brk => R (.ok .next) s₃
        | .ret v => R (.ok (.ret v)) s₃) s₂) s₁)
    (done : ∀ s₀ s₁ m₁ own₁, Go (it :: X) s (it :: X) s₀ → P n s₀ m₁ own₁ → Go (it :: X) s₀ X s₁ → Fra B s₁ X φ m₁ own₁ → R (.ok .next) s₁) : codeAny (model p w) A (.forLoop target (.ref it) body [] env) R s := by
  refine codeAny_forLoop_any (fun k s₀ => ∃ i m₁ own₁ o, i ≤ n ∧ k = n - i ∧ Go (it :: X) s (it :: X) s₀ ∧ P i s₀ m₁ own₁ ∧ Fra B s₀ (it :: X) φ m₁ (own₁ ++ [(it, o)]) ∧ IO i o) (fun k s₀ hI => ?_) n ⟨0, m, own, o₀, Nat.zero_le _, rfl, Go.refl _ _, h0, F, hio₀⟩
  obtain ⟨i, m₁, own₁, o, hi, hk, g0, hP, F0, hO⟩ := hI
  have hio : s₀.heap.get? it = some o := F0.has (it, o) (by simp)
  rcases Nat.lt_or_eq_of_le hi with hlt | heq
  · refine wpAny_mono (S.nxt i s₀ o hlt g0.kp hio hO (fun r s₁ => match r with
      | none => False
      | some v => ∃ o', IO (i + 1) o' ∧ s₁.heap.get? it = some o' ∧ W p w A (assign target env v) (fun _ s₂ => W p w A (execs body env) (fun f s₃ => match f with
        | .next | .cont => ∃ m₂ own₂, Fra B s₃ (it :: X) φ m₂ (own₂ ++ [(it, o')]) ∧ Go (it :: X) s₁ (it :: X) s₃ ∧ Go (it :: X) s (it :: X) s₁ ∧ P (i + 1) s₃ m₂ own₂
        | .brk => R (.ok .next) s₃
        | .ret v => R (.ok (.ret v)) s₃) s₂) s₁) fun v s₁ o' hv hs ho hO' hsg => ?_) (fun r s₁ h₁ => ?_) (fun _ _ h => h.elim)
    · obtain ⟨F1, g1⟩ := F0.setO (k := own₁.length) (o := o) (o' := o') (by simp) hs ho hsg
      rw [List.set_append_right _ _ (Nat.le_refl _), Nat.sub_self] at F1
      refine ⟨o', hO', ho, wpAny_mono (turn i v s₀ s₁ m₁ own₁ o' hlt hv g0 hP g1 F1) (fun _ s₂ h₂ => wpAny_mono h₂ (fun f s₃ h₃ => ?_) fun _ _ h => h) fun _ _ h => h⟩
      have g := g0.trans g1
      cases f with
      | next => obtain ⟨a, b, c, d, e⟩ := h₃; exact ⟨a, b, c, d, g, e⟩
      | cont => obtain ⟨a, b, c, d, e⟩ := h₃; exact ⟨a, b, c, d, g, e⟩
      | brk => exact h₃
      | ret v => exact h₃
    · cases r with
      | none => exact h₁.elim
      | some v =>
        obtain ⟨o', hO', hg', h₁⟩ := h₁
        refine wpAny_mono (S.go (i + 1) s₁ o' target v hg' hO' (fun _ s' => s' = s₁) rfl) (fun _ s₁' e₁ => ?_) fun _ _ h => h.elim
        subst e₁
        refine wpAny_mono h₁ (fun _ s₂ h₂ => wpAny_mono h₂ (fun f s₃ h₃ => ?_) fun _ _ h => h.elim) fun _ _ h => h.elim
        cases f with
        | next => obtain ⟨a, b, c, d, g, e⟩ := h₃; exact ⟨n - (i + 1), by omega, i + 1, a, b, o', hlt, rfl, g.trans d, e, c, hO'⟩
        | cont => obtain ⟨a, b, c, d, g, e⟩ := h₃; exact ⟨n - (i + 1), by omega, i + 1, a, b, o', hlt, rfl, g.trans d, e, c, hO'⟩
        | brk => exact h₃
        | ret v => exact h₃
  · subst heq
    refine wpAny_mono (S.fin s₀ o g0.kp hio hO (fun r s₁ => match r with | none => R (.ok .next) s₁ | some _ => False) fun s₁ hx hsg => ?_) (fun r s₁ h₁ => ?_) (fun _ _ h => h.elim)
    · have g1 : Go (it :: X) s₀ X s₁ := ⟨hsg, fun b o hb e => ⟨fun q => hb (List.mem_cons_of_mem _ q), hx b o (fun q => hb (by simp [q])) e⟩⟩
      obtain ⟨F2, _, _⟩ := F0.freeze
      exact done s₀ s₁ m₁ own₁ g0 hP g1 (F2.ext hit (F0.fresh it (by simp)) hx)
    · cases r with
      | none => exact wpAny_execs_nil h₁
      | some v => exact h₁.elim

/-- the same, what a turn must reach kept abstract; the body neither breaks nor returns -/
theorem loop_abs {target : Expr} {body : List Stmt} {it : Addr} {R : Result → Shared → Prop} (n : Nat) (IO : Nat → Obj → Prop) (V : Nat → Value → Prop)
    {o₀ : Obj} (F : Fra B s (it :: X) φ m (own ++ [(it, o₀)])) (hio₀ : IO 0 o₀) (hit : it ∉ X)
    (S : Src p w A s it X n IO V)
    (P : Nat → Shared → (Str → Option Value) → List (Addr × Obj) → Prop) (h0 : P 0 s m own)
    (turn : ∀ i v s₀ s₁ m₁ own₁ o (Q1 : Flow → Shared → Prop), i < n → V i v → Go (it :: X) s (it :: X) s₀ → P i s₀ m₁ own₁ → Go (it :: X) s₀ (it :: X) s₁ → Fra B s₁ (it :: X) φ m₁ (own₁ ++ [(it, o)]) →
      (∀ s₃ m₂ own₂, Fra B s₃ (it :: X) φ m₂ (own₂ ++ [(it, o)]) → Go (it :: X) s₁ (it :: X) s₃ → P (i + 1) s₃ m₂ own₂ → Q1 .next s₃ ∧ Q1 .cont s₃) →
      W p w A (assign target env v) (fun _ s₂ => W p w A (execs body env) Q1 s₂) s₁)
    (done : ∀ s₀ s₁ m₁ own₁, Go (it :: X) s (it :: X) s₀ → P n s₀ m₁ own₁ → Go (it :: X) s₀ X s₁ → Fra B s₁ X φ m₁ own₁ → R (.ok .next) s₁) : codeAny (model p w) A (.forLoop target (.ref it) body [] env) R s :=
  loop_gen n IO V F hio₀ hit S P h0 (fun i v s₀ s₁ m₁ own₁ o hi hv g0 hP g1 F1 => turn i v s₀ s₁ m₁ own₁ o _ hi hv g0 hP g1 F1 fun s₃ m₂ own₂ F3 g3 hP3 => ⟨⟨m₂, own₂, F3, g3, hP3⟩, ⟨m₂, own₂, F3, g3, hP3⟩⟩) done

abbrev ForR (p : Program) (w : World) (A : Around) (env : Env) (Q : Flow → Shared → Prop) : Result → Shared → Prop := fun r s' => match r with | .ok f => Q f s' | .error e => cameBackBy (model p w) A env NoE e s'

theorem isList_of {h : Heap} {a vs n} (e : h.get? a = some (lst vs n)) : h.IsList a vs.toArray := ⟨_, e, rfl, n, rfl⟩


theorem it_list {a : Addr} {vs : List Value} {n : Nat} {K : Value → Shared → Prop} (hA : A.handled = none) (F : Fra B s X φ m own) (ha : s.heap.get? a = some (lst vs n)) (haX : a ∉ X)
    (h : ∀ s₂ it o IO, it ∉ X → Go X s (it :: X) s₂ → Fra B s₂ (it :: X) φ m (own ++ [(it, o)]) → IO 0 o → Src p w A s₂ it X vs.length IO (fun i v => vs[i]? = some v) → K (.ref it) s₂) : W p w A (pyIter (.ref a)) K s := by
  refine wpAny_pyIter_list (isList_of ha) ?_
  obtain ⟨F', g, nX⟩ := F.newO (s' := { s with heap := s.heap.push { cls := .type "list_iterator", data := .fields #[.ref a, .int 0 0] } }) (o := { cls := .type "list_iterator", data := .fields #[.ref a, .int 0 0] }) rfl rfl ⟨rfl, rfl⟩
  have hl : ∀ s₁, Kp (s.heap.objs.size :: X) { s with heap := s.heap.push { cls := .type "list_iterator", data := .fields #[.ref a, .int 0 0] } } s₁ → s₁.heap.IsList a vs.toArray :=
    fun s₁ h => let ⟨q1, q2⟩ := g.2 a _ haX ha; isList_of (h a _ q1 q2)
  refine h _ _ _ (fun i o => o.cls = .type "list_iterator" ∧ o.data = .fields #[.ref a, .int i 0]) nX g F' ⟨rfl, rfl⟩ ⟨fun i s₁ o hi hg ho hO Q' hQ => ?_, fun s₁ o hg ho hO Q' hQ => ?_, fun s₁ o ho hO Q' hQ => ?_, fun i s₁ o target v ho hO Q' hQ => ?_⟩
  · obtain ⟨v, hv⟩ : ∃ v, vs[i]? = some v := ⟨vs[i], List.getElem?_eq_getElem hi⟩
    refine wpAny_pyNext_list_item ⟨o, ho, hO⟩ (hl s₁ hg) (by simpa using hv) fun h' ⟨o', a1, a2, a3⟩ hs => hQ v { s₁ with heap := h' } o' hv hs a1 ⟨a2, a3⟩ ⟨rfl, rfl⟩
  · exact wpAny_pyNext_list_end hA ⟨o, ho, hO⟩ (hl s₁ hg) (by simp) fun h' hx => hQ { s₁ with heap := h' } hx ⟨rfl, rfl⟩
  · exact wpAny_pyIter_listiter (i := 0) ⟨o, ho, hO⟩ hQ
  · exact letGo_listiter ⟨o, ho, hO⟩ hQ

theorem isTuple_of {h : Heap} {a vs n} (e : h.get? a = some (tup vs n)) : h.IsTuple a vs.toArray := ⟨_, e, rfl, n, rfl⟩
theorem it_tup {a : Addr} {vs : List Value} {n : Nat} {K : Value → Shared → Prop} (hA : A.handled = none) (F : Fra B s X φ m own) (ha : s.heap.get? a = some (tup vs n)) (haX : a ∉ X)
    (h : ∀ s₂ it o IO, it ∉ X → Go X s (it :: X) s₂ → Fra B s₂ (it :: X) φ m (own ++ [(it, o)]) → IO 0 o → Src p w A s₂ it X vs.length IO (fun i v => vs[i]? = some v) → K (.ref it) s₂) : W p w A (pyIter (.ref a)) K s := by
  refine wpAny_pyIter_tuple (isTuple_of ha) ?_
  obtain ⟨F', g, nX⟩ := F.newO (s' := { s with heap := s.heap.push { cls := .type "tuple_iterator", data := .fields #[.ref a, .int 0 0] } }) (o := { cls := .type "tuple_iterator", data := .fields #[.ref a, .int 0 0] }) rfl rfl ⟨rfl, rfl⟩
  have hl : ∀ s₁, Kp (s.heap.objs.size :: X) { s with heap := s.heap.push { cls := .type "tuple_iterator", data := .fields #[.ref a, .int 0 0] } } s₁ → s₁.heap.IsTuple a vs.toArray :=
    fun s₁ h => let ⟨q1, q2⟩ := g.2 a _ haX ha; isTuple_of (h a _ q1 q2)
  refine h _ _ _ (fun i o => o.cls = .type "tuple_iterator" ∧ o.data = .fields #[.ref a, .int i 0]) nX g F' ⟨rfl, rfl⟩ ⟨fun i s₁ o hi hg ho hO Q' hQ => ?_, fun s₁ o hg ho hO Q' hQ => ?_, fun s₁ o ho hO Q' hQ => ?_, fun i s₁ o target v ho hO Q' hQ => ?_⟩
  · obtain ⟨v, hv⟩ : ∃ v, vs[i]? = some v := ⟨vs[i], List.getElem?_eq_getElem hi⟩
    refine wpAny_pyNext_tuple_item ⟨o, ho, hO⟩ (hl s₁ hg) (by simpa using hv) fun h' ⟨o', a1, a2, a3⟩ hs => hQ v { s₁ with heap := h' } o' hv hs a1 ⟨a2, a3⟩ ⟨rfl, rfl⟩
  · exact wpAny_pyNext_tuple_end hA ⟨o, ho, hO⟩ (hl s₁ hg) (by simp) fun h' hx => hQ { s₁ with heap := h' } hx ⟨rfl, rfl⟩
  · exact wpAny_pyIter_tupleiter (i := 0) ⟨o, ho, hO⟩ hQ
  · exact letGo_tupleiter ⟨o, ho, hO⟩ hQ

/-- range(n) walked -/
theorem it_range {a : Addr} {n : Nat} {t u v : Tok} {K : Value → Shared → Prop} (hA : A.handled = none) (F : Fra B s X φ m own) (ha : IsRange s.heap a 0 n 1 t u v) (hn : n ≤ 1000)
    (h : ∀ s₂ it o IO, it ∉ X → Go X s (it :: X) s₂ → Fra B s₂ (it :: X) φ m (own ++ [(it, o)]) → IO 0 o → Src p w A s₂ it X n IO (fun i v => ∃ t, v = .int (i : Int) t) → K (.ref it) s₂) : W p w A (pyIter (.ref a)) K s := by
  have hsz : Builtin.Range.rangeSize 0 (n : Int) 1 = n := by
    unfold Builtin.Range.rangeSize
    by_cases q : (0 : Int) < n
    · rw [if_pos (by decide), if_pos q]; omega
    · rw [if_pos (by decide), if_neg q]; omega
  refine wpAny_pyIter_range ha (small_one (by decide) (by decide) (by omega) (by omega)) ?_
  rw [hsz]
  obtain ⟨F', g, nX⟩ := F.newO (s' := { s with heap := s.heap.push { cls := .type "range_iterator", data := .fields #[rawInt 0, rawInt n, rawInt 1] } }) (o := { cls := .type "range_iterator", data := .fields #[rawInt 0, rawInt n, rawInt 1] }) rfl rfl ⟨rfl, rfl⟩
  refine h _ _ _ (fun i o => o = { cls := .type "range_iterator", data := .fields #[rawInt i, rawInt (n - i), rawInt 1] }) nX g F' (by simp) ⟨fun i s₁ o hi hg ho hO Q' hQ => ?_, fun s₁ o hg ho hO Q' hQ => ?_, fun s₁ o ho hO Q' hQ => ?_, fun i s₁ o target v ho hO Q' hQ => ?_⟩
  · refine wpAny_pyNext_range_item (x := i) (left := n - i) (step := 1) (ho.trans (congrArg some hO)) (by omega) fun h' hr hs => ?_
    refine hQ _ { s₁ with heap := h', toks := s₁.toks + 1 } _ ⟨_, rfl⟩ hs hr ?_ ⟨rfl, rfl⟩
    have e : (n : Int) - i - 1 = n - ((i + 1 : Nat) : Int) := by omega
    rw [e]; rfl
  · exact wpAny_pyNext_range_end hA (x := n) (left := n - n) (step := 1) (ho.trans (congrArg some hO)) (by omega) fun h' hx => hQ { s₁ with heap := h' } hx ⟨rfl, rfl⟩
  · exact wpAny_pyIter_rangeiter (x := ((0 : Nat) : Int)) (left := n - ((0 : Nat) : Int)) (step := 1) (ho.trans (congrArg some hO)) hQ
  · subst hO
    unfold letOwnedTupleGo
    cases target <;> first
      | exact wpAny_pure hQ
      | (cases v <;> first
          | exact wpAny_pure hQ
          | (refine wpAny_bind (wpAny_load ho ?_)
             exact wpAny_pure hQ))

/-- a call of a def of the text, positional, without cells -/
theorem enter {a k : Nat} {mg mb : Str → Option Value} {vals : List Value} {binds : List (Str × Value)} {Q : Value → Shared → Prop} (G : Gd w mg mb s.heap) (lv : Liv s X) (hA : Rm A (k + 1))
    (ho : (hd.heap_1 w.params).lookup a = some (objAt a)) (hdat : (objAt a).data = .func (fd a)) (hbody : (fd a).body = .stmts (bd a)) (hcd : codeIn (hd.heap_1 w.params) (fd a).code (fd a).qualname = true)
    (hbind : BindsTo s (fd a) ⟨vals, []⟩ binds) (hcell : ∀ x ∈ (fd a).scope.names, x.2 ≠ .cell) (hloc : ∀ x ∈ binds, (fd a).scope.names.lookup x.1 = some .local)
    (hco : (fd a).scope.isCoroutine = false) (hgen : (fd a).scope.isGenerator = false) (hk : (fd a).scope.kind = .function)
    (h : ∀ s₁ L, L ∉ X → Go X s (L :: X) s₁ → Kept s s₁ → Rm (A.deeper (en a L)) k → Fra s.heap s₁ (L :: X) ⟨L, []⟩ (fun x => binds.reverse.lookup x) [] →
      W p w (A.deeper (en a L)) (execs (bd a) (en a L)) (fun f s' => Q (match f with | .ret v => v | _ => .none) s') s₁) :
    W p w A (call (.ref a) vals) Q s := by
  refine wpAny_call (codeAny_call_def (fd := fd a) (body := bd a) (binds := binds) (by have := hA.depth; omega) (G.K _ _ ho) hdat G.nolimit (codeRec_of G.K hcd) hbody hbind hcell hloc (fun h₀ hns hk₀ => ?_) hco hgen hk)
  have lt : ∀ {b o}, s.heap.get? b = some o → b ≠ s.heap.objs.size := fun e => Nat.ne_of_lt (Heap.lt_size e)
  have nX : s.heap.objs.size ∉ X := fun q => by obtain ⟨o, e⟩ := lv _ q; exact lt e rfl
  refine wpAny_mono (h _ s.heap.objs.size nX ⟨⟨rfl, rfl⟩, fun b o hb e => ⟨by simp [hb, lt e], hk₀ b o e⟩⟩ ⟨⟨rfl, rfl⟩, fun b o hb e => ⟨by simp, hk₀ b o e⟩⟩ (hA.deeper _) ⟨hk₀, fun x hx => ?_, ⟨_, hns, fun _ _ => rfl⟩, (fun x c h => nomatch h), (fun _ h => nomatch h), by simp [Fm.adr], by simp [Fm.adr], fun x hx => ?_⟩) (fun f s' h' => h') (fun _ _ h => h.elim)
  · simp [Fm.adr] at hx; subst hx
    cases q : s.heap.get? s.heap.objs.size with
    | none => rfl
    | some o => exact absurd rfl (lt q)
  · rcases List.mem_cons.mp hx with h | h
    · obtain ⟨o, _, _, e, _⟩ := hns; exact ⟨o, h ▸ e⟩
    · obtain ⟨o, e⟩ := lv x h; exact ⟨o, hk₀ x o e⟩
end
end Mine
end

-- Split
section
open PySem PySem.W PyProof.Rows
set_option maxRecDepth 100000
set_option linter.all false
namespace Mine
local macro_rules | `(tactic| walk_at "lkp") => `(tactic| first | assumption | exact upd_same | (refine lks (sne (by decide)) ?_; walk_at "lkp"))
section
variable {p : Program} {w : World} {A : Around} {s : Shared} {X : List Addr} {mg mb : Str → Option Value}

inductive SP1 {α : Type} (R : Rel α) (l : List α) (f : α → Bool) (X' : List Addr) (ay an pa : Addr) (i : Nat) (s : Shared) (m : Str → Option Value) (own : List (Addr × Obj)) : Prop
  | mk (ys ns : List Value) (ny nn : Nat) (e : own = [(ay, lst ys ny), (an, lst ns nn)]) (q1 : m "yes" = some (.ref ay)) (q2 : m "no" = some (.ref an)) (q3 : m "predicate" = some (.ref pa)) (q4 : All2 (R s.heap X') ys ((l.take i).filter f)) (q5 : All2 (R s.heap X') ns ((l.take i).filter (fun a => !f a)))
theorem split_spec {α : Type} {R : Rel α} (mr : Mono R) {k : Nat} {v1 : Value} {pa : Addr} {po : Obj} {pf : FuncData} {l : List α} {f : α → Bool} {Q : Value → Shared → Prop}
    (G : Gd w mg mb s.heap) (lv : Liv s X) (hA : Rm A (k + 2)) (hl : RList R s.heap X v1 l) (hpo : s.heap.get? pa = some po) (hpf : po.data = .func pf) (hlen : l.length ≤ 100)
    (hp : ∀ A' s₁ X' v a, Rm A' (k + 1) → Kept s s₁ → R s₁.heap X' v a → a ∈ l → ∀ Q : Value → Shared → Prop, (∀ s₂, Kept s₁ s₂ → Q (.bool (f a)) s₂) → W p w A' (call (.ref pa) [v]) Q s₁)
    (h : ∀ s' r, Kept s s' → RTup (RList R) s'.heap X r [l.filter f, l.filter (fun a => !f a)] → Q r s') : W p w A (call (.ref 28) [v1, .ref pa]) Q s := by
  refine enter (k := k + 1) (binds := [("s", v1), ("predicate", .ref pa)]) G lv hA rfl rfl rfl rfl (.of_eq rfl) (by decide) (locs rfl) rfl rfl rfl ?_
  intro s₁ L hLX g1 k1 hA1 F0
  refine wp_gen fun Q0 hQ0 => ?_
  obtain ⟨m, F1, m1, m2⟩ : ∃ m, Fra s.heap s₁ (L :: X) ⟨L, []⟩ m [] ∧ m "s" = some v1 ∧ m "predicate" = some (.ref pa) := ⟨_, F0, rfl, rfl⟩
  clear F0
  refine wpAny_execs_cons (wpAny_Assign_Name (List_ (args_nil (r_newListO F1 ?_))))
  intro s₂ ay ny_1 g2 F2
  refine r_store F2 ?_
  intro s₃ g3 F3
  refine wpAny_execs_cons (wpAny_Assign_Name (List_ (args_nil (r_newListO F3 ?_))))
  intro s₄ an nn_1 g4 F4
  refine r_store F4 ?_
  intro s₅ g5 F5
  obtain ⟨a, vs, n, rfl, haX, ha, har⟩ := hl
  have g15 : Go X s (an :: ay :: L :: X) s₅ := g1.trans (g2.trans (g3.trans (g4.trans g5)))
  have ha5 := g15.2 a _ haX ha
  refine wpAny_execs_cons (wpAny_For (r_loc F5 (by walk_at "lkp") ?_))
  refine it_list hA1.handled F5 ha5.2 ha5.1 ?_
  intro s5' it io IO hit g5' F5' hio S
  refine loop_abs _ _ _ F5' hio hit S (fun i s m own => SP1 R l f (it :: an :: ay :: L :: X) ay an pa i s m own) ?_ ?_ ?_
  · exact ⟨[], [], 0, 0, rfl, by walk_at "lkp", by walk_at "lkp", by walk_at "lkp", .nil, .nil⟩
  · intro i v s₀ s₁' m₁ own₁ o Q1 hi hv g0 hP g01 Fa hQ1
    obtain ⟨ys, ns, ny, nn, rfl, q1, q2, q3, q4, q5⟩ := hP
    refine wpAny_assign_Name (r_store Fa ?_)
    intro s6 g6 F6
    obtain ⟨x, hx, hR⟩ := har.get hv
    have g06 := g01.trans g6
    have gg := g15.trans (g5'.trans (g0.trans g06))
    have kk := F6.toKept gg.1
    have hR6 := mr gg hR
    refine wpAny_execs_cons (wpAny_If (isTrue_plain (Call_ (r_loc F6 (by walk_at "lkp") (CDA hpo hpf (AC (r_loc F6 (by walk_at "lkp") (args_nil ⟨kk.get hpo, ?_⟩))))))))
    refine hp _ s6 (it :: an :: ay :: L :: X) v x hA1 kk hR6 (List.mem_of_getElem? hx) _ ?_
    intro s7 k7
    have F7 := F6.kept k7
    have g07 := g06.trans (k7.go _)
    refine wpAny_truthy_bool ?_
    have tk : l.take (i + 1) = l.take i ++ [x] := by rw [List.take_add_one, hx]; rfl
    cases hf : f x with
    | true =>
      refine wpAny_execs_cons (wpAny_Expr_any (MC (r_loc F7 (by walk_at "lkp") (r_method_append (F7.at (k := 0) rfl) (CM1 (AC (r_loc F7 (by walk_at "lkp") (args_nil (r_append F7 0 rfl ?_ ?_)))))))))
      · intro s8 g8 F8
        refine wpAny_execs_nil (wpAny_execs_nil (hQ1 _ _ [(ay, lst (ys ++ [v]) (ny + 1)), (an, lst ns nn)] F8 (g6.trans ((k7.go _).trans g8)) ⟨ys ++ [v], ns, ny + 1, nn, rfl, by walk_at "lkp", by walk_at "lkp", by walk_at "lkp", ?_, ?_⟩).1)
        · rw [tk, List.filter_append]; simp only [List.filter_cons, hf, if_true, List.filter_nil]
          exact (q4.imp fun _ _ h => mr (g07.trans g8) h).snoc (mr (k7.go _ |>.trans g8) hR6)
        · rw [tk, List.filter_append]; simp only [List.filter_cons, hf, Bool.not_true, Bool.false_eq_true, if_false, List.filter_nil, List.append_nil]
          exact (q5.imp fun _ _ h => mr (g07.trans g8) h)
      · rw [q4.len]; refine Nat.le_trans (List.length_filter_le _ _) (Nat.le_trans (List.length_take_le' _ _) (Nat.le_trans hlen (by decide)))
    | false => 
      refine wpAny_execs_cons (wpAny_Expr_any (MC (r_loc F7 (by walk_at "lkp") (r_method_append (F7.at (k := 1) rfl) (CM1 (AC (r_loc F7 (by walk_at "lkp") (args_nil (r_append F7 1 rfl ?_ ?_)))))))))
      · intro s8 g8 F8
        refine wpAny_execs_nil (wpAny_execs_nil (hQ1 _ _ [(ay, lst ys ny), (an, lst (ns ++ [v]) (nn + 1))] F8 (g6.trans ((k7.go _).trans g8)) ⟨ys, ns ++ [v], ny, nn + 1, rfl, by walk_at "lkp", by walk_at "lkp", by walk_at "lkp", ?_, ?_⟩).1)
        · rw [tk, List.filter_append]; simp only [List.filter_cons, hf, Bool.false_eq_true, if_false, List.filter_nil, List.append_nil]
          exact (q4.imp fun _ _ h => mr (g07.trans g8) h)
        · rw [tk, List.filter_append]; simp only [List.filter_cons, hf, Bool.not_false, if_true, List.filter_nil]
          exact (q5.imp fun _ _ h => mr (g07.trans g8) h).snoc (mr (k7.go _ |>.trans g8) hR6)
      · rw [q5.len]; refine Nat.le_trans (List.length_filter_le _ _) (Nat.le_trans (List.length_take_le' _ _) (Nat.le_trans hlen (by decide)))
  · intro s₀ s6 m₁ own₁ g0 hP g06 F6
    obtain ⟨ys, ns, ny, nn, rfl, q1, q2, q3, q4, q5⟩ := hP
    rw [har.len, List.take_length] at q4 q5
    refine wpAny_execs_cons (wpAny_Return_some (Tuple_ (AC (r_loc F6 (by walk_at "lkp") (AC (r_loc F6 (by walk_at "lkp") (args_nil (r_newTupF F6 ?_))))))))
    intro s7 t k7 F7 tX ht
    have gg := g15.trans (g5'.trans (g0.trans (g06.trans (k7.go _))))
    have fz : Go (an :: ay :: L :: X) s7 X s7 := ⟨⟨rfl, rfl⟩, fun b o h e => ⟨fun q => h (by simp [q]), e⟩⟩
    have aX : an ∉ X ∧ ay ∉ X := ⟨fun q => nn_1 (by simp [q]), fun q => ny_1 (by simp [q])⟩
    refine hQ0 _ _ ?_
    refine h s7 _ (F7.toKept gg.1) ⟨t, _, 0, rfl, fun q => tX (by simp [q]), ht, .cons ⟨ay, ys, ny, rfl, aX.2, F7.at (k := 0) rfl, ?_⟩ (.cons ⟨an, ns, nn, rfl, aX.1, F7.at (k := 1) rfl, ?_⟩ .nil)⟩
    · exact q4.imp fun _ _ h => mr (g06.trans ((k7.go _).trans fz)) h
    · exact q5.imp fun _ _ h => mr (g06.trans ((k7.go _).trans fz)) h
end
end Mine
end

-- Comp
section
open PySem PySem.W PyProof.Rows
set_option maxRecDepth 100000
set_option linter.all false
namespace Mine
section
variable {p : Program} {w : World} {A : Around} {s : Shared} {env : Env} {B : Heap} {X : List Addr} {φ : Fm} {m : Str → Option Value} {own : List (Addr × Obj)}

abbrev tests (ifs : List Expr) (env : Env) : Sem Bool := forIn ifs true fun c r => if r = true then do let ok ← isTrue c env (eval c env); pure (ForInStep.yield ok) else pure (ForInStep.yield r)

/-- the turns of a list comprehension, whatever its target -/
theorem compTurns {elt target iter : Expr} {ifs : List Expr} {scope : Scope} {pos : Pos} {it acc : Value} {R : Result → Shared → Prop} (I : Nat → Shared → Prop)
    (turn : ∀ n s, I n s → wpAny (model p w) A (pyNext it) (fun r s₁ => match r with
      | none => R (.ok .next) s₁
      | some v => wpAny (model p w) A (letOwnedTupleGo target it v) (fun _ s₁' => wpAny (model p w) A (assign target env v) (fun _ s₂ => wpAny (model p w) A (tests ifs env) (fun ok s₃ => if ok = true
          then wpAny (model p w) A (eval elt env) (fun x s₄ => wpAny (model p w) A (call (.builtin "list.append") [acc, x]) (fun _ s₅ => ∃ m, m < n ∧ I m s₅) (notedBy (model p w) A env fun e s' => R (.error e) s') s₄) (notedBy (model p w) A env fun e s' => R (.error e) s') s₃
          else ∃ m, m < n ∧ I m s₃) (notedBy (model p w) A env fun e s' => R (.error e) s') s₂) (notedBy (model p w) A env fun e s' => R (.error e) s') s₁') (notedBy (model p w) A env fun e s' => R (.error e) s') s₁) (notedBy (model p w) A env fun e s' => R (.error e) s') s)
    (n : Nat) (h : I n s) : codeAny (model p w) A (.compLoop (.ListComp elt [⟨target, iter, ifs, 0⟩] scope pos) 0 it acc env) R s := by
  refine codeAny_loop rfl I (fun n s hI => ?_) n h
  show wpAny _ A ((compTurn (.ListComp elt [⟨target, iter, ifs, 0⟩] scope pos) 0 it acc env).onRaise (fun x => do noteFrame x env; theTreesLotGoes x)) _ _ s
  refine wpAny_noted ?_
  rw [compTurn_list]
  refine wpAny_bind (wpAny_standAt (wpAny_bind (wpAny_mono (turn n s hI) (fun r s₁ h₁ => ?_) fun _ _ h' => h')))
  cases r with
  | none => exact wpAny_pure h₁
  | some v =>
    refine wpAny_bind (wpAny_mono h₁ (fun _ s₁' h₁' => ?_) fun _ _ h' => h')
    refine wpAny_bind (wpAny_mono h₁' (fun _ s₂ h₂ => wpAny_bind (wpAny_mono h₂ (fun ok s₃ h₃ => ?_) fun _ _ h' => h')) fun _ _ h' => h')
    cases ok with
    | false => exact wpAny_pure ⟨rfl, h₃⟩
    | true => exact wpAny_bind (wpAny_bind (wpAny_mono h₃ (fun x s₄ h₄ => wpAny_bind (wpAny_mono h₄ (fun _ s₅ h₅ => wpAny_pure (wpAny_pure ⟨rfl, h₅⟩)) fun _ _ h' => h')) fun _ _ h' => h'))

/-- the loop of a list comprehension: D gathers -/
theorem comp_gen {elt target iter : Expr} {ifs : List Expr} {scope : Scope} {pos : Pos} {it D : Addr} {R : Result → Shared → Prop} {n : Nat} {IO : Nat → Obj → Prop} {V : Nat → Value → Prop}
    {o₀ : Obj} {s₂ : Shared} {X₂ : List Addr} {rest : List (Addr × Obj)} (F : Fra B s (it :: X) φ m ((D, lst [] 0) :: rest ++ [(it, o₀)])) (hio₀ : IO 0 o₀) (hit : it ∉ X) (hn : n ≤ sizeLine)
    (S : Src p w A s₂ it X₂ n IO V) (hX₂ : Kp (it :: X₂) s₂ s) (hX : ∀ x ∈ X₂, x ∈ X) (hS : ∀ b o, b ∉ it :: X₂ → s₂.heap.get? b = some o → b ∉ X)
    (P : Nat → Shared → List Value → (Str → Option Value) → List (Addr × Obj) → Prop) (h0 : P 0 s [] m rest)
    (turn : ∀ i v s₀ s₁ ys k m₁ rest₁ o, i < n → V i v → Go (it :: X) s (it :: X) s₀ → P i s₀ ys m₁ rest₁ → Go (it :: X) s₀ (it :: X) s₁ → Fra B s₁ (it :: X) φ m₁ ((D, lst ys k) :: rest₁ ++ [(it, o)]) →
      W p w A (assign target env v) (fun _ s₂ => W p w A (tests ifs env) (fun ok s₃ => if ok = true
        then W p w A (eval elt env) (fun x s₄ => ∃ m₂ rest₂, Fra B s₄ (it :: X) φ m₂ ((D, lst ys k) :: rest₂ ++ [(it, o)]) ∧ Go (it :: X) s₁ (it :: X) s₄ ∧ ∀ s₅, Go (it :: X) s₄ (it :: X) s₅ → P (i + 1) s₅ (ys ++ [x]) m₂ rest₂) s₃
        else ∃ m₂ rest₂, Fra B s₃ (it :: X) φ m₂ ((D, lst ys k) :: rest₂ ++ [(it, o)]) ∧ Go (it :: X) s₁ (it :: X) s₃ ∧ P (i + 1) s₃ ys m₂ rest₂) s₂) s₁)
    (done : ∀ s₀ s₁ ys k m₁ rest₁, Go (it :: X) s (it :: X) s₀ → P n s₀ ys m₁ rest₁ → Go (it :: X) s₀ X s₁ → Fra B s₁ X φ m₁ ((D, lst ys k) :: rest₁) → R (.ok .next) s₁) :
    codeAny (model p w) A (.compLoop (.ListComp elt [⟨target, iter, ifs, 0⟩] scope pos) 0 (.ref it) (.ref D) env) R s := by
  have kp : ∀ s₁, Go (it :: X) s (it :: X) s₁ → Kp (it :: X₂) s₂ s₁ := fun s₁ g b o hb e =>
    (g.2 b o (fun q => by
      rcases List.mem_cons.mp q with q | q
      · exact hb (by simp [q])
      · exact hS b o hb e q) (hX₂ b o hb e)).2
  refine compTurns (fun k s₀ => ∃ i m₁ ys c rest₁ o, i ≤ n ∧ k = n - i ∧ ys.length ≤ i ∧ Go (it :: X) s (it :: X) s₀ ∧ P i s₀ ys m₁ rest₁ ∧ Fra B s₀ (it :: X) φ m₁ ((D, lst ys c) :: rest₁ ++ [(it, o)]) ∧ IO i o) (fun k s₀ hI => ?_) n ⟨0, m, [], 0, rest, o₀, Nat.zero_le _, rfl, Nat.le_refl _, Go.refl _ _, h0, F, hio₀⟩
  obtain ⟨i, m₁, ys, c, rest₁, o, hi, hk, hys, g0, hP, F0, hO⟩ := hI
  have hio : s₀.heap.get? it = some o := F0.has (it, o) (by simp)
  rcases Nat.lt_or_eq_of_le hi with hlt | heq
  · refine S.nxt i s₀ o hlt (kp s₀ g0) hio hO _ (fun v s₁ o' hv hs ho hO' hsg => ?_) |> fun h => wpAny_mono h (fun r s₁ h₁ => h₁) (fun _ _ h => h.elim)
    obtain ⟨F1, g1⟩ := F0.setO (k := ((D, lst ys c) :: rest₁).length) (o := o) (o' := o') (by simp) hs ho hsg
    rw [List.set_append_right _ _ (Nat.le_refl _), Nat.sub_self] at F1
    refine wpAny_mono (S.go (i + 1) s₁ o' target v ho hO' (fun _ s' => s' = s₁) rfl) (fun _ s₁' e₁ => ?_) fun _ _ h => h.elim
    subst e₁
    refine wpAny_mono (turn i v s₀ s₁' ys c m₁ rest₁ o' hlt hv g0 hP g1 F1) (fun _ s₂ h₂ => wpAny_mono h₂ (fun ok s₃ h₃ => ?_) fun _ _ h => h.elim) fun _ _ h => h.elim
    cases ok with
    | true =>
      simp only [if_true] at h₃ ⊢
      refine wpAny_mono h₃ (fun x s₄ ⟨m₂, rest₂, F4, g4, hP4⟩ => ?_) fun _ _ h => h.elim
      refine wpAny_mono (r_append F4 0 rfl (Q := fun _ s₅ => ∃ m, m < k ∧ ∃ i m₁ ys c rest₁ o, i ≤ n ∧ m = n - i ∧ ys.length ≤ i ∧ Go (it :: X) s (it :: X) s₅ ∧ P i s₅ ys m₁ rest₁ ∧ Fra B s₅ (it :: X) φ m₁ ((D, lst ys c) :: rest₁ ++ [(it, o)]) ∧ IO i o) ?_ (by omega)) (fun _ _ h => h) fun _ _ h => h.elim
      intro s₅ g5 F5
      exact ⟨n - (i + 1), by omega, i + 1, m₂, ys ++ [x], c + 1, rest₂, o', hlt, rfl, by simp; omega, ((g0.trans g1).trans g4).trans g5, hP4 s₅ g5, F5, hO'⟩
    | false =>
      simp only [Bool.false_eq_true, if_false] at h₃ ⊢
      obtain ⟨m₂, rest₂, F4, g4, hP4⟩ := h₃
      exact ⟨n - (i + 1), by omega, i + 1, m₂, ys, c, rest₂, o', hlt, rfl, by omega, (g0.trans g1).trans g4, hP4, F4, hO'⟩
  · subst heq
    refine S.fin s₀ o (kp s₀ g0) hio hO _ (fun s₁ hx hsg => ?_) |> fun h => wpAny_mono h (fun r s₁ h₁ => h₁) (fun _ _ h => h.elim)
    have g1 : Go (it :: X) s₀ X s₁ := ⟨hsg, fun b o hb e => ⟨fun q => hb (List.mem_cons_of_mem _ q), hx b o (fun q => hb (by simp [q])) e⟩⟩
    obtain ⟨F2, _, _⟩ := F0.freeze
    exact done s₀ s₁ ys c m₁ rest₁ g0 hP g1 (F2.ext hit (F0.fresh it (by simp)) hx)

/-- what comes behind a comprehension's first iterator -/
abbrev CompK (p : Program) (w : World) (A : Around) (env : Env) (e : Expr) (scope : Scope) (cl : List (Str × Addr)) (use : Option (Value → Sem Unit)) (Q : Value → Shared → Prop) (it : Value) (s₂ : Shared) : Prop :=
  W p w A (newList []) (fun acc s₃ => W p w A (newFunctionEnv scope env.globals cl [] env.qual none .none (some env)) (fun cenv s₄ =>
    codeAny (model p w) A (.compStart e 0 it acc { cenv with scope := relabel scope env }) (compPost (model p w) A NoE use Q acc cenv.locals) s₄) s₃) s₂

/-- the frame of a comprehension, laid over the frame around it -/
theorem comp_lay {s₂ s₃ s₄ : Shared} {it : Addr} {o₀ : Obj} {own1 mv : List (Addr × Obj)} {C : Addr} {mC : Str → Option Value} (F : Fra B s₂ (it :: X) φ m (own1 ++ mv ++ [(it, o₀)])) (hit : it ∉ X)
    (h3 : s₃.heap = s₂.heap.push (lst [] 0)) (e3 : SG s₂ s₃) (hC : C = s₃.heap.objs.size) (k4 : Kept s₃ s₄) (hns : s₄.heap.Ns C mC) :
    Fra (hideAll s₂.heap (it :: mv.map (·.1))) s₄ (it :: C :: s₂.heap.objs.size :: X) ⟨C, []⟩ mC ((s₂.heap.objs.size, lst [] 0) :: mv ++ [(it, o₀)]) ∧ Go (it :: X) s₂ (it :: C :: s₂.heap.objs.size :: X) s₄ ∧ Kept s₂ s₄ ∧ C ∉ s₂.heap.objs.size :: X ∧ s₂.heap.objs.size ∉ X ∧ C ≠ it := by
  have lt : ∀ {b o}, s₂.heap.get? b = some o → b < s₂.heap.objs.size := fun e => Heap.lt_size e
  have k3 : Kept s₂ s₃ := push_kept h3 e3
  have k : Kept s₂ s₄ := Go.trans k3 k4
  have gs : ∀ {x : Addr}, x < s₂.heap.objs.size → x ≠ s₂.heap.objs.size + 1 := fun h => Nat.ne_of_lt (Nat.lt_succ_of_lt h)
  have gs0 : ∀ {x : Addr}, x < s₂.heap.objs.size → x ≠ s₂.heap.objs.size := fun h => Nat.ne_of_lt h
  have sz : C = s₂.heap.objs.size + 1 := by rw [hC, h3]; simp
  have lX : ∀ x ∈ it :: X, x < s₂.heap.objs.size := fun x hx => let ⟨o, e⟩ := F.live x hx; lt e
  have nX : s₂.heap.objs.size ∉ X := fun q => Nat.lt_irrefl _ (lX _ (List.mem_cons_of_mem _ q))
  have nX' : s₂.heap.objs.size + 1 ∉ X := fun q => gs (lX _ (List.mem_cons_of_mem _ q)) rfl
  have li : it < s₂.heap.objs.size := lX it (by simp)
  have nd := (List.nodup_append.mp F.nd).2.1
  rw [List.map_append, List.map_append, List.append_assoc] at nd
  have ndm : (mv.map (·.1) ++ [it]).Nodup := (List.nodup_append.mp nd).2.1
  have inm : ∀ x ∈ mv.map (·.1) ++ [it], x ∈ it :: X := fun x hx => F.inX x (by
    refine List.mem_append_right _ ?_
    rw [List.map_append, List.map_append, List.append_assoc]
    exact List.mem_append_right _ hx)
  have hmD : ∀ x ∈ mv.map (·.1) ++ [it], x < s₂.heap.objs.size := fun x hx => lX x (inm x hx)
  have hide : ∀ b, b ∈ it :: mv.map (·.1) → (hideAll s₂.heap (it :: mv.map (·.1))).get? b = none := fun b hb => hideAll_none _ hb
  have big : ∀ b, s₂.heap.objs.size ≤ b → (hideAll s₂.heap (it :: mv.map (·.1))).get? b = none := fun b hb => by
    cases q : (hideAll s₂.heap (it :: mv.map (·.1))).get? b with
    | none => rfl
    | some o => exact absurd (lt (of_hideAll _ q)) (Nat.not_lt.mpr hb)
  subst sz
  have g : Go (it :: X) s₂ (it :: (s₂.heap.objs.size + 1) :: s₂.heap.objs.size :: X) s₄ := ⟨k.1, fun b o hb e => ⟨fun q => by
    have := lt e
    rcases List.mem_cons.mp q with q | q
    · exact hb (by simp [q])
    · rcases List.mem_cons.mp q with q | q
      · exact gs this q
      · rcases List.mem_cons.mp q with q | q
        · exact gs0 this q
        · exact hb (by simp [q]), k.get e⟩⟩
  refine ⟨⟨fun b o e => k.get (of_hideAll _ e), fun x hx => ?_, ⟨mC, hns, fun _ _ => rfl⟩, (fun x c h => nomatch h), fun q hq => ?_, ?_, fun x hx => ?_, fun x hx => ?_⟩, g, k, fun q => ?_, nX, (gs li).symm⟩
  · simp only [Fm.adr, List.map_nil, List.map_append, List.map_cons, List.mem_append, List.mem_cons, List.not_mem_nil, or_false] at hx
    rcases hx with h | (h | h) | h
    · exact big x (h ▸ Nat.le_succ _)
    · exact big x (h ▸ Nat.le_refl _)
    · exact hide x (by simp [h])
    · exact hide x (by simp [h])
  · simp only [List.mem_append, List.mem_cons, List.cons_append, List.not_mem_nil, or_false] at hq
    rcases hq with h | h | h
    · subst h
      refine k4.get ?_
      rw [h3]; exact Heap.get?_push_size _ rfl
    · exact k.get (F.has q (by simp [h]))
    · subst h; exact k.get (F.has (it, o₀) (by simp))
  · simp only [Fm.adr, List.map_nil, List.map_append, List.map_cons, List.cons_append, List.nil_append, List.nodup_cons]
    refine ⟨fun q => ?_, fun q => ?_, ndm⟩
    · rcases List.mem_cons.mp q with q | q
      · exact absurd q (Nat.ne_of_gt (Nat.lt_succ_self _))
      · exact gs (hmD _ q) rfl
    · exact gs0 (hmD _ q) rfl
  · simp only [Fm.adr, List.map_nil, List.map_append, List.map_cons, List.cons_append, List.nil_append, List.mem_cons] at hx
    rcases hx with h | h | h
    · simp [h]
    · simp [h]
    · rcases List.mem_cons.mp (inm x h) with h | h
      · simp [h]
      · simp [h]
  · rcases List.mem_cons.mp hx with h | h
    · obtain ⟨o, e⟩ := F.live x (by simp [h]); exact ⟨o, k.get e⟩
    · rcases List.mem_cons.mp h with h | h
      · obtain ⟨o, _, _, e, _⟩ := hns; exact ⟨o, h ▸ e⟩
      · rcases List.mem_cons.mp h with h | h
        · subst h; exact ⟨_, k4.get (by rw [h3]; exact Heap.get?_push_size _ rfl)⟩
        · obtain ⟨o, e⟩ := F.live x (by simp [h]); exact ⟨o, k.get e⟩
  · rcases List.mem_cons.mp q with q | q
    · exact absurd q (Nat.ne_of_gt (Nat.lt_succ_self _))
    · exact nX' q

/-- back from the comprehension's frame -/
theorem comp_back {s₂ s₁ : Shared} {it D C : Addr} {o₀ : Obj} {own1 mv mv' : List (Addr × Obj)} {ys : List Value} {k : Nat} {mC : Str → Option Value} (F : Fra B s₂ (it :: X) φ m (own1 ++ mv ++ [(it, o₀)])) (hit : it ∉ X) (hCX : C ∉ D :: X)
    (F1 : Fra (hideAll s₂.heap (it :: mv.map (·.1))) s₁ (C :: D :: X) ⟨C, []⟩ mC ((D, lst ys k) :: mv')) (hmv : mv'.map (·.1) = mv.map (·.1)) :
    ∃ oC, s₁.heap.get? C = some oC ∧ s₁.heap.Ns C mC ∧ Fra B s₁ (C :: X) φ m (own1 ++ mv' ++ [(C, oC)]) := by
  have kk : ∀ b o, s₂.heap.get? b = some o → b ∉ it :: mv.map (·.1) → s₁.heap.get? b = some o := fun b o e h => F1.keep b o (hideAll_get _ e h)
  obtain ⟨ml, n1, n2⟩ := F1.ns
  have n1' : s₁.heap.Ns C mC := by
    have : ml = mC := funext fun x => n2 x rfl
    exact this ▸ n1
  obtain ⟨oC, es, ep, hoC, r⟩ := n1'
  have Cnone : s₂.heap.get? C = none ∨ C ∈ it :: mv.map (·.1) := by
    cases q : s₂.heap.get? C with
    | none => exact .inl rfl
    | some o =>
      right
      by_cases h : C ∈ it :: mv.map (·.1)
      · exact h
      · have := hideAll_get _ q h; rw [F1.fresh C (by simp [Fm.adr])] at this; cases this
  have nd := F.nd
  rw [List.map_append, List.map_append, ← List.append_assoc, ← List.append_assoc] at nd
  obtain ⟨nd1, _, nd3⟩ := List.nodup_append.mp nd
  obtain ⟨nd4, nd5, nd6⟩ := List.nodup_append.mp nd1
  have outm : ∀ x ∈ φ.adr ++ own1.map (·.1), x ∉ it :: mv.map (·.1) := fun x hx q => by
    rcases List.mem_cons.mp q with q | q
    · exact nd3 x (List.mem_append_left _ hx) it (by simp) q
    · exact nd6 x hx x q rfl
  have fr : ∀ x ∈ φ.adr ++ own1.map (·.1) ++ mv.map (·.1), B.get? x = none := fun x hx => F.fresh x (by
    rw [List.map_append, List.map_append, ← List.append_assoc, ← List.append_assoc]; exact List.mem_append_left _ hx)
  have inX : ∀ x ∈ φ.adr ++ own1.map (·.1) ++ mv.map (·.1), x ∈ X := fun x hx => by
    have := F.inX x (by rw [List.map_append, List.map_append, ← List.append_assoc, ← List.append_assoc]; exact List.mem_append_left _ hx)
    rcases List.mem_cons.mp this with h | h
    · exact absurd h (nd3 x hx it (by simp))
    · exact h
  have hCX' : C ∉ X := fun q => hCX (by simp [q])
  have eqm : (own1 ++ mv' ++ [(C, oC)]).map (·.1) = own1.map (·.1) ++ mv.map (·.1) ++ [C] := by simp [hmv]
  have sp : ∀ x ∈ φ.adr ++ (own1 ++ mv' ++ [(C, oC)]).map (·.1), x ∈ φ.adr ++ own1.map (·.1) ++ mv.map (·.1) ∨ x = C := fun x hx => by
    rw [eqm] at hx; simpa [or_assoc] using hx
  refine ⟨oC, hoC, ⟨oC, es, ep, hoC, r⟩, fun b o e => ?_, fun x hx => ?_, ?_, fun x c e => ?_, fun q hq => ?_, ?_, fun x hx => ?_, fun x hx => ?_⟩
  · refine kk b o (F.keep b o e) fun q => ?_
    have : B.get? b = none := F.fresh b (by
      rcases List.mem_cons.mp q with q | q
      · simp [q]
      · rw [List.map_append, List.map_append]; exact List.mem_append_right _ (List.mem_append_left _ (List.mem_append_right _ q)))
    rw [this] at e; cases e
  · rcases sp x hx with h | h
    · exact fr x h
    · subst h
      cases q : B.get? x with
      | none => rfl
      | some o =>
        rcases Cnone with h | h
        · rw [F.keep x o q] at h; cases h
        · have : B.get? x = none := F.fresh x (by
            rcases List.mem_cons.mp h with q | q
            · simp [q]
            · rw [List.map_append, List.map_append]; exact List.mem_append_right _ (List.mem_append_left _ (List.mem_append_right _ q)))
          rw [this] at q; cases q
  · obtain ⟨ml, n1, n2⟩ := F.ns
    exact ⟨ml, ns_keeps n1 fun o e => kk _ o e (outm _ (by simp [Fm.adr])), n2⟩
  · exact cell_keeps (F.cell x c e) fun o e' => kk _ o e' (outm _ (List.mem_append_left _ (Fm.mem e)))
  · rcases List.mem_append.mp hq with h | h
    · rcases List.mem_append.mp h with h | h
      · exact kk _ _ (F.has q (by simp [h])) (outm _ (List.mem_append_right _ (List.mem_map_of_mem h)))
      · exact F1.has q (by simp [h])
    · simp at h; subst h; exact hoC
  · rw [eqm, ← List.append_assoc, ← List.append_assoc]
    refine List.nodup_append.mpr ⟨nd1, by simp, fun x hx y hy => ?_⟩
    simp at hy; subst hy
    intro q; subst q
    exact hCX' (inX x hx)
  · rcases sp x hx with h | h
    · exact List.mem_cons_of_mem _ (inX x h)
    · simp [h]
  · rcases List.mem_cons.mp hx with h | h
    · exact ⟨oC, h ▸ hoC⟩
    · by_cases q : x ∈ mv.map (·.1)
      · rw [← hmv] at q
        obtain ⟨z, hz, rfl⟩ := List.mem_map.mp q
        exact ⟨_, F1.has z (by simp [hz])⟩
      · obtain ⟨o, e⟩ := F.live x (by simp [h])
        exact ⟨o, kk x o e fun q' => by
          rcases List.mem_cons.mp q' with q' | q'
          · exact hit (q' ▸ h)
          · exact q q'⟩

theorem base_hide {s₂ : Shared} {it : Addr} {o₀ : Obj} {own1 mv : List (Addr × Obj)} (F : Fra B s₂ (it :: X) φ m (own1 ++ mv ++ [(it, o₀)])) : ∀ b o, B.get? b = some o → (hideAll s₂.heap (it :: mv.map (·.1))).get? b = some o := fun b o e =>
  hideAll_get _ (F.keep b o e) fun q => by
    have : B.get? b = none := F.fresh b (by
      rcases List.mem_cons.mp q with q | q
      · simp [q]
      · rw [List.map_append, List.map_append]; exact List.mem_append_right _ (List.mem_append_left _ (List.mem_append_right _ q)))
    rw [this] at e; cases e

/-- a list comprehension, from its iterator on, up to its end (behind it: what is done with the list) -/
theorem comp_run {s₂ : Shared} {it : Addr} {o₀ : Obj} {own1 mv : List (Addr × Obj)} {elt target iter : Expr} {ifs : List Expr} {scope : Scope} {cl : List (Str × Addr)} {pos : Pos} {use : Option (Value → Sem Unit)} {Q : Value → Shared → Prop} {n : Nat} {IO : Nat → Obj → Prop} {V : Nat → Value → Prop}
    (F : Fra B s₂ (it :: X) φ m (own1 ++ mv ++ [(it, o₀)])) (hio : IO 0 o₀) (hit : it ∉ X) (S : Src p w A s₂ it X n IO V) (hn : n ≤ sizeLine) (hcell : ∀ x ∈ scope.names, x.2 ≠ .cell) (hkind : scope.kind = .function)
    (P : List Addr → Nat → Shared → List Value → (Str → Option Value) → List (Addr × Obj) → Prop)
    (h0 : ∀ C D s₄, Go (it :: X) s₂ (it :: C :: D :: X) s₄ → P (it :: C :: D :: X) 0 s₄ [] (fun _ => none) mv)
    (turn : ∀ C D i v s₀ s₁ ys k m₁ rest₁ o, i < n → V i v → Go (it :: X) s₂ (it :: C :: D :: X) s₀ → P (it :: C :: D :: X) i s₀ ys m₁ rest₁ → Go (it :: C :: D :: X) s₀ (it :: C :: D :: X) s₁ → (∀ b o, B.get? b = some o → s₁.heap.get? b = some o) →
      Fra (hideAll s₂.heap (it :: mv.map (·.1))) s₁ (it :: C :: D :: X) ⟨C, []⟩ m₁ ((D, lst ys k) :: rest₁ ++ [(it, o)]) →
      W p w A (assign target (compEnvC scope cl C env) v) (fun _ s₂' => W p w A (tests ifs (compEnvC scope cl C env)) (fun ok s₃ => if ok = true
        then W p w A (eval elt (compEnvC scope cl C env)) (fun x s₄ => ∃ m₂ rest₂, Fra (hideAll s₂.heap (it :: mv.map (·.1))) s₄ (it :: C :: D :: X) ⟨C, []⟩ m₂ ((D, lst ys k) :: rest₂ ++ [(it, o)]) ∧ Go (it :: C :: D :: X) s₁ (it :: C :: D :: X) s₄ ∧ ∀ s₅, Go (it :: C :: D :: X) s₄ (it :: C :: D :: X) s₅ → P (it :: C :: D :: X) (i + 1) s₅ (ys ++ [x]) m₂ rest₂) s₃
        else ∃ m₂ rest₂, Fra (hideAll s₂.heap (it :: mv.map (·.1))) s₃ (it :: C :: D :: X) ⟨C, []⟩ m₂ ((D, lst ys k) :: rest₂ ++ [(it, o)]) ∧ Go (it :: C :: D :: X) s₁ (it :: C :: D :: X) s₃ ∧ P (it :: C :: D :: X) (i + 1) s₃ ys m₂ rest₂) s₂') s₁)
    (hmv : ∀ X' s ys m rest, P X' n s ys m rest → rest.map (·.1) = mv.map (·.1))
    (done : ∀ C D s₀ s₁ ys k m₁ mv' oC mC, Go (it :: X) s₂ (it :: C :: D :: X) s₀ → P (it :: C :: D :: X) n s₀ ys m₁ mv' → Go (it :: C :: D :: X) s₀ (C :: X) s₁ → C ∉ X → D ∉ C :: X → s₁.heap.get? D = some (lst ys k) → s₁.heap.Ns C mC → Fra B s₁ (C :: X) φ m (own1 ++ mv' ++ [(C, oC)]) → compPost (model p w) A NoE use Q (.ref D) C (.ok .next) s₁) :
    CompK p w A env (.ListComp elt [⟨target, iter, ifs, 0⟩] scope pos) scope cl use Q (.ref it) s₂ := by
  refine wpAny_newList ?_
  refine wpAny_newFunctionEnv hcell (fun _ h => nomatch h) (fun h' hns hsb => ?_) hkind
  have k4 : Kept { s₂ with heap := s₂.heap.push (lst [] 0) } { s₂ with heap := h', toks := s₂.toks + 0 } := ⟨⟨rfl, rfl⟩, fun b o hb e => ⟨by simp, hsb.extBut b o (Nat.ne_of_lt (Heap.lt_size e)) (Heap.get?_push_of_some _ e)⟩⟩
  obtain ⟨Fi, g, k, nC, nD, nCi⟩ := comp_lay (s₃ := { s₂ with heap := s₂.heap.push (lst [] 0) }) (s₄ := { s₂ with heap := h', toks := s₂.toks + 0 }) (C := (s₂.heap.push (lst [] 0)).objs.size) F hit rfl ⟨rfl, rfl⟩ rfl k4 hns
  have loop : codeAny (model p w) A (.compLoop (.ListComp elt [⟨target, iter, ifs, 0⟩] scope pos) 0 (.ref it) (.ref s₂.heap.objs.size) (compEnvC scope cl (s₂.heap.push (lst [] 0)).objs.size env)) (compPost (model p w) A NoE use Q (.ref s₂.heap.objs.size) (s₂.heap.push (lst [] 0)).objs.size) { s₂ with heap := h', toks := s₂.toks + 0 } := by
    have hit' : it ∉ (s₂.heap.push (lst [] 0)).objs.size :: s₂.heap.objs.size :: X := fun q => by
      have li : it < s₂.heap.objs.size := by obtain ⟨o, e⟩ := F.live it (by simp); exact Heap.lt_size e
      rcases List.mem_cons.mp q with q | q
      · exact nCi q.symm
      · rcases List.mem_cons.mp q with q | q
        · exact Nat.ne_of_lt li q
        · exact hit q
    refine comp_gen (s₂ := s₂) (X₂ := X) Fi hio hit' hn S (fun b o _ e => k.get e) (fun x hx => by simp [hx]) (fun b o hb e q => (g.2 b o hb e).1 (List.mem_cons_of_mem _ q)) (fun i s ys m rest => P _ i s ys m rest) (h0 _ _ _ g) ?_ ?_
    · intro i v s₀ s₁ ys k' m₁ rest₁ o hi hv g0 hP g1 F1
      exact turn _ _ i v s₀ s₁ ys k' m₁ rest₁ o hi hv (g.trans g0) hP g1 (fun b o e => F1.keep b o (base_hide F b o e)) F1
    · intro s₀ s₁ ys k' m₁ rest₁ g0 hP g1 F1
      obtain ⟨oC, hoC, hnsC, F2⟩ := comp_back F hit nC F1 (hmv _ _ _ _ _ hP)
      have fz : Go ((s₂.heap.push (lst [] 0)).objs.size :: s₂.heap.objs.size :: X) s₁ ((s₂.heap.push (lst [] 0)).objs.size :: X) s₁ := ⟨⟨rfl, rfl⟩, fun b o h e => ⟨fun q => h (by
        rcases List.mem_cons.mp q with q | q
        · simp [q]
        · simp [q]), e⟩⟩
      refine done _ _ s₀ s₁ ys k' m₁ rest₁ oC _ (g.trans g0) hP (g1.trans fz) (fun q => nC (List.mem_cons_of_mem _ q)) (fun q => ?_) (F1.has (_, lst ys k') (by simp)) hnsC F2
      rcases List.mem_cons.mp q with q | q
      · exact nC (q ▸ List.mem_cons_self)
      · exact nD q
  exact codeAny_compStart_list loop (wpAny_mono (S.again _ o₀ (Fi.has (it, o₀) (by simp)) hio _ loop) (fun _ _ h => h) fun _ _ h => h.elim)

theorem r_listcomp {elt target iter : Expr} {ifs : List Expr} {scope : Scope} {cl : List (Str × Addr)} {pos : Pos} {Q : Value → Shared → Prop} (hclos : closureFor scope env = pure cl) (hkind : scope.kind = .function) (hnames : ∀ x ∈ scope.names, x.2 = .local → scope.names.lookup x.1 = some .local)
    (hs : ∀ x, foldedSetIterable iter env x = pure x)
    (h : W p w A (eval iter env) (fun x s₁ => W p w A (pyIter x) (fun it s₂ => CompK p w A env (.ListComp elt [⟨target, iter, ifs, 0⟩] scope pos) scope cl none Q it s₂) s₁) s) :
    W p w A (eval (.ListComp elt [⟨target, iter, ifs, 0⟩] scope pos) env) Q s := by
  rw [eval_ListComp]
  exact wpAny_comprehension_free (use := none) rfl hs hclos hkind hnames h

/-- the end of a comprehension whose list is a value -/
theorem comp_val {s₁ : Shared} {C D : Addr} {oC : Obj} {ys : List Value} {k : Nat} {mC : Str → Option Value} {Q : Value → Shared → Prop} (F : Fra B s₁ (C :: X) φ m (own ++ [(C, oC)])) (hCX : C ∉ X) (hD : D ∉ C :: X) (hl : s₁.heap.get? D = some (lst ys k)) (hns : s₁.heap.Ns C mC)
    (h : ∀ s₆, Go (C :: X) s₁ X s₆ → Fra B s₆ X φ m own → D ∉ X → s₆.heap.get? D = some (lst ys k) → Q (.ref D) s₆) : compPost (model p w) A NoE none Q (.ref D) C (.ok .next) s₁ := by
  refine ⟨mC, hns, fun h' hs => ?_⟩
  obtain ⟨F2, _, _⟩ := F.freeze
  have g : Go (C :: X) s₁ X { s₁ with heap := h' } := ⟨⟨rfl, rfl⟩, fun b o hb e => ⟨fun q => hb (by simp [q]), hs.extBut b o (fun q => hb (by simp [q])) e⟩⟩
  exact h _ g (F2.ext hCX (F.fresh C (by simp)) hs.extBut) (fun q => hD (by simp [q])) (hs.extBut D _ (fun q => hD (by simp [q])) hl)

/-- a list comprehension whose tests and element only make new things -/
theorem comp_pure {s₂ : Shared} {it : Addr} {o₀ : Obj} {elt target iter : Expr} {ifs : List Expr} {scope : Scope} {cl : List (Str × Addr)} {pos : Pos} {use : Option (Value → Sem Unit)} {Q : Value → Shared → Prop} {n : Nat} {IO : Nat → Obj → Prop} {V : Nat → Value → Prop}
    (F : Fra B s₂ (it :: X) φ m (own ++ [(it, o₀)])) (hio : IO 0 o₀) (hit : it ∉ X) (S : Src p w A s₂ it X n IO V) (hn : n ≤ sizeLine) (hcell : ∀ x ∈ scope.names, x.2 ≠ .cell) (hkind : scope.kind = .function)
    (P : List Addr → Nat → Shared → List Value → Prop)
    (h0 : ∀ C D s₄, Go (it :: X) s₂ (it :: C :: D :: X) s₄ → P (it :: C :: D :: X) 0 s₄ [])
    (turn : ∀ C D i v s₀ s₁ ys k m₁ o B', i < n → V i v → Go (it :: X) s₂ (it :: C :: D :: X) s₀ → P (it :: C :: D :: X) i s₀ ys → Go (it :: C :: D :: X) s₀ (it :: C :: D :: X) s₁ → (∀ b o, b ≠ it → s₂.heap.get? b = some o → B'.get? b = some o) → (∀ b o, B.get? b = some o → B'.get? b = some o) →
      Fra B' s₁ (it :: C :: D :: X) ⟨C, []⟩ m₁ [(D, lst ys k), (it, o)] →
      W p w A (assign target (compEnvC scope cl C env) v) (fun _ s₂' => W p w A (tests ifs (compEnvC scope cl C env)) (fun ok s₃ => if ok = true
        then W p w A (eval elt (compEnvC scope cl C env)) (fun x s₄ => ∃ m₂, Fra B' s₄ (it :: C :: D :: X) ⟨C, []⟩ m₂ [(D, lst ys k), (it, o)] ∧ Go (it :: C :: D :: X) s₁ (it :: C :: D :: X) s₄ ∧ ∀ s₅, Go (it :: C :: D :: X) s₄ (it :: C :: D :: X) s₅ → P (it :: C :: D :: X) (i + 1) s₅ (ys ++ [x])) s₃
        else ∃ m₂, Fra B' s₃ (it :: C :: D :: X) ⟨C, []⟩ m₂ [(D, lst ys k), (it, o)] ∧ Go (it :: C :: D :: X) s₁ (it :: C :: D :: X) s₃ ∧ P (it :: C :: D :: X) (i + 1) s₃ ys) s₂') s₁)
    (done : ∀ C D s₀ s₁ ys k oC mC, Go (it :: X) s₂ (it :: C :: D :: X) s₀ → P (it :: C :: D :: X) n s₀ ys → Go (it :: C :: D :: X) s₀ (C :: X) s₁ → C ∉ X → D ∉ C :: X → s₁.heap.get? D = some (lst ys k) → s₁.heap.Ns C mC → Fra B s₁ (C :: X) φ m (own ++ [(C, oC)]) → compPost (model p w) A NoE use Q (.ref D) C (.ok .next) s₁) :
    CompK p w A env (.ListComp elt [⟨target, iter, ifs, 0⟩] scope pos) scope cl use Q (.ref it) s₂ := by
  have F' : Fra B s₂ (it :: X) φ m (own ++ [] ++ [(it, o₀)]) := by rw [List.append_nil]; exact F
  refine comp_run (mv := []) (own1 := own) F' hio hit S hn hcell hkind (fun X' i s ys m rest => rest = [] ∧ P X' i s ys) (fun C D s₄ g => ⟨rfl, h0 C D s₄ g⟩) ?_ (fun _ _ _ _ _ h => by rw [h.1]) ?_
  · intro C D i v s₀ s₁ ys k m₁ rest₁ o hi hv g0 ⟨e, hP⟩ g1 hB F1
    subst e
    refine wpAny_mono (turn C D i v s₀ s₁ ys k m₁ o _ hi hv g0 hP g1 (fun b o hb e => hideAll_get _ e (by simp [hb])) (base_hide F') F1) (fun _ s' h1 => wpAny_mono h1 (fun ok s₃ h2 => ?_) fun _ _ h => h) fun _ _ h => h
    cases ok with
    | true =>
      simp only [if_true] at h2 ⊢
      refine wpAny_mono h2 (fun x s₄ ⟨m₂, F4, g4, h4⟩ => ⟨m₂, [], F4, g4, fun s₅ g5 => ⟨rfl, h4 s₅ g5⟩⟩) fun _ _ h => h
    | false =>
      simp only [Bool.false_eq_true, if_false] at h2 ⊢
      obtain ⟨m₂, F4, g4, h4⟩ := h2
      exact ⟨m₂, [], F4, g4, rfl, h4⟩
  · intro C D s₀ s₁ ys k m₁ mv' oC mC g0 ⟨e, hP⟩ g1 h1 h2 h3 h4 F2
    subst e
    rw [List.append_nil] at F2
    exact done C D s₀ s₁ ys k oC mC g0 hP g1 h1 h2 h3 h4 F2
end
end Mine
end

-- CompA
section
open PySem PySem.W PyProof.Rows
set_option maxRecDepth 100000
set_option linter.all false
namespace Mine
section
variable {p : Program} {w : World} {A : Around} {s : Shared} {env : Env} {B : Heap} {X : List Addr} {φ : Fm} {m : Str → Option Value} {own : List (Addr × Obj)}
theorem comp_abs {s₂ : Shared} {it : Addr} {o₀ : Obj} {elt target iter : Expr} {ifs : List Expr} {scope : Scope} {cl : List (Str × Addr)} {pos : Pos} {use : Option (Value → Sem Unit)} {Q : Value → Shared → Prop} {n : Nat} {IO : Nat → Obj → Prop} {V : Nat → Value → Prop}
    (F : Fra B s₂ (it :: X) φ m (own ++ [(it, o₀)])) (hio : IO 0 o₀) (hit : it ∉ X) (S : Src p w A s₂ it X n IO V) (hn : n ≤ sizeLine) (hcell : ∀ x ∈ scope.names, x.2 ≠ .cell) (hkind : scope.kind = .function)
    (P : List Addr → Nat → Shared → List Value → Prop)
    (h0 : ∀ C D s₄, Go (it :: X) s₂ (it :: C :: D :: X) s₄ → P (it :: C :: D :: X) 0 s₄ [])
    (turn : ∀ C D i v s₀ s₁ ys k m₁ o B' (Q1 : Value → Shared → Prop) (Q2 : Shared → Prop), i < n → V i v → Go (it :: X) s₂ (it :: C :: D :: X) s₀ → P (it :: C :: D :: X) i s₀ ys → Go (it :: C :: D :: X) s₀ (it :: C :: D :: X) s₁ → (∀ b o, b ≠ it → s₂.heap.get? b = some o → B'.get? b = some o) → (∀ b o, B.get? b = some o → B'.get? b = some o) →
      Fra B' s₁ (it :: C :: D :: X) ⟨C, []⟩ m₁ [(D, lst ys k), (it, o)] →
      (∀ x s₄ m₂, Fra B' s₄ (it :: C :: D :: X) ⟨C, []⟩ m₂ [(D, lst ys k), (it, o)] → Go (it :: C :: D :: X) s₁ (it :: C :: D :: X) s₄ → (∀ s₅, Go (it :: C :: D :: X) s₄ (it :: C :: D :: X) s₅ → P (it :: C :: D :: X) (i + 1) s₅ (ys ++ [x])) → Q1 x s₄) →
      (∀ s₃ m₂, Fra B' s₃ (it :: C :: D :: X) ⟨C, []⟩ m₂ [(D, lst ys k), (it, o)] → Go (it :: C :: D :: X) s₁ (it :: C :: D :: X) s₃ → P (it :: C :: D :: X) (i + 1) s₃ ys → Q2 s₃) →
      W p w A (assign target (compEnvC scope cl C env) v) (fun _ s₂' => W p w A (tests ifs (compEnvC scope cl C env)) (fun ok s₃ => if ok = true then W p w A (eval elt (compEnvC scope cl C env)) Q1 s₃ else Q2 s₃) s₂') s₁)
    (done : ∀ C D s₀ s₁ ys k oC mC, Go (it :: X) s₂ (it :: C :: D :: X) s₀ → P (it :: C :: D :: X) n s₀ ys → Go (it :: C :: D :: X) s₀ (C :: X) s₁ → C ∉ X → D ∉ C :: X → s₁.heap.get? D = some (lst ys k) → s₁.heap.Ns C mC → Fra B s₁ (C :: X) φ m (own ++ [(C, oC)]) → compPost (model p w) A NoE use Q (.ref D) C (.ok .next) s₁) :
    CompK p w A env (.ListComp elt [⟨target, iter, ifs, 0⟩] scope pos) scope cl use Q (.ref it) s₂ :=
  comp_pure F hio hit S hn hcell hkind P h0 (fun C D i v s₀ s₁ ys k m₁ o B' hi hv g0 hP g1 hb hB F1 => turn C D i v s₀ s₁ ys k m₁ o B' _ _ hi hv g0 hP g1 hb hB F1 (fun _ _ m₂ F4 g4 h4 => ⟨m₂, F4, g4, h4⟩) fun _ m₂ F4 g4 h4 => ⟨m₂, F4, g4, h4⟩) done
end
end Mine
end

-- Lib
section
open PySem PySem.W PyProof.Rows
set_option maxRecDepth 100000
set_option linter.all false
namespace Mine
section
variable {p : Program} {w : World} {A : Around} {s : Shared} {env : Env} {B : Heap} {X : List Addr} {φ : Fm} {m : Str → Option Value} {own : List (Addr × Obj)}

theorem noDict_of {h : Heap} {a : Addr} {o : Obj} (e : h.get? a = some o) (hd : o.dict = none) : h.NoDictAt (.ref a) := ⟨o, e, hd⟩

theorem r_method_extend {a : Addr} {vs : List Value} {n : Nat} {pl : Sem Bool} {Q : Value × List Value → Shared → Prop} (ho : s.heap.get? a = some (lst vs n)) (h : Q (.builtin "list.extend", [.ref a]) s) :
    W p w A (getMethod (.ref a) "extend" pl) Q s := getMethod_list_of PySem.F.slot_list_extend PySem.F.type_list_extend (isList_of ho) (noDict_of ho rfl) h

/-- extend the k-th owned list by a list -/
theorem r_extend {a b : Addr} {vs ws : List Value} {n n2 : Nat} {Q : Value → Shared → Prop} (F : Fra B s X φ m own) (k : Nat) (hk : own[k]? = some (a, lst vs n)) (hb : s.heap.get? b = some (lst ws n2))
    (h : ∀ s' n', Go X s X s' → Fra B s' X φ m (own.set k (a, lst (vs ++ ws) n')) → Q .none s') (hsz : vs.length + ws.length ≤ sizeLine) : W p w A (call (.builtin "list.extend") [.ref a, .ref b]) Q s := by
  have ho := F.at hk
  have hsz' : vs.toArray.size + ws.toArray.size ≤ sizeLine := by simpa using hsz
  refine call_meets PySem.F.slot_list_extend ⟨_, ho, rfl⟩ PySem.F.entry_list_extend (PySem.F.args_list_extend_2 _ _) (AutoSeq1.list_extend_list_list_0 a vs.toArray n b ws.toArray n2 (extend_door hsz') (Nat.le_trans (Nat.le_add_right _ _) hsz')) ⟨ho, hb, ?_⟩
  have ho' : (s.heap.update a (Obj.mapSeq fun x => x ++ ws.toArray)).get? a = some (lst (vs ++ ws) (if (vs.toArray ++ ws.toArray).size == vs.toArray.size then n else n + 1)) := by
    rw [Heap.get?_update_self _ ho (by unfold lst; rw [mapSeq_app]; rfl)]; unfold lst; rw [mapSeq_app]; simp
  obtain ⟨F', g⟩ := F.setO (s' := { s with heap := s.heap.update a (Obj.mapSeq fun x => x ++ ws.toArray) }) hk (Heap.SameBut.update ..) ho' ⟨rfl, rfl⟩
  exact h _ _ g F'

/-! data that are read -/
def Rd {α : Type} (R : Rel α) (enc : α → PyData) : Prop := ∀ h X v a, R h X v a → ∃ as, Reads h v (enc a) as
theorem rdInt : Rd RInt .int := fun _ _ _ _ ⟨t, e⟩ => ⟨[], e ▸ .int _ t⟩
theorem rdStr : Rd RStr .str := fun _ _ _ _ ⟨t, e⟩ => ⟨[], e ▸ .str _ t⟩
theorem rdBool : Rd RBool .bool := fun _ _ _ _ e => ⟨[], e ▸ .bool _⟩
theorem rdAll {α : Type} {R : Rel α} {enc : α → PyData} (r : Rd R enc) {h X} : ∀ {vs l}, All2 (R h X) vs l → ∃ as, ReadsAll h vs (l.map enc) as
  | _, _, .nil => ⟨[], .nil⟩
  | _, _, .cons x t => let ⟨_, h1⟩ := r _ _ _ _ x; let ⟨_, h2⟩ := rdAll r t; ⟨_, .cons h1 h2⟩
theorem rdList {α : Type} {R : Rel α} {enc : α → PyData} (r : Rd R enc) : Rd (RList R) (fun l => .list (l.map enc)) := fun _ _ _ _ ⟨a, vs, n, e, _, ho, al⟩ => by
  obtain ⟨as, h⟩ := rdAll r al
  subst e
  exact ⟨_, Reads.list (as := as) ho rfl rfl (by simpa using h)⟩

/-- list != the empty list -/
theorem r_ne_nil {a b : Addr} {vs : List Value} {n n2 : Nat} {Q : Value → Shared → Prop} (hA : Rm A 1) (ha : s.heap.get? a = some (lst vs n)) (hb : s.heap.get? b = some (lst [] n2)) (h : Q (.bool (!vs.isEmpty)) s) :
    W p w A (compareOp .NotEq (.ref a) (.ref b)) Q s := by
  have hu : A.units < cLine := by have := hA.units; omega
  cases vs with
  | nil =>
    have := (SeqAt.RcNeAt.lists (A := A) (e := fun _ => true) (isList_of ha) (isList_of hb) rfl hu (fun j h1 h2 => absurd h1 (by simp))) p w NoE Q (by simpa using h)
    exact this
  | cons v r =>
    exact (SeqAt.RcNeAt.lists_lengths (A := A) (isList_of ha) (isList_of hb) (by simp) hu) p w NoE Q (by simpa using h)

def RNat : Rel Nat := fun _ _ v i => ∃ t, v = .int (i : Int) t
theorem mNat : Mono RNat := fun _ _ _ h => h
theorem rdNat : Rd RNat (fun n => .int n) := fun _ _ _ _ ⟨t, e⟩ => ⟨[], e ▸ .int _ t⟩

/-- an item of a list -/
theorem r_item {value slice : Expr} {a : Addr} {vs : List Value} {n i : Nat} {t : Tok} {v : Value} {Q : Value → Shared → Prop} (ha : s.heap.get? a = some (lst vs n)) (hi : i < 2 ^ 62) (hv : vs[i]? = some v) (h : Q v s)
    (hs : subscripted slice false (.ref a) (.int i t) = operate [.ref a, .int i t] (getItem (.ref a) (.int i t)) := by with_unfolding_all rfl) :
    W p w A (subscriptTail value slice (.ref a) (.int i t)) Q s :=
  tail_any (isList_of ha).typeIs slot_list_getitem.lookup (wpAny_getItem_list (isList_of ha) (by omega) (by omega) (by simpa using hv) h) hs

/-- an int among a list of ints -/
theorem r_in_nats {a : Addr} {vs : List Value} {n : Nat} {l : List Nat} {x : Nat} {t : Tok} {X' : List Addr} {h' : Heap} {Q : Value → Shared → Prop} (ha : s.heap.get? a = some (lst vs n)) (hl : All2 (RNat h' X') vs l) (h : Q (.bool (l.contains x)) s) :
    W p w A (compareOp .In (.int x t) (.ref a)) Q s := by
  refine SeqAt.in_listAt (fun v => match v with | .int i _ => i == (x : Int) | _ => false) (isList_of ha) (fun y hy => ?_) ?_
  · obtain ⟨i, hi⟩ := List.mem_iff_getElem?.mp (by simpa using hy : y ∈ vs)
    obtain ⟨b, _, u, e⟩ := hl.get hi
    subst e; exact SeqAt.EqAt.int_int _ _ _ _
  · have : vs.toArray.any (fun v => match v with | .int i _ => i == (x : Int) | _ => false) = l.contains x := by
      rw [List.any_toArray]
      clear ha h
      induction hl with
      | nil => rfl
      | cons hx _ ih =>
        obtain ⟨u, e⟩ := hx; subst e
        simp only [List.any_cons, ih, List.contains_cons]
        congr 1
        rw [Bool.eq_iff_iff]; simp; omega
    rw [this]; exact h
end
end Mine
end

-- Fun
section
open PySem PySem.W PyProof.Rows
set_option maxRecDepth 100000
set_option linter.all false
namespace Mine
section
variable {p : Program} {w : World} {A : Around} {s : Shared} {env : Env} {B : Heap} {X : List Addr} {φ : Fm} {m : Str → Option Value} {own : List (Addr × Obj)} {mg mb : Str → Option Value}

/-- kept but for M -/
def KB (M : List Addr) (s s' : Shared) : Prop := SG s s' ∧ Kp M s s'
theorem KB.go {M s s'} (k : KB M s s') (h : ∀ x ∈ M, x ∈ X) : Go X s X s' := ⟨k.1, fun b o hb e => ⟨hb, k.2 b o (fun q => hb (h b q)) e⟩⟩
theorem KB.get {M s s'} (k : KB M s s') {b o} (h : b ∉ M) (e : s.heap.get? b = some o) : s'.heap.get? b = some o := k.2 b o h e

theorem Fra.kb {s' : Shared} {M : List Addr} {own' : List (Addr × Obj)} (F : Fra B s X φ m own) (k : KB M s s') (hM : ∀ x ∈ M, x ∈ own.map (·.1)) (hadr : own'.map (·.1) = own.map (·.1)) (hown : ∀ q ∈ own', s'.heap.get? q.1 = some q.2) : Fra B s' X φ m own' := by
  have nM : ∀ x ∈ φ.adr, x ∉ M := fun x hx q => F.ne hx (hM x q) rfl
  refine ⟨fun b o e => k.get (fun q => ?_) (F.keep b o e), hadr ▸ F.fresh, ?_, fun x c e => cell_keeps (F.cell x c e) fun o e' => k.get (nM _ (Fm.mem e)) e', hown, hadr ▸ F.nd, hadr ▸ F.inX, fun x hx => ?_⟩
  · rw [F.fresh b (List.mem_append_right _ (hM b q))] at e; cases e
  · obtain ⟨ml, n1, n2⟩ := F.ns
    exact ⟨ml, ns_keeps n1 fun o e => k.get (nM _ (by simp [Fm.adr])) e, n2⟩
  · by_cases q : x ∈ own.map (·.1)
    · rw [← hadr] at q
      obtain ⟨z, hz, rfl⟩ := List.mem_map.mp q
      exact ⟨_, hown z hz⟩
    · obtain ⟨o, e⟩ := F.live x hx; exact ⟨o, k.get (fun q' => q (hM x q')) e⟩

/-- one owned object is turned by a call -/
theorem Fra.kb1 {s' : Shared} {k : Nat} {a : Addr} {o o' : Obj} (F : Fra B s X φ m own) (hk : own[k]? = some (a, o)) (kb : KB [a] s s') (ho : s'.heap.get? a = some o') : Fra B s' X φ m (own.set k (a, o')) ∧ Go X s X s' := by
  have mem : (a, o) ∈ own := List.mem_of_getElem? hk
  have am : a ∈ own.map (·.1) := List.mem_map_of_mem mem (f := (·.1))
  refine ⟨F.kb kb (by simpa using am) (own_set hk) fun q hq => ?_, kb.go (by simpa using F.inX a (List.mem_append_right _ am))⟩
  obtain ⟨i, hi⟩ := List.mem_iff_getElem?.mp hq
  rw [List.getElem?_set] at hi
  by_cases e : k = i
  · subst e
    have hlt := (List.getElem?_eq_some_iff.mp hk).1
    simp [hlt] at hi
    subst hi; exact ho
  · simp only [e, if_false] at hi
    have pm : q ∈ own := List.mem_of_getElem? hi
    refine kb.get (fun e1 => ?_) (F.has q pm)
    simp at e1
    have nd := (List.nodup_append.mp F.nd).2.1
    have h1 : (own.map (·.1))[k]? = some a := by simp [hk]
    have h2 : (own.map (·.1))[i]? = some a := by simp [hi, e1]
    exact e ((List.getElem?_inj (by have := (List.getElem?_eq_some_iff.mp hk).1; simpa using this) nd).mp (h1.trans h2.symm))

theorem lookup_of_mem {α β : Type} [BEq α] [LawfulBEq α] : ∀ {l : List (α × β)}, (l.map (·.1)).Nodup → ∀ {z : α × β}, z ∈ l → l.lookup z.1 = some z.2
  | (y, d) :: r, nd, z, hz => by
    rw [List.lookup_cons]
    have ⟨n1, n2⟩ := List.nodup_cons.mp nd
    rcases List.mem_cons.mp hz with h | h
    · subst h; simp
    · have : (z.1 == y) = false := by
        have : z.1 ≠ y := fun q => n1 (q ▸ List.mem_map_of_mem h (f := (·.1)))
        simpa using this
      rw [this]; exact lookup_of_mem n2 h

/-- the names at a call's start, cells too -/
noncomputable def m0 (a : Nat) (L : Addr) (binds : List (Str × Value)) : Str → Option Value := fun x => match (cellsFrom (L + 1) (fd a).scope.names []).lookup x with
  | none => bindL (enC a L).kindOf binds (fun _ => none) x
  | some _ => bindC (enC a L).kindOf binds (fun _ => none) x
noncomputable def cadr (L : Addr) (a : Nat) : List Addr := L :: (cellsFrom (L + 1) (fd a).scope.names []).map (·.2)

theorem enterC {a k : Nat} {mv : List (Addr × Obj)} {vals : List Value} {binds : List (Str × Value)} {Q : Value → Shared → Prop} (G : Gd w mg mb s.heap) (lv : Liv s X) (hmv : ∀ q ∈ mv, s.heap.get? q.1 = some q.2) (hmX : ∀ q ∈ mv, q.1 ∈ X) (hnd : (mv.map (·.1)).Nodup) (hA : Rm A (k + 1))
    (ho : (hd.heap_1 w.params).lookup a = some (objAt a)) (hdat : (objAt a).data = .func (fd a)) (hbody : (fd a).body = .stmts (bd a)) (hcd : codeIn (hd.heap_1 w.params) (fd a).code (fd a).qualname = true)
    (hbind : bindArgs (fd a) ⟨vals, []⟩ = pure binds) (hclo : (fd a).closure = [])
    (hkind : ∀ L, ∀ x ∈ binds, (fd a).scope.names.lookup x.1 = some .local ∨ ((fd a).scope.names.lookup x.1 = some .cell ∧ ((cellsFrom (L + 1) (fd a).scope.names []).lookup x.1).isSome = true))
    (hcn : ∀ L, ((cellsFrom (L + 1) (fd a).scope.names []).map (·.1)).Nodup) (hco : (fd a).scope.isCoroutine = false) (hgen : (fd a).scope.isGenerator = false) (hk : (fd a).scope.kind = .function)
    (h : ∀ s₁ L, (∀ x ∈ cadr L a, x ∉ X) → Go X s (cadr L a ++ X) s₁ → Kept s s₁ → Rm (A.deeper (enC a L)) k → Fra (hideAll s.heap (mv.map (·.1))) s₁ (cadr L a ++ X) ⟨L, cellsFrom (L + 1) (fd a).scope.names []⟩ (m0 a L binds) mv →
      W p w (A.deeper (enC a L)) (execs (bd a) (enC a L)) (fun f s' => Q (match f with | .ret v => v | _ => .none) s') s₁) :
    W p w A (call (.ref a) vals) Q s := by
  refine wpAny_call (codeAny_call_cells (fd := fd a) (body := bd a) (binds := binds) (by have := hA.depth; omega) (G.K _ _ ho) hdat G.nolimit (codeRec_of G.K hcd) hbody hbind hclo (hkind _) (fun s₁ I => ?_) hco hgen hk)
  have sg : SG s s₁ := by obtain ⟨h, tk, e⟩ := I.toInCall.same; rw [e]; exact ⟨rfl, rfl⟩
  have kp : ∀ b o, s.heap.get? b = some o → s₁.heap.get? b = some o := I.toInCall.keep
  have cells : ∀ x ∈ cadr s.heap.objs.size a, s.heap.objs.size ≤ x := fun x hx => by
    rcases List.mem_cons.mp hx with h | h
    · exact h ▸ Nat.le_refl _
    · obtain ⟨q, hq, rfl⟩ := List.mem_map.mp h
      exact Nat.le_of_lt (I.above q.1 q.2 hq)
  have nb : ∀ x ∈ cadr s.heap.objs.size a, ∀ b o, s.heap.get? b = some o → b ≠ x := fun x hx b o e => Nat.ne_of_lt (Nat.lt_of_lt_of_le (Heap.lt_size e) (cells x hx))
  have nX : ∀ x ∈ cadr s.heap.objs.size a, x ∉ X := fun x hx q => by obtain ⟨o, e⟩ := lv x q; exact nb x hx x o e rfl
  have fr : ∀ x ∈ cadr s.heap.objs.size a, (hideAll s.heap (mv.map (·.1))).get? x = none := fun x hx => by
    cases q : (hideAll s.heap (mv.map (·.1))).get? x with
    | none => rfl
    | some o => exact absurd rfl (nb x hx x o (of_hideAll _ q))
  have kept : Kept s s₁ := ⟨sg, fun b o _ e => ⟨by simp, kp b o e⟩⟩
  have hcs : ∀ x c, (cellsFrom (s.heap.objs.size + 1) (fd a).scope.names []).lookup x = some c → s₁.heap.IsCell c (bindC (enC a s.heap.objs.size).kindOf binds (fun _ => none) x) := fun x c e => I.cell x c e
  refine wpAny_mono (h s₁ s.heap.objs.size nX ⟨sg, fun b o hb e => ⟨fun q => ?_, kp b o e⟩⟩ kept (hA.deeper _) ⟨fun b o e => kp b o (of_hideAll _ e), fun x hx => ?_, ⟨_, I.toInCall.ns, fun x hx => ?_⟩, fun x c e => ?_, fun q hq => kp _ _ (hmv q hq), ?_, fun x hx => ?_, fun x hx => ?_⟩) (fun f s' h' => h') (fun _ _ h => h.elim)
  · rcases List.mem_append.mp q with q | q
    · exact nb b q b o e rfl
    · exact hb q
  · rcases List.mem_append.mp hx with h | h
    · exact fr x h
    · exact hideAll_none _ h
  · have : (cellsFrom (s.heap.objs.size + 1) (fd a).scope.names []).lookup x = none := hx
    show _ = m0 a s.heap.objs.size binds x
    unfold m0; rw [this]; rfl
  · have h1 : (cellsFrom (s.heap.objs.size + 1) (fd a).scope.names []).lookup x = some c := e
    have : m0 a s.heap.objs.size binds x = bindC (enC a s.heap.objs.size).kindOf binds (fun _ => none) x := by unfold m0; rw [h1]
    rw [this]; exact hcs x c h1
  · refine List.nodup_append.mpr ⟨List.nodup_cons.mpr ⟨fun q => ?_, ?_⟩, hnd, fun x hx y hy => ?_⟩
    · obtain ⟨z, hz, e⟩ := List.mem_map.mp q
      have hz' : (z.1, z.2) ∈ cellsFrom (s.heap.objs.size + 1) (fd a).scope.names [] := hz
      have := I.above z.1 z.2 hz'
      rw [e] at this
      exact Nat.lt_irrefl _ this
    · have := I.apart
      rw [List.Nodup, List.pairwise_map]; exact this
    · obtain ⟨z, hz, rfl⟩ := List.mem_map.mp hy
      exact (nb x hx z.1 _ (hmv z hz)).symm
  · rcases List.mem_append.mp hx with h | h
    · exact List.mem_append_left _ h
    · obtain ⟨z, hz, rfl⟩ := List.mem_map.mp h
      exact List.mem_append_right _ (hmX z hz)
  · rcases List.mem_append.mp hx with h | h
    · rcases List.mem_cons.mp h with h | h
      · obtain ⟨o, _, _, e, _⟩ := I.toInCall.ns; exact ⟨o, h ▸ e⟩
      · obtain ⟨z, hz, rfl⟩ := List.mem_map.mp h
        obtain ⟨o, e, _⟩ := hcs z.1 z.2 (lookup_of_mem (hcn _) hz)
        exact ⟨o, e⟩
    · obtain ⟨o, e⟩ := lv x h; exact ⟨o, kp x o e⟩

/-- a table of codes: empty, or it knows the code at pos -/
def TabOk (h : Heap) (X : List Addr) (pos : Pos) (qual : Str) (ps : Array Value) : Prop :=
  ps = #[] ∨ ∃ c' o vs t, ps = #[rawInt pos.line, rawInt pos.col, .ref c'] ∧ c' ∉ X ∧ h.get? c' = some o ∧ o.data = .fields vs ∧ vs[1]? = some (.str qual t)
theorem TabOk.go {X' : List Addr} {s' : Shared} {pos qual ps} (h : TabOk s.heap X pos qual ps) (g : Go X s X' s') : TabOk s'.heap X' pos qual ps := by
  rcases h with h | ⟨c', o, vs, t, e, hX, ho, r⟩
  · exact .inl h
  · have ⟨a, b⟩ := g.2 c' o hX ho
    exact .inr ⟨c', o, vs, t, e, a, b, r⟩

theorem set_self {α : Type} {l : List α} {k : Nat} {x : α} (h : l[k]? = some x) : l.set k x = l := by
  apply List.ext_getElem?
  intro i
  rw [List.getElem?_set]
  by_cases q : k = i
  · subst q
    have := (List.getElem?_eq_some_iff.mp h).1
    simp [this]; exact ((List.getElem?_eq_some_iff.mp h).2).symm
  · simp [q]

/-- a lambda made -/
theorem r_lambda {params : Arguments} {body : Expr} {scope : Scope} {pos : Pos} {clos : List (Str × Addr)} {c P : Addr} {ps : Array Value} {Q : Value → Shared → Prop} (G : Gd w mg mb B) (F : Fra B s X φ m own) (k : Nat) (hk : own[k]? = some (P, tabObj ps)) (C : CodeHd B c P)
    (ht : TabOk s.heap X pos (env.qual ++ "<lambda>") ps) (hcl : closureFor scope env = pure clos) (hdef : defaultsOf params env = ([], [])) (hge : env.globals = mainGlobals) (hcode : env.code = .ref c)
    (h : ∀ s' f pm c' ctv ps', Go X s X s' → Fra B s' X φ m (own.set k (P, tabObj ps')) → TabOk s'.heap X pos (env.qual ++ "<lambda>") ps' → f ∉ X → s'.heap.get? f = some (kla_obj "<lambda>" (env.qual ++ "<lambda>") params body scope clos pm c' ctv) → s'.heap.CodeRec (.ref c') (env.qual ++ "<lambda>") → Q (.ref f) s') :
    W p w A (eval (.Lambda params body scope pos) env) Q s := by
  refine kla_eval hdef ?_
  have hP := F.at hk
  have mem : (P, tabObj ps) ∈ own := List.mem_of_getElem? hk
  have am : P ∈ own.map (·.1) := List.mem_map_of_mem mem (f := (·.1))
  have PX : P ∈ X := F.inX P (List.mem_append_right _ am)
  have hgs := G.g.keeps F.keep
  obtain ⟨bm, ob, b1, b2, b3, b4, b5, b6⟩ := G.bm
  have hgP : mainGlobals ≠ P := fun q => by
    obtain ⟨o, es, ep, e, hd, _⟩ := hgs
    rw [q, hP] at e; cases e; cases hd
  have hbP : bm ≠ P := fun q => by
    have e := F.keep _ _ b3
    rw [q, hP] at e; cases e; cases b4
  have hbG : bm ≠ mainGlobals := fun q => by
    obtain ⟨o, es, ep, e, hd, _⟩ := G.g
    rw [q, e] at b3; cases b3; rw [hd] at b6; cases b6
  have lX : ∀ x ∈ X, x < s.heap.objs.size := fun x hx => let ⟨o, e⟩ := F.live x hx; Heap.lt_size e
  rcases ht with e | ⟨c', oc, vs, t, e, hX, ho, hdat, hv⟩
  · subst e
    refine kla_makeFunction (mg := mg) hcl hge hgs hcode (C.keeps F.keep) hP (by exact trivial) rfl hgP ⟨bm, ob, b1, b2, hbG, hbP, F.keep _ _ b3, b4, b5, b6⟩ fun c' ctv h' tk hx hge' hlt hrec htb => ?_
    generalize hfo : kla_obj "<lambda>" (env.qual ++ "<lambda>") params body scope clos ((mg "__name__").getD .none) c' ctv = fo
    have hff : fo.isFreed = false := by rw [← hfo]; rfl
    have kb : KB [P] s { s with heap := h'.push fo, toks := tk } := ⟨⟨rfl, rfl⟩, fun b o hb e => Heap.get?_push_of_some _ (hx b o (by simpa using hb) e)⟩
    obtain ⟨F', g⟩ := F.kb1 (o' := tabObj #[rawInt pos.line, rawInt pos.col, .ref c']) hk kb (Heap.get?_push_of_some _ htb)
    have c'X : c' ∉ X := fun q => Nat.lt_irrefl _ (Nat.lt_of_lt_of_le (lX c' q) hge')
    have fX : h'.objs.size ∉ X := fun q => Nat.lt_irrefl _ (Nat.lt_trans (Nat.lt_of_lt_of_le (lX _ q) hge') hlt)
    obtain ⟨c2, oc, vs, t, e2, hoc, hd2, hv2⟩ := hrec
    cases e2
    refine h { s with heap := h'.push fo, toks := tk } _ ((mg "__name__").getD .none) c' ctv #[rawInt pos.line, rawInt pos.col, .ref c'] g F' (.inr ⟨c', oc, vs, t, rfl, c'X, Heap.get?_push_of_some _ hoc, hd2, hv2⟩) fX ?_ ⟨c', oc, vs, t, rfl, Heap.get?_push_of_some _ hoc, hd2, hv2⟩
    rw [hfo]; exact Heap.get?_push_size _ hff
  · subst e
    refine kla_makeFunctionHit (mg := mg) (cv := .ref c') hcl hge hgs hcode (C.keeps F.keep) hP (by exact trivial) (by simp [codeAmong, rawInt]) ⟨bm, ob, b1, b2, hbG, hbP, F.keep _ _ b3, b4, b5, b6⟩ fun ctv h' tk hk' hsz => ?_
    show Q (.ref h'.objs.size) { s with heap := h'.push (kla_obj "<lambda>" (env.qual ++ "<lambda>") params body scope clos ((mg "__name__").getD .none) c' ctv), toks := tk }
    generalize hfo : kla_obj "<lambda>" (env.qual ++ "<lambda>") params body scope clos ((mg "__name__").getD .none) c' ctv = fo
    have hff : fo.isFreed = false := by rw [← hfo]; rfl
    have kt : Kept s { s with heap := h'.push fo, toks := tk } := ⟨⟨rfl, rfl⟩, fun b o _ e => ⟨by simp, Heap.get?_push_of_some _ (hk' b o e)⟩⟩
    have F' : Fra B { s with heap := h'.push fo, toks := tk } X φ m (own.set k (P, tabObj #[rawInt pos.line, rawInt pos.col, .ref c'])) := by
      rw [set_self hk]; exact F.kept kt
    have fX : h'.objs.size ∉ X := fun q => Nat.lt_irrefl _ (Nat.lt_of_lt_of_le (lX _ q) hsz)
    refine h { s with heap := h'.push fo, toks := tk } _ ((mg "__name__").getD .none) c' ctv _ (kt.go X) F' (.inr ⟨c', oc, vs, t, rfl, hX, kt.get ho, hdat, hv⟩) fX ?_ ⟨c', oc, vs, t, rfl, kt.get ho, hdat, hv⟩
    rw [hfo]; exact Heap.get?_push_size _ hff

theorem r_free {x : Str} {pos : Pos} {v : Value} {c : Addr} {Q : Value → Shared → Prop} (hv : s.heap.IsCell c (some v)) (h : Q v s)
    (hk : env.scope.kind = .function := by rfl) (hl : env.kindOf x = some .free := by rfl) (he : env.cells.lookup x = some c := by rfl) (hn : (x == ("__classdict__" : Str)) = false := by rfl) (hd : (x == ("__debug__" : Str)) = false := by rfl) :
    W p w A (eval (.Name x pos) env) Q s := wpAny_Name (wpAny_loadName_free hk hl he hv h hn) hd
theorem r_cellB {x : Str} {pos : Pos} {v : Value} {c : Addr} {Q : Value → Shared → Prop} (hv : s.heap.IsCell c (some v)) (h : Q v s)
    (hk : env.scope.kind = .function := by rfl) (hl : env.kindOf x = some .cell := by rfl) (he : env.cells.lookup x = some c := by rfl) (hd : (x == ("__debug__" : Str)) = false := by rfl) :
    W p w A (eval (.Name x pos) env) Q s := wpAny_Name (wpAny_loadName_cell hk hl he hv h) hd

/-- a call of a lambda -/
theorem enterL {f : Addr} {k : Nat} {name qual : Str} {params : Arguments} {body : Expr} {scope : Scope} {clos : List (Str × Addr)} {pm ctv : Value} {c' : Addr} {vals : List Value} {binds : List (Str × Value)} {Q : Value → Shared → Prop} (G : Gd w mg mb s.heap) (lv : Liv s X) (hA : Rm A (k + 1))
    (hf : s.heap.get? f = some (kla_obj name qual params body scope clos pm c' ctv)) (hcd : s.heap.CodeRec (.ref c') qual)
    (hbind : bindArgs (kla_fn name qual params body scope clos pm (.ref c') ctv) ⟨vals, []⟩ = pure binds) (hcell : ∀ x ∈ scope.names, x.2 ≠ .cell) (hloc : ∀ x ∈ binds, scope.names.lookup x.1 = some .local)
    (hco : scope.isCoroutine = false) (hgen : scope.isGenerator = false) (hk : scope.kind = .function)
    (h : ∀ s₁ L, L ∉ X → Go X s (L :: X) s₁ → Kept s s₁ → Rm (A.deeper (callEnv (kla_fn name qual params body scope clos pm (.ref c') ctv) L f)) k → Fra s.heap s₁ (L :: X) ⟨L, []⟩ (fun x => binds.reverse.lookup x) [] →
      W p w (A.deeper (callEnv (kla_fn name qual params body scope clos pm (.ref c') ctv) L f)) (eval body (callEnv (kla_fn name qual params body scope clos pm (.ref c') ctv) L f)) Q s₁) :
    W p w A (call (.ref f) vals) Q s := by
  refine wpAny_call (kla_callFunE (fd := kla_fn name qual params body scope clos pm (.ref c') ctv) (by have := hA.depth; omega) hf rfl hco hgen rfl hcd ?_)
  rw [hbind]
  have lt : ∀ {b o}, s.heap.get? b = some o → b ≠ s.heap.objs.size := fun e => Nat.ne_of_lt (Heap.lt_size e)
  have nX : s.heap.objs.size ∉ X := fun q => by obtain ⟨o, e⟩ := lv _ q; exact lt e rfl
  refine wpAny_pure (wpAny_newFunctionEnv hcell hloc (fun h₁ hns hsb => ⟨G.nolimit.fresh _ hsb, ?_⟩) hk)
  have hk₀ : ∀ b o, s.heap.get? b = some o → h₁.get? b = some o := fun b o e => hsb.extBut b o (Nat.ne_of_lt (Heap.lt_size e)) (Heap.get?_push_of_some _ e)
  refine kla_codeExpr (wpAny_mono (h _ s.heap.objs.size nX ⟨⟨rfl, rfl⟩, fun b o hb e => ⟨by simp [hb, lt e], hk₀ b o e⟩⟩ ⟨⟨rfl, rfl⟩, fun b o hb e => ⟨by simp, hk₀ b o e⟩⟩ (hA.deeper _) ⟨hk₀, fun x hx => ?_, ⟨_, hns, fun _ _ => rfl⟩, (fun x c h => nomatch h), (fun _ h => nomatch h), by simp [Fm.adr], by simp [Fm.adr], fun x hx => ?_⟩) (fun f s' h' => h') (fun _ _ h => h.elim))
  · simp [Fm.adr] at hx; subst hx
    cases q : s.heap.get? s.heap.objs.size with
    | none => rfl
    | some o => exact absurd rfl (lt q)
  · rcases List.mem_cons.mp hx with h | h
    · obtain ⟨o, _, _, e, _⟩ := hns; exact ⟨o, h ▸ e⟩
    · obtain ⟨o, e⟩ := lv x h; exact ⟨o, hk₀ x o e⟩
end
end Mine
end

-- Parted
section
open PySem PySem.W PyProof.Rows
set_option maxRecDepth 100000
set_option linter.all false
namespace Mine
local macro_rules | `(tactic| walk_at "lkp") => `(tactic| first | assumption | exact upd_same | (refine lks (sne (by decide)) ?_; walk_at "lkp"))
section
variable {p : Program} {w : World} {A : Around} {s : Shared} {X : List Addr} {mg mb : Str → Option Value}

def sides {α : Type} (f : α → Bool) (l : List α) : List (List α) := [l.filter f, l.filter (fun a => !f a)].filter (fun x => !x.isEmpty)
def parted {α : Type} (f : α → Bool) (parts : List (List α)) : List (List α) := parts.flatMap (sides f)
theorem sides_len {α : Type} (f : α → Bool) (l : List α) : (sides f l).length ≤ 2 := List.length_filter_le _ _

inductive PT1 {α : Type} (R : Rel α) (l : List (List α)) (f : α → Bool) (X' : List Addr) (aP pa : Addr) (i : Nat) (s : Shared) (m : Str → Option Value) (own : List (Addr × Obj)) : Prop
  | mk (ys : List Value) (ny : Nat) (e : own = [(aP, lst ys ny)]) (q1 : m "parted" = some (.ref aP)) (q2 : m "ask" = some (.ref pa)) (q3 : All2 (RList R s.heap X') ys (parted f (l.take i))) (q4 : ys.length ≤ 2 * i)
theorem parted_spec {α : Type} {R : Rel α} (mr : Mono R) {k : Nat} {v1 : Value} {pa : Addr} {po : Obj} {pf : FuncData} {l : List (List α)} {f : α → Bool} {Q : Value → Shared → Prop}
    (G : Gd w mg mb s.heap) (lv : Liv s X) (hA : Rm A (k + 3)) (hl : RList (RList R) s.heap X v1 l) (hpo : s.heap.get? pa = some po) (hpf : po.data = .func pf) (hlen : l.length ≤ 100) (hlen2 : ∀ x ∈ l, x.length ≤ 100)
    (hp : ∀ A' s₁ X' v a, Rm A' (k + 1) → Kept s s₁ → R s₁.heap X' v a → (∃ x ∈ l, a ∈ x) → ∀ Q : Value → Shared → Prop, (∀ s₂, Kept s₁ s₂ → Q (.bool (f a)) s₂) → W p w A' (call (.ref pa) [v]) Q s₁)
    (h : ∀ s' r, Kept s s' → RList (RList R) s'.heap X r (parted f l) → Q r s') : W p w A (call (.ref 96) [v1, .ref pa]) Q s := by
  refine enter (k := k + 2) (binds := [("parts", v1), ("ask", .ref pa)]) G lv hA rfl rfl rfl rfl (.of_eq rfl) (by decide) (locs rfl) rfl rfl rfl ?_
  intro s₁ L hLX g1 k1 hA1 F0
  refine wp_gen fun Q0 hQ0 => ?_
  obtain ⟨m, F1, m1, m2⟩ : ∃ m, Fra s.heap s₁ (L :: X) ⟨L, []⟩ m [] ∧ m "parts" = some v1 ∧ m "ask" = some (.ref pa) := ⟨_, F0, rfl, rfl⟩
  clear F0
  refine wpAny_execs_cons (wpAny_Assign_Name (List_ (args_nil (r_newListO F1 ?_))))
  intro s₂ aP nP g2 F2
  refine r_store F2 ?_
  intro s₃ g3 F3
  obtain ⟨a, vs, n, rfl, haX, ha, har⟩ := hl
  have g13 := g1.trans (g2.trans g3)
  have ha3 := g13.2 a _ haX ha
  refine wpAny_execs_cons (wpAny_For (r_loc F3 (by walk_at "lkp") ?_))
  refine it_list hA1.handled F3 ha3.2 ha3.1 ?_
  intro s4 it io IO hit g4 F4 hio S
  refine loop_abs _ _ _ F4 hio hit S (fun i s m own => PT1 R l f (it :: aP :: L :: X) aP pa i s m own) ?_ ?_ ?_
  · exact ⟨[], 0, rfl, by walk_at "lkp", by walk_at "lkp", .nil, by simp⟩
  · intro i v s₀ s5 m₁ own₁ o Q1 hi hv g0 hP g05 F5 hQ1
    obtain ⟨ys, ny, rfl, q1, q2, q3, q4⟩ := hP
    refine wpAny_assign_Name (r_store F5 ?_)
    intro s6 g6 F6
    obtain ⟨x, hx, hR⟩ := har.get hv
    have g06 := g05.trans g6
    have gg := g13.trans (g4.trans (g0.trans g06))
    have kk := F6.toKept gg.1
    have hR6 := mList mr gg hR
    have xm : x ∈ l := List.mem_of_getElem? hx
    refine wpAny_execs_cons (wpAny_Expr_any (MC (r_loc F6 (by walk_at "lkp") (r_method_extend (F6.at (k := 0) rfl) (CM1 (AC ?_))))))
    refine wp_gen fun Qb hQb => ?_
    refine r_listcomp (cl := []) rfl rfl (by decide) (fun _ => rfl) ?_
    refine Call_ (r_glob (v := .ref 28) G F6 rfl (CDA (o := objAt 28) (fd := fd 28) (G.K _ _ rfl) rfl (AC (r_loc F6 (by walk_at "lkp") (AC (r_loc F6 (by walk_at "lkp") (args_nil ⟨kk.get (G.K _ _ rfl), ?_⟩)))))))
    refine split_spec mr (k := k) (X := it :: aP :: L :: X) (l := x) (f := f) (po := po) (pf := pf) (G.kept kk) F6.live hA1 hR6 (kk.get hpo) hpf (hlen2 x xm) ?_ ?_
    · intro A' s₁ X' v a r1 k1 r2 r3 Q' hQ'
      exact hp A' s₁ X' v a r1 (Go.trans kk k1) r2 ⟨x, xm, r3⟩ Q' hQ'
    intro s7 r k7 hr7
    obtain ⟨at1, tvs, tn, rfl, tX, ht, htr⟩ := hr7
    have F7 := F6.kept k7
    refine it_tup hA1.handled F7 ht tX ?_
    intro s8 it2 io2 IO2 hit2 g8 F8 hio2 S2
    have tl : tvs.length = 2 := htr.len
    refine comp_abs (own := [(aP, lst ys ny), (it, o)]) F8 hio2 hit2 S2 (by rw [tl]; decide) (by decide) rfl
      (fun X' i s ys => All2 (RList R s.heap X') ys (([x.filter f, x.filter (fun a => !f a)].take i).filter (fun x => !x.isEmpty))) (fun C D s₄ g => .nil) ?_ ?_
    · intro C D j u s₀' s9 zs c m₂ o2 B' Q3 Q4 hj hu g0' hP g9 hB1 hB2 F9 hN hE
      refine wpAny_assign_Name (r_store F9 ?_)
      intro s10 g10 F10
      obtain ⟨y, hy, hyR⟩ := htr.get hu
      have hy10 := mList mr (g8.trans (g0'.trans (g9.trans g10))) hyR
      obtain ⟨ay, avs, an, rfl, ayX, hay, hayr⟩ := hy10
      refine wpAny_tests_one (wpAny_isTrue_Compare1 (r_loc F10 (by walk_at "lkp") (List_ (args_nil (r_newListF F10 ?_)))))
      intro s11 b k11 F11 bX hb
      refine r_ne_nil (hA1.le (by omega)) (k11.get hay) hb (wpAny_truthy_bool ?_)
      have tk : ([x.filter f, x.filter (fun a => !f a)].take (j + 1)) = [x.filter f, x.filter (fun a => !f a)].take j ++ [y] := by rw [List.take_add_one, hy]; rfl
      have g911 := g10.trans (k11.go _)
      have vy : avs.isEmpty = y.isEmpty := by cases hayr <;> rfl
      cases hb : y.isEmpty with
      | true =>
        rw [vy, hb]
        refine hE _ _ F11 g911 ?_
        rw [tk, List.filter_append]
        simp only [List.filter_cons, hb, Bool.not_true, Bool.false_eq_true, if_false, List.filter_nil, List.append_nil]
        exact hP.imp fun _ _ h => mList mr (g9.trans g911) h
      | false =>
        rw [vy, hb]
        refine r_loc F11 (by walk_at "lkp") (hN _ _ _ F11 g911 fun s12 g12 => ?_)
        rw [tk, List.filter_append]
        simp only [List.filter_cons, hb, Bool.not_false, if_true, List.filter_nil]
        exact (hP.imp fun _ _ h => mList mr (g9.trans (g911.trans g12)) h).snoc (mList mr ((k11.go _).trans g12) ⟨ay, avs, an, rfl, ayX, hay, hayr⟩)
    · intro C D s₀' s9 zs c oC mC g0' hP g9 hCX hDX hD hns F9
      refine comp_val F9 hCX hDX hD hns ?_
      intro s10 g10 F10 hDX' hD'
      refine hQb _ _ ?_
      rw [tl] at hP
      refine args_nil (r_extend F10 0 rfl hD' ?_ ?_)
      · intro s11 n' g11 F11
        have gA := g6.trans ((k7.go _).trans (g8.trans (g0'.trans (g9.trans (g10.trans g11)))))
        refine wpAny_execs_nil (hQ1 _ _ [(aP, lst (ys ++ zs) n')] F11 gA ⟨ys ++ zs, n', rfl, by walk_at "lkp", by walk_at "lkp", ?_, ?_⟩).1
        · have tk : l.take (i + 1) = l.take i ++ [x] := by rw [List.take_add_one, hx]; rfl
          rw [tk, parted, List.flatMap_append]
          simp only [List.flatMap_cons, List.flatMap_nil, List.append_nil]
          exact (q3.imp fun _ _ h => mList mr (g05.trans gA) h).append (hP.imp fun _ _ h => mList mr (g9.trans (g10.trans g11)) h)
        · have := hP.len
          have h2 := sides_len f x
          simp only [List.length_append]
          have : zs.length ≤ 2 := by rw [hP.len]; exact h2
          omega
      · have : zs.length ≤ 2 := by rw [hP.len]; exact sides_len f x
        have hi' : i < 100 := Nat.lt_of_lt_of_le (by rw [har.len] at hi; exact hi) hlen
        exact Nat.le_trans (show ys.length + zs.length ≤ 202 by omega) (by decide)
  · intro s₀ s6 m₁ own₁ g0 hP g06 F6
    obtain ⟨ys, ny, rfl, q1, q2, q3, q4⟩ := hP
    rw [har.len, List.take_length] at q3
    refine wpAny_execs_cons (wpAny_Return_some (r_loc F6 (by walk_at "lkp") ?_))
    have gg := g13.trans (g4.trans (g0.trans g06))
    have fz : Go (aP :: L :: X) s6 X s6 := ⟨⟨rfl, rfl⟩, fun b o h e => ⟨fun q => h (by simp [q]), e⟩⟩
    refine hQ0 _ _ ?_
    refine h s6 _ (F6.toKept gg.1) ⟨aP, ys, ny, rfl, fun q => nP (by simp [q]), F6.at (k := 0) rfl, q3.imp fun _ _ h => mList mr (g06.trans fz) h⟩
end
end Mine
end

-- Finer
section
open PySem PySem.W PyProof.Rows
set_option maxRecDepth 100000
set_option linter.all false
namespace Mine
local macro_rules | `(tactic| walk_at "lkp") => `(tactic| first | assumption | exact upd_same | (refine lks (sne (by decide)) ?_; walk_at "lkp"))

/-! plain facts of parted -/
def NE {α : Type} (l : List (List α)) : Prop := (∀ x ∈ l, x ≠ []) ∧ l.flatten.length ≤ 100
theorem sides_flat {α : Type} (f : α → Bool) (l : List α) : (sides f l).flatten = l.filter f ++ l.filter (fun a => !f a) := by
  unfold sides
  cases h1 : l.filter f <;> cases h2 : l.filter (fun a => !f a) <;> simp
theorem filter_len {α : Type} (f : α → Bool) (l : List α) : (l.filter f).length + (l.filter (fun a => !f a)).length = l.length := by
  induction l with
  | nil => rfl
  | cons a r ih => cases h : f a <;> simp [h] <;> omega
theorem parted_cons {α : Type} (f : α → Bool) (x : List α) (l : List (List α)) : parted f (x :: l) = sides f x ++ parted f l := by simp [parted]
theorem parted_flen {α : Type} (f : α → Bool) (l : List (List α)) : (parted f l).flatten.length = l.flatten.length := by
  induction l with
  | nil => rfl
  | cons x r ih => rw [parted_cons, List.flatten_append, List.length_append, ih, sides_flat, List.length_append, filter_len, List.flatten_cons, List.length_append]
theorem parted_mem {α : Type} (f : α → Bool) (l : List (List α)) (a : α) : a ∈ (parted f l).flatten ↔ a ∈ l.flatten := by
  induction l with
  | nil => rfl
  | cons x r ih =>
    rw [parted_cons, List.flatten_append, List.mem_append, ih, sides_flat, List.flatten_cons, List.mem_append, List.mem_append, List.mem_filter, List.mem_filter]
    cases h : f a <;> simp
theorem parted_ne {α : Type} (f : α → Bool) {l : List (List α)} (h : NE l) : NE (parted f l) := by
  refine ⟨fun x hx => ?_, by rw [parted_flen]; exact h.2⟩
  obtain ⟨y, _, hy⟩ := List.mem_flatMap.mp hx
  have := (List.mem_filter.mp hy).2
  intro q; rw [q] at this; simp at this
theorem ne_len {α : Type} : ∀ {l : List (List α)}, (∀ x ∈ l, x ≠ []) → l.length ≤ l.flatten.length
  | [], _ => Nat.le_refl _
  | x :: r, h => by
    have h1 : x ≠ [] := h x (by simp)
    have h2 := ne_len (l := r) fun y hy => h y (by simp [hy])
    have h3 : 0 < x.length := List.length_pos_iff.mpr h1
    rw [List.flatten_cons, List.length_append, List.length_cons]; omega
theorem NE.len {α : Type} {l : List (List α)} (h : NE l) : l.length ≤ 100 := Nat.le_trans (ne_len h.1) h.2
theorem mem_len {α : Type} : ∀ {l : List (List α)} {x}, x ∈ l → x.length ≤ l.flatten.length
  | y :: r, x, h => by
    rcases List.mem_cons.mp h with h | h
    · subst h; simp
    · have := mem_len h; rw [List.flatten_cons, List.length_append]; omega
theorem NE.len2 {α : Type} {l : List (List α)} (h : NE l) : ∀ x ∈ l, x.length ≤ 100 := fun x hx => Nat.le_trans (mem_len hx) h.2

def goesIn (way goal : List Nat) (st : Nat) : Bool := goal.contains (way.getD st 0)
def finer1 (parts : List (List Nat)) (fin : List (List Nat)) (way : List Nat) : List (List Nat) := parts.foldl (fun fin goal => parted (goesIn way goal) fin) fin
def finerF (parts : List (List Nat)) (ways : List (List Nat)) : List (List Nat) := ways.foldl (finer1 parts) parts
theorem finer1_ok (parts : List (List Nat)) (way : List Nat) : ∀ fin : List (List Nat), NE fin → NE (finer1 parts fin way) ∧ ∀ a, a ∈ (finer1 parts fin way).flatten ↔ a ∈ fin.flatten := by
  unfold finer1
  induction parts with
  | nil => intro fin h; exact ⟨h, fun _ => Iff.rfl⟩
  | cons g r ih => intro fin h; rw [List.foldl_cons]; obtain ⟨a, b⟩ := ih _ (parted_ne (goesIn way g) h); exact ⟨a, fun x => (b x).trans (parted_mem _ _ _)⟩
theorem finer_ok (parts : List (List Nat)) (ways : List (List Nat)) : ∀ fin : List (List Nat), NE fin → NE (ways.foldl (finer1 parts) fin) ∧ ∀ a, a ∈ (ways.foldl (finer1 parts) fin).flatten ↔ a ∈ fin.flatten := by
  induction ways with
  | nil => intro fin h; exact ⟨h, fun _ => Iff.rfl⟩
  | cons g r ih => intro fin h; rw [List.foldl_cons]; obtain ⟨a1, b1⟩ := finer1_ok parts g fin h; obtain ⟨a, b⟩ := ih _ a1; exact ⟨a, fun x => (b x).trans (b1 x)⟩

section
variable {p : Program} {w : World} {A : Around} {s : Shared} {X : List Addr} {mg mb : Str → Option Value}
abbrev RPs : Rel (List (List Nat)) := RList (RList RNat)
theorem mPs : Mono RPs := mList (mList mNat)
abbrev pos98 : Pos := ⟨92, 39, 92, 71⟩
abbrev q98 : Str := ("_law_finer" : Str) ++ ".<locals>." ++ "<lambda>"

inductive FN1 (parts ways : List (List Nat)) (X' : List Addr) (a1 : Addr) (i : Nat) (s : Shared) (m : Str → Option Value) (own : List (Addr × Obj)) : Prop
  | mk (ps : Array Value) (vf : Value) (e : own = [(98, tabObj ps)]) (q1 : TabOk s.heap X' pos98 q98 ps) (q2 : m "parts" = some (.ref a1)) (q3 : m "finer" = some vf) (q4 : RPs s.heap X' vf ((ways.take i).foldl (finer1 parts) parts))
inductive FN2 (parts fin : List (List Nat)) (way : List Nat) (X' : List Addr) (a1 it : Addr) (o : Obj) (v : Value) (j : Nat) (s : Shared) (m : Str → Option Value) (own : List (Addr × Obj)) : Prop
  | mk (ps : Array Value) (vf : Value) (e : own = [(98, tabObj ps), (it, o)]) (q1 : TabOk s.heap X' pos98 q98 ps) (q2 : m "parts" = some (.ref a1)) (q3 : m "way" = some v) (q4 : m "finer" = some vf) (q5 : RPs s.heap X' vf (finer1 (parts.take j) fin way))
set_option maxHeartbeats 1000000 in
theorem finer_spec {k : Nat} {v1 v2 : Value} {parts ways : List (List Nat)} {ps : Array Value} {Q : Value → Shared → Prop} {B0 : Heap} (G0 : Gd w mg mb B0) (n98 : B0.get? 98 = none) (kB : ∀ b o, B0.get? b = some o → s.heap.get? b = some o) (lv : Liv s X) (hA : Rm A (k + 5)) (h98 : s.heap.get? 98 = some (tabObj ps)) (h98X : 98 ∈ X) (ht : TabOk s.heap X pos98 q98 ps)
    (hp : RPs s.heap X v1 parts) (hw : RPs s.heap X v2 ways) (hok : NE parts) (hst : ∀ way ∈ ways, ∀ x ∈ parts.flatten, x < way.length) (hwl : ∀ way ∈ ways, way.length ≤ 100)
    (h : ∀ s' r ps', KB [98] s s' → s'.heap.get? 98 = some (tabObj ps') → TabOk s'.heap X pos98 q98 ps' → RPs s'.heap X r (finerF parts ways) → Q r s') : W p w A (call (.ref 103) [v1, v2]) Q s := by
  have G : Gd w mg mb s.heap := G0.keeps kB
  have kH : ∀ b o, B0.get? b = some o → (hideAll s.heap [98]).get? b = some o := fun b o e => hideAll_get _ (kB b o e) fun q => by
    simp at q; rw [q, n98] at e; cases e
  have GH : Gd w mg mb (hideAll s.heap [98]) := G0.keeps kH
  refine enterC (k := k + 4) (mv := [(98, tabObj ps)]) (binds := [("parts", v1), ("ways", v2)]) G lv (by simpa using h98) (by simpa using h98X) (by simp) hA rfl rfl rfl rfl rfl rfl (fun L x hx => ?_) (fun L => ?_) rfl rfl rfl ?_
  · simp at hx; rcases hx with h | h <;> subst h <;> exact .inl rfl
  · show List.Nodup [("way" : Str), "goal"]; decide
  intro s₁ L hLX g1 k1 hA1 F0
  refine wp_gen fun Q0 hQ0 => ?_
  have cr : cadr L 103 = [L, L + 2, L + 1] := rfl
  rw [cr] at hLX g1 F0
  obtain ⟨m, F1, m1, m2⟩ : ∃ m, Fra (hideAll s.heap [98]) s₁ ([L, L + 2, L + 1] ++ X) ⟨L, [("way", L + 2), ("goal", L + 1)]⟩ m [(98, tabObj ps)] ∧ m "parts" = some v1 ∧ m "ways" = some v2 := ⟨_, F0, rfl, rfl⟩
  clear F0
  generalize hY : [L, L + 2, L + 1] ++ X = Y at *
  obtain ⟨a1, vs1, n1, rfl, ha1X, ha1, har1⟩ := hp
  obtain ⟨a2, vs2, n2, rfl, ha2X, ha2, har2⟩ := hw
  refine wpAny_execs_cons (wpAny_Assign_Name (r_loc F1 (by walk_at "lkp") (r_store F1 ?_)))
  intro s2 g2 F2
  have g12 := g1.trans g2
  have ha2' := g12.2 a2 _ ha2X ha2
  have hp2 : RPs s2.heap Y (.ref a1) parts := mPs g12 ⟨a1, vs1, n1, rfl, ha1X, ha1, har1⟩
  refine wpAny_execs_cons (wpAny_For (r_loc F2 (by walk_at "lkp") ?_))
  refine it_list hA1.handled F2 ha2'.2 ha2'.1 ?_
  intro s3 it io IO hit g3 F3 hio S
  refine loop_abs _ _ _ F3 hio hit S (fun i s m own => FN1 parts ways (it :: Y) a1 i s m own) ?_ ?_ ?_
  · exact ⟨ps, .ref a1, rfl, ht.go (g12.trans g3), by walk_at "lkp", by walk_at "lkp", mPs g3 hp2⟩
  · intro i v s₀ s4 m₁ own₁ o Q1 hi hv g0 hP g04 F4 hQ1
    obtain ⟨ps1, vf, rfl, q1, q2, q3, q4⟩ := hP
    refine wpAny_assign_Name (r_storeC (c := L + 2) F4 ?_)
    intro s5 g5 F5
    obtain ⟨way, hway, hwR⟩ := har2.get hv
    have g05 := g04.trans g5
    have gs5 := g12.trans (g3.trans (g0.trans g05))
    have wm : way ∈ ways := List.mem_of_getElem? hway
    have hw5 := mList mNat gs5 hwR
    have hp5 := mPs (g3.trans (g0.trans g05)) hp2
    obtain ⟨a1', vs1', n1', e1, ha1X5, ha15, har15⟩ := hp5
    cases e1
    refine wpAny_execs_cons (wpAny_For (r_loc F5 (by walk_at "lkp") ?_))
    refine it_list hA1.handled F5 ha15 ha1X5 ?_
    intro s6 it2 io2 IO2 hit2 g6 F6 hio2 S2
    refine loop_abs (own := [(98, tabObj ps1), (it, o)]) _ _ _ F6 hio2 hit2 S2 (fun j s m own => FN2 parts ((ways.take i).foldl (finer1 parts) parts) way (it2 :: it :: Y) a1 it o v j s m own) ?_ ?_ ?_
    · exact ⟨ps1, vf, rfl, q1.go (g05.trans g6), by walk_at "lkp", by walk_at "lkp", by walk_at "lkp", mPs (g05.trans g6) q4⟩
    · intro j u s₀' s7 m₂ own₂ o2 Q2 hj hu g0' hP g07 F7 hQ2
      obtain ⟨ps2, vf2, rfl, r1, r2, r3, r4, r5⟩ := hP
      refine wpAny_assign_Name (r_storeC (c := L + 1) F7 ?_)
      intro s8 g8 F8
      obtain ⟨goal, hgoal, hgR⟩ := har15.get hu
      have g08 := g07.trans g8
      have hg8 := mList mNat (g6.trans (g0'.trans g08)) hgR
      have hw8 := mList mNat (g6.trans (g0'.trans g08)) hw5
      have r58 := mPs g08 r5
      refine wpAny_execs_cons (wpAny_Assign_Name (Call_ (r_glob (v := .ref 96) GH F8 rfl (CDA (o := objAt 96) (fd := fd 96) (G.K _ _ rfl) rfl (AC (r_loc F8 (by walk_at "lkp") (AC ?_)))))))
      refine r_lambda (c := 102) (P := 98) GH F8 0 rfl GH.c102 (r1.go g08) rfl rfl rfl rfl ?_
      intro s9 f pm c' ctv ps3 g9 F9 t9 fX hf hcd
      refine args_nil ⟨F9.keep _ _ (GH.K _ _ rfl), ?_⟩
      have fin := (finer_ok parts (ways.take i) parts hok)
      have fin2 := (finer1_ok (parts.take j) way _ fin.1)
      have cw : s9.heap.IsCell (L + 2) (some v) := by
        have h1 := F9.cell "way" (L + 2) rfl
        have h2 : upd m₂ "goal" u "way" = some v := by walk_at "lkp"
        rw [h2] at h1; exact h1
      have cg : s9.heap.IsCell (L + 1) (some u) := by
        have h1 := F9.cell "goal" (L + 1) rfl
        rw [upd_same] at h1; exact h1
      have hg9 := mList mNat g9 hg8
      have hw9 := mList mNat g9 hw8
      refine parted_spec mNat (k := k) (f := goesIn way goal) (GH.keeps F9.keep) F9.live (hA1.le (by omega)) (mPs g9 r58) hf rfl fin2.1.len fin2.1.len2 ?_ ?_
      · intro A' s10 X' vst st hA' k10 hst' hxx Q' hQ'
        obtain ⟨tst, rfl⟩ := hst'
        obtain ⟨x, hx, hxs⟩ := hxx
        have stl : st < way.length := hst way wm st ((fin.2 st).mp ((fin2.2 st).mp (List.mem_flatten_of_mem hx hxs)))
        refine enterL (X := []) (k := k) (binds := [("state", .int (st : Int) tst)]) ((GH.keeps F9.keep).kept k10) (fun _ h => nomatch h) hA' (k10.get hf) (by obtain ⟨c, o, vs, t, e, a, b⟩ := hcd; exact ⟨c, o, vs, t, e, k10.get a, b⟩) rfl (by decide) (locs rfl) rfl rfl rfl ?_
        intro s11 L' hL' g11 k11 hA11 F11
        have kk : Kept s9 s11 := Go.trans k10 k11
        have cw' : s11.heap.IsCell (L + 2) (some v) := cell_keeps cw fun o e => kk.get e
        have cg' : s11.heap.IsCell (L + 1) (some u) := cell_keeps cg fun o e => kk.get e
        obtain ⟨aw, vsw, nw, rfl, awX, haw, hawr⟩ := hw9
        obtain ⟨ag, vsg, ng, rfl, agX, hag, hagr⟩ := hg9
        obtain ⟨y, hy, ty, ey⟩ := hawr.get' (List.getElem?_eq_getElem stl)
        refine wpAny_Compare1 (Subscript_ (r_free cw' (r_loc F11 rfl (r_item (kk.get haw) (by have := hwl way wm; omega) hy ?_))))
        subst ey
        refine r_free cg' (r_in_nats (kk.get hag) hagr ?_)
        have : goal.contains way[st] = goesIn way goal st := by unfold goesIn; simp [stl]
        rw [this]
        exact hQ' s11 (F11.toKept g11.1)
      · intro s10 r k10 hr
        have F10 := F9.kept k10
        refine r_store F10 ?_
        intro s11 g11 F11
        refine wpAny_execs_nil (hQ2 _ _ [(98, tabObj ps3), (it, o)] F11 (g8.trans (g9.trans ((k10.go _).trans g11))) ⟨ps3, r, rfl, t9.go ((k10.go _).trans g11), by walk_at "lkp", by walk_at "lkp", by walk_at "lkp", ?_⟩).1
        have tk : parts.take (j + 1) = parts.take j ++ [goal] := by rw [List.take_add_one, hgoal]; rfl
        rw [tk, finer1, List.foldl_append]
        exact mPs g11 hr
    · intro s₀' s7 m₂ own₂ g0' hP g07 F7
      obtain ⟨ps2, vf2, rfl, r1, r2, r3, r4, r5⟩ := hP
      refine wpAny_execs_nil (hQ1 _ _ [(98, tabObj ps2)] F7 (g5.trans (g6.trans (g0'.trans g07))) ⟨ps2, vf2, rfl, r1.go g07, by walk_at "lkp", by walk_at "lkp", ?_⟩).1
      have tk : ways.take (i + 1) = ways.take i ++ [way] := by rw [List.take_add_one, hway]; rfl
      rw [tk, List.foldl_append]
      rw [har15.len, List.take_length] at r5
      exact mPs g07 r5
  · intro s₀ s4 m₁ own₁ g0 hP g04 F4
    obtain ⟨ps1, vf, rfl, q1, q2, q3, q4⟩ := hP
    rw [har2.len, List.take_length] at q4
    refine wpAny_execs_cons (wpAny_Return_some (r_loc F4 (by walk_at "lkp") ?_))
    have gs := g12.trans (g3.trans (g0.trans g04))
    have fz : Go Y s4 X s4 := ⟨⟨rfl, rfl⟩, fun b o h e => ⟨fun q => h (by rw [← hY]; simp [q]), e⟩⟩
    refine hQ0 _ _ ?_
    refine h s4 _ ps1 ⟨gs.1, fun b o hb e => F4.keep b o (hideAll_get _ e hb)⟩ (F4.at (k := 0) rfl) (q1.go (g04.trans fz)) (mPs (g04.trans fz) q4)
end
end Mine
end

-- Lib2
section
open PySem PySem.W PyProof.Rows
set_option maxRecDepth 100000
set_option linter.all false
namespace Mine
section
variable {p : Program} {w : World} {A : Around} {s : Shared} {env : Env} {B : Heap} {X : List Addr} {φ : Fm} {m : Str → Option Value} {own : List (Addr × Obj)}

/-- only tokens are turned -/
def Tk (s s' : Shared) : Prop := s'.heap = s.heap ∧ SG s s'
theorem Tk.kept {s s'} (k : Tk s s') : Kept s s' := ⟨k.2, fun b o _ e => ⟨by simp, by rw [k.1]; exact e⟩⟩
theorem Tk.go {s s'} (k : Tk s s') (X : List Addr) : Go X s X s' := k.kept.go X
theorem Fra.tk {s'} (F : Fra B s X φ m own) (k : Tk s s') : Fra B s' X φ m own := F.kept k.kept
theorem tk_of {s : Shared} {t : Nat} : Tk s { s with toks := t } := ⟨rfl, rfl, rfl⟩

theorem r_int {i : Int} {k : Nat} {pos : Pos} {Q : Value → Shared → Prop} (h : ∀ s' t, Tk s s' → Q (.int i t) s') : W p w A (eval (.Constant (.int i) k pos) env) Q s := wpAny_Constant_int (h _ _ tk_of)
theorem r_str {x : Str} {k : Nat} {pos : Pos} {Q : Value → Shared → Prop} (h : ∀ s' t, Tk s s' → Q (.str x t) s') : W p w A (eval (.Constant (.str x) k pos) env) Q s := Calls.Constant_str (h _ _ tk_of)
theorem r_add {a b : Int} {t u : Tok} {Q : Value → Shared → Prop} (h : ∀ s' t, Tk s s' → Q (.int (a + b) t) s') : W p w A (binaryOp .Add (.int a t) (.int b u)) Q s := PyProof.Rows.add_int (h _ _ tk_of)
theorem r_sub {a b : Int} {t u : Tok} {Q : Value → Shared → Prop} (h : ∀ s' t, Tk s s' → Q (.int (a - b) t) s') : W p w A (binaryOp .Sub (.int a t) (.int b u)) Q s := PyProof.Rows.sub_int (h _ _ tk_of)
theorem r_neg {a : Int} {t : Tok} {Q : Value → Shared → Prop} (h : ∀ s' t, Tk s s' → Q (.int (-a) t) s') : W p w A (unaryOp .USub (.int a t)) Q s := PyProof.Rows.neg_int (h _ _ tk_of)
theorem r_gt {a b : Int} {t u : Tok} {Q : Value → Shared → Prop} (h : Q (.bool (decide (b < a))) s) : W p w A (compareOp .Gt (.int a t) (.int b u)) Q s := PyProof.Rows.gt_int h
theorem r_len {a : Addr} {vs : List Value} {n : Nat} {Q : Value → Shared → Prop} (ha : s.heap.get? a = some (lst vs n)) (hl : vs.length < 2 ^ 62) (h : ∀ s' t, Tk s s' → Q (.int vs.length t) s') : W p w A (call (.builtin "len") [.ref a]) Q s :=
  PySem.Calls.call_len_list (isList_of ha) (by simp; omega) (by have := h { s with toks := s.toks + 1 + 1 } (s.toks + 1) tk_of; simpa using this)
theorem r_range {n : Nat} {t : Tok} {Q : Value → Shared → Prop} (F : Fra B s X φ m own) (h : ∀ s' a t u v, Kept s s' → Fra B s' X φ m own → a ∉ X → IsRange s'.heap a 0 n 1 t u v → Q (.ref a) s') : W p w A (call (.type "range") [.int n t]) Q s :=
  call_range_1 (by
    obtain ⟨F', k, e, n'⟩ := F.newF (s' := { s with heap := s.heap.push { cls := .type "range", data := .fields #[.int 0 s.toks, .int n t, .int 1 (s.toks + 1)] }, toks := s.toks + 1 + 1 }) (o := { cls := .type "range", data := .fields #[.int 0 s.toks, .int n t, .int 1 (s.toks + 1)] }) rfl rfl ⟨rfl, rfl⟩
    exact h _ _ _ _ _ k F' n' e)
theorem all2_of {α : Type} {P : Value → α → Prop} : ∀ {vs : List Value} {l : List α}, vs.length = l.length → (∀ (i : Nat) v a, vs[i]? = some v → l[i]? = some a → P v a) → All2 P vs l
  | [], [], _, _ => .nil
  | v :: vs, a :: l, hl, h => .cons (h 0 v a rfl rfl) (all2_of (by simpa using hl) fun i v a h1 h2 => h (i + 1) v a (by simpa using h1) (by simpa using h2))
theorem r_list_range {a : Addr} {n : Nat} {t u v : Tok} {Q : Value → Shared → Prop} (hA : A.handled = none) (F : Fra B s X φ m own) (ha : IsRange s.heap a 0 n 1 t u v) (hn : n ≤ 1000)
    (h : ∀ s' b vs c, Kept s s' → Fra B s' X φ m own → b ∉ X → s'.heap.get? b = some (lst vs c) → All2 (RNat s'.heap X) vs (List.range n) → Q (.ref b) s') : W p w A (call (.type "list") [.ref a]) Q s := by
  have hsz : Builtin.Range.rangeSize 0 (n : Int) 1 = n := by
    unfold Builtin.Range.rangeSize
    by_cases q : (0 : Int) < n
    · rw [if_pos (by decide), if_pos q]; omega
    · rw [if_pos (by decide), if_neg q]; omega
  refine call_list_range hA ha (small_one (by decide) (by decide) (by omega) (by omega)) hsz (by omega) fun h' tk acc c hk ho hi => ?_
  obtain ⟨h1, h2⟩ := hi
  have k : Kept s { s with heap := h', toks := tk } := ⟨⟨rfl, rfl⟩, fun b o _ e => ⟨by simp, hk b o e⟩⟩
  have e : acc = acc.toList.toArray := by simp
  refine h { s with heap := h', toks := tk } _ acc.toList c k (F.kept k) (fun q => by obtain ⟨o, e⟩ := F.live _ q; exact Nat.lt_irrefl _ (Heap.lt_size e)) (by rw [ho]; unfold lst; rw [← e]) (all2_of (by simpa using h1) fun i v b e1 e2 => ?_)
  obtain ⟨t, ht⟩ := h2 i v (by simpa using e1)
  have hi : i < n := by
    have := (List.getElem?_eq_some_iff.mp e2).1; simpa using this
  have : b = i := by rw [List.getElem?_range hi] at e2; exact (Option.some.inj e2).symm
  subst this
  exact ⟨t, by rw [ht]; simp⟩
/-- the last item -/
theorem r_last {value slice : Expr} {a : Addr} {vs : List Value} {n : Nat} {t : Tok} {v : Value} {Q : Value → Shared → Prop} (ha : s.heap.get? a = some (lst vs n)) (hv : vs.getLast? = some v) (h : Q v s)
    (hs : subscripted slice false (.ref a) (.int (-1) t) = operate [.ref a, .int (-1) t] (getItem (.ref a) (.int (-1) t)) := by with_unfolding_all rfl) :
    W p w A (subscriptTail value slice (.ref a) (.int (-1) t)) Q s := by
  have hl : vs.length ≠ 0 := fun q => by rw [List.length_eq_zero_iff.mp q] at hv; cases hv
  refine tail_any (isList_of ha).typeIs slot_list_getitem.lookup (wpAny_getItem_list_neg (isList_of ha) (by omega) (by simp; omega) (by omega) ?_ h) hs
  have : ((-1 : Int) + (vs.toArray.size : Int)).toNat = vs.length - 1 := by simp; omega
  rw [this]
  rw [List.getLast?_eq_getElem?] at hv
  simpa using hv

/-- while -/
theorem while_gen {test : Expr} {body : List Stmt} {Q : Flow → Shared → Prop} (n : Nat) (P : Nat → Shared → (Str → Option Value) → List (Addr × Obj) → Prop) (F : Fra B s X φ m own) (h0 : P n s m own)
    (turn : ∀ k s₁ m₁ own₁, P k s₁ m₁ own₁ → Go X s X s₁ → Fra B s₁ X φ m₁ own₁ → W p w A (isTrue test env (eval test env)) (fun b s₂ => if b = true
      then W p w A (execs body env) (fun f s₃ => match f with
        | .next | .cont => ∃ k' m₂ own₂, k' < k ∧ P k' s₃ m₂ own₂ ∧ Go X s₁ X s₃ ∧ Fra B s₃ X φ m₂ own₂
        | .brk => Q .next s₃
        | .ret v => Q (.ret v) s₃) s₂
      else Q .next s₂) s₁) : codeAny (model p w) A (.whileLoop test body [] env) (ForR p w A env Q) s := by
  refine codeAny_whileLoop (fun k s₁ => ∃ m₁ own₁, P k s₁ m₁ own₁ ∧ Go X s X s₁ ∧ Fra B s₁ X φ m₁ own₁) (fun k s₁ ⟨m₁, own₁, hP, g, F1⟩ => ?_) n ⟨m, own, h0, Go.refl _ _, F⟩
  refine wpAny_mono (turn k s₁ m₁ own₁ hP g F1) (fun b s₂ h => ?_) fun _ _ h => h.elim
  cases b with
  | true =>
    simp only [if_true] at h ⊢
    refine wpAny_mono h (fun f s₃ h3 => ?_) fun _ _ h => h.elim
    cases f with
    | next => obtain ⟨k', m₂, own₂, a, b, c, d⟩ := h3; exact ⟨k', a, m₂, own₂, b, g.trans c, d⟩
    | cont => obtain ⟨k', m₂, own₂, a, b, c, d⟩ := h3; exact ⟨k', a, m₂, own₂, b, g.trans c, d⟩
    | brk => exact h3
    | ret v => exact h3
  | false =>
    simp only [Bool.false_eq_true, if_false] at h ⊢
    exact wpAny_execs_nil h

theorem while_abs {test : Expr} {body : List Stmt} {Q : Flow → Shared → Prop} (n : Nat) (P : Nat → Shared → (Str → Option Value) → List (Addr × Obj) → Prop) (F : Fra B s X φ m own) (h0 : P n s m own)
    (turn : ∀ k s₁ m₁ own₁ (Q1 : Flow → Shared → Prop) (Qx : Shared → Prop), P k s₁ m₁ own₁ → Go X s X s₁ → Fra B s₁ X φ m₁ own₁ →
      (∀ k' s₃ m₂ own₂, k' < k → P k' s₃ m₂ own₂ → Go X s₁ X s₃ → Fra B s₃ X φ m₂ own₂ → Q1 .next s₃ ∧ Q1 .cont s₃) → (∀ s₃, Q .next s₃ → Q1 .brk s₃ ∧ Qx s₃) →
      W p w A (isTrue test env (eval test env)) (fun b s₂ => if b = true then W p w A (execs body env) Q1 s₂ else Qx s₂) s₁) : codeAny (model p w) A (.whileLoop test body [] env) (ForR p w A env Q) s :=
  while_gen n P F h0 fun k s₁ m₁ own₁ hP g1 F1 => turn k s₁ m₁ own₁ _ _ hP g1 F1 (fun k' s₃ m₂ own₂ a b c d => ⟨⟨k', m₂, own₂, a, b, c, d⟩, ⟨k', m₂, own₂, a, b, c, d⟩⟩) fun s₃ h => ⟨h, h⟩

/-! calls by a name -/
variable {mg mb : Str → Option Value}
theorem cb1 {f : Str} {id : String} {e : Expr} {p' pos : Pos} {Q : Value → Shared → Prop} (G : Gd w mg mb B) (F : Fra B s X φ m own) (hb : bootBuiltins f = some (.builtin id)) (h : W p w A (eval e env) (fun v s₁ => W p w A (call (.builtin id) [v]) Q s₁) s)
    (hn : nsIn (hd.heap_1 w.params) mainGlobals f = some none := by rfl) (hx : f ≠ "__name__" := by decide) (hk : env.scope.kind = .function := by rfl) (hl : env.kindOf f = some .globalImplicit := by rfl) (hL : env.globals = mainGlobals := by rfl) (hB : env.builtins = builtinsNs := by rfl) (hd : (f == ("__debug__" : Str)) = false := by rfl)
    (hs : notStar e = true := by rfl) : W p w A (eval (.Call (.Name f p') [e] [] pos) env) Q s :=
  Call_ (r_blt G F hn hb (callWith_method1 (first := []) (args_cons (wpAny_mono h (fun v s₁ h1 => args_nil h1) fun _ _ h => h) (se_cons _ _ _ hs)) (se_cons _ _ _ hs)) hx hk hl hL hB hd)
theorem ct1 {f : Str} {T : String} {e : Expr} {p' pos : Pos} {Q : Value → Shared → Prop} (G : Gd w mg mb B) (F : Fra B s X φ m own) (hb : bootBuiltins f = some (.type T)) (h : W p w A (eval e env) (fun v s₁ => W p w A (call (.type T) [v]) Q s₁) s)
    (hn : nsIn (hd.heap_1 w.params) mainGlobals f = some none := by rfl) (hx : f ≠ "__name__" := by decide) (hk : env.scope.kind = .function := by rfl) (hl : env.kindOf f = some .globalImplicit := by rfl) (hL : env.globals = mainGlobals := by rfl) (hB : env.builtins = builtinsNs := by rfl) (hd : (f == ("__debug__" : Str)) = false := by rfl)
    (hs : notStar e = true := by rfl) : W p w A (eval (.Call (.Name f p') [e] [] pos) env) Q s :=
  Call_ (r_blt G F hn hb (PySem.Pv.callWith_type1 (args_cons (wpAny_mono h (fun v s₁ h1 => args_nil h1) fun _ _ h => h) (se_cons _ _ _ hs)) (se_cons _ _ _ hs)) hx hk hl hL hB hd)
theorem cb2 {f : Str} {id : String} {e e2 : Expr} {p' pos : Pos} {Q : Value → Shared → Prop} (G : Gd w mg mb B) (F : Fra B s X φ m own) (hb : bootBuiltins f = some (.builtin id)) (h : W p w A (eval e env) (fun v s₁ => W p w A (eval e2 env) (fun v2 s₂ => W p w A (call (.builtin id) [v, v2]) Q s₂) s₁) s)
    (hn : nsIn (hd.heap_1 w.params) mainGlobals f = some none := by rfl) (hx : f ≠ "__name__" := by decide) (hk : env.scope.kind = .function := by rfl) (hl : env.kindOf f = some .globalImplicit := by rfl) (hL : env.globals = mainGlobals := by rfl) (hB : env.builtins = builtinsNs := by rfl) (hd : (f == ("__debug__" : Str)) = false := by rfl)
    (hs : notStar e = true := by rfl) (hs2 : notStar e2 = true := by rfl) (hp : (backTo pos (starEach [e2] env)).any (·.1) = false := by rfl) : W p w A (eval (.Call (.Name f p') [e, e2] [] pos) env) Q s :=
  Call_ (r_blt G F hn hb (callWith_method1 (first := []) (args_cons (wpAny_mono h (fun v s₁ h1 => args_cons (wpAny_mono h1 (fun v2 s₂ h2 => args_nil h2) fun _ _ h => h) (se_cons _ _ _ hs2)) fun _ _ h => h) (se_cons _ _ _ hs)) (se_cons _ _ _ hs) hp) hx hk hl hL hB hd)
theorem cg1 {f : Str} {a : Addr} {o : Obj} {d : FuncData} {e : Expr} {p' pos : Pos} {h₀ : Heap} {Q : Value → Shared → Prop} (G : Gd w mg mb B) (F : Fra B s X φ m own) (hv : nsIn (hd.heap_1 w.params) mainGlobals f = some (some (.ref a))) (ho : h₀.get? a = some o) (hd' : o.data = .func d)
    (h : W p w A (eval e env) (fun v s₁ => s₁.heap.get? a = some o ∧ W p w A (call (.ref a) [v]) Q s₁) s)
    (hk : env.scope.kind = .function := by rfl) (hl : env.kindOf f = some .globalImplicit := by rfl) (hL : env.globals = mainGlobals := by rfl) (hd : (f == ("__debug__" : Str)) = false := by rfl)
    (hs : notStar e = true := by rfl) : W p w A (eval (.Call (.Name f p') [e] [] pos) env) Q s :=
  Call_ (r_glob G F hv (callWith_def_at ho hd' (args_cons (wpAny_mono h (fun v s₁ h1 => args_nil h1) fun _ _ h => h) (se_cons _ _ _ hs)) (se_cons _ _ _ hs)) hk hl hL hd)
theorem cg2 {f : Str} {a : Addr} {o : Obj} {d : FuncData} {e e2 : Expr} {p' pos : Pos} {h₀ : Heap} {Q : Value → Shared → Prop} (G : Gd w mg mb B) (F : Fra B s X φ m own) (hv : nsIn (hd.heap_1 w.params) mainGlobals f = some (some (.ref a))) (ho : h₀.get? a = some o) (hd' : o.data = .func d)
    (h : W p w A (eval e env) (fun v s₁ => W p w A (eval e2 env) (fun v2 s₂ => s₂.heap.get? a = some o ∧ W p w A (call (.ref a) [v, v2]) Q s₂) s₁) s)
    (hk : env.scope.kind = .function := by rfl) (hl : env.kindOf f = some .globalImplicit := by rfl) (hL : env.globals = mainGlobals := by rfl) (hd : (f == ("__debug__" : Str)) = false := by rfl)
    (hs : notStar e = true := by rfl) (hs2 : notStar e2 = true := by rfl) : W p w A (eval (.Call (.Name f p') [e, e2] [] pos) env) Q s :=
  Call_ (r_glob G F hv (callWith_def_at ho hd' (args_cons (wpAny_mono h (fun v s₁ h1 => args_cons (wpAny_mono h1 (fun v2 s₂ h2 => args_nil h2) fun _ _ h => h) (se_cons _ _ _ hs2)) fun _ _ h => h) (se_cons _ _ _ hs)) (se_cons _ _ _ hs)) hk hl hL hd)

/-! y = [..]: the list is stored ahead of the end -/
theorem r_compAssign {elt target iter : Expr} {ifs : List Expr} {scope : Scope} {cl : List (Str × Addr)} {pos spos py : Pos} {y : Str} {Q : Flow → Shared → Prop}
    (hsw : swapsWith (.ListComp elt [⟨target, iter, ifs, 0⟩] scope pos) (some (.Name y py)) spos.line env = pure true) (hclos : closureFor scope env = pure cl) (hkind : scope.kind = .function) (hnames : ∀ x ∈ scope.names, x.2 = .local → scope.names.lookup x.1 = some .local)
    (hs : ∀ x, foldedSetIterable iter env x = pure x)
    (h : W p w A (eval iter env) (fun x s₁ => W p w A (pyIter x) (fun it s₂ => CompK p w A env (.ListComp elt [⟨target, iter, ifs, 0⟩] scope pos) scope cl (some (assign (.Name y py) env)) (fun _ s' => Q .next s') it s₂) s₁) s) :
    W p w A (exec (.Assign [.Name y py] (.ListComp elt [⟨target, iter, ifs, 0⟩] scope pos) spos) env) Q s := by
  unfold W
  rw [exec_Assign_Name_used _ _ _ _ hsw]
  refine wpAny_bind (wpAny_standAt (wpAny_bind ?_))
  show wpAny _ A (do let _ ← comprehension (.ListComp elt [⟨target, iter, ifs, 0⟩] scope pos) scope env _ (newList []) false (eval iter env) (some (assign (.Name y py) env))) _ _ s
  exact wpAny_bind (wpAny_mono (wpAny_comprehension_free (use := some (assign (.Name y py) env)) (Q := fun _ s' => Q .next s') rfl hs hclos hkind hnames h) (fun _ s' hq => wpAny_pure (wpAny_pure hq)) fun _ _ e => e)

theorem comp_use {s₁ : Shared} {C D : Addr} {oC : Obj} {ys : List Value} {k : Nat} {mC : Str → Option Value} {y : Str} {py : Pos} {Q : Value → Shared → Prop} (F : Fra B s₁ (C :: X) φ m (own ++ [(C, oC)])) (hCX : C ∉ X) (hD : D ∉ C :: X) (hl : s₁.heap.get? D = some (lst ys k)) (hns : s₁.heap.Ns C mC)
    (h : ∀ s₆, Go (C :: X) s₁ X s₆ → Fra B s₆ X φ (upd m y (.ref D)) own → D ∉ X → s₆.heap.get? D = some (lst ys k) → Q .none s₆)
    (hy : env.kindOf y = some .local := by rfl) (hc : φ.cs.lookup y = none := by rfl) (hL : env.locals = φ.L := by rfl) (hp : (env.scope.kind == .class || (env.scope.kind == .module && env.locals != env.globals)) = false := by rfl) :
    compPost (model p w) A NoE (some (assign (.Name y py) env)) Q (.ref D) C (.ok .next) s₁ := by
  show wpAny (model p w) A (assign (.Name y py) env (.ref D)) _ _ _
  refine wpAny_assign_Name (r_store F ?_ hy hc hL hp)
  intro s₂ g2 F2
  have hC1 : s₁.heap.get? C = some oC := F.has (C, oC) (by simp)
  have hC2 : s₂.heap.get? C = some oC := F2.has (C, oC) (by simp)
  refine ⟨mC, ns_keeps hns fun o e => by rw [hC1] at e; cases e; exact hC2, fun h' hs => ?_⟩
  obtain ⟨F3, _, _⟩ := F2.freeze
  have hl2 := g2.2 D _ hD hl
  have g : Go (C :: X) s₂ X { s₂ with heap := h' } := ⟨⟨rfl, rfl⟩, fun b o hb e => ⟨fun q => hb (by simp [q]), hs.extBut b o (fun q => hb (by simp [q])) e⟩⟩
  exact h _ (g2.trans g) (F3.ext hCX (F2.fresh C (by simp)) hs.extBut) (fun q => hD (by simp [q])) (hs.extBut D _ (fun q => hD (by simp [q])) hl2.2)
end
end Mine
end

-- Lib3
section
open PySem PySem.W PyProof.Rows
set_option maxRecDepth 100000
set_option linter.all false
namespace Mine
section
variable {p : Program} {w : World} {A : Around} {s : Shared} {env : Env} {B : Heap} {X : List Addr} {φ : Fm} {m : Str → Option Value} {own : List (Addr × Obj)}

theorem r_lenS {x : Str} {t : Tok} {Q : Value → Shared → Prop} (hl : x.length < 2 ^ 62) (h : ∀ s' t, Tk s s' → Q (.int x.length t) s') : W p w A (call (.builtin "len") [.str x t]) Q s :=
  PyProof.Rows.len_str (by omega) (h _ _ tk_of)
theorem r_addS {x y : Str} {t u : Tok} {Q : Value → Shared → Prop} (hl : x.length + y.length ≤ 1000000) (h : ∀ s' t, Tk s s' → Q (.str (x ++ y) t) s') : W p w A (binaryOp .Add (.str x t) (.str y u)) Q s :=
  PyProof.Rows.add_str (fun t' tk => h _ _ tk_of) (Nat.le_trans hl (by decide))
/-- a sign of a text -/
def sg (x : Str) (i : Nat) : Str := ⟨#[x.cps.getD i 0]⟩
theorem r_itemS {value slice : Expr} {x : Str} {t u : Tok} {i : Nat} {Q : Value → Shared → Prop} (hi : i < x.length) (hx : x.length < 2 ^ 62) (h : ∀ s' t, Tk s s' → Q (.str (sg x i) t) s')
    (hs : subscripted slice false (.str x t) (.int i u) = operate [.str x t, .int i u] (getItem (.str x t) (.int i u)) := by with_unfolding_all rfl) :
    W p w A (subscriptTail value slice (.str x t) (.int i u)) Q s := by
  have hc : (seqIndex? (i : Int) x.length).bind (x.cps[·]?) = some (x.cps.getD i 0) := by
    have : seqIndex? (i : Int) x.length = some i := by
      unfold seqIndex?
      simp [show ¬ ((i : Int) < 0) by omega, hi]
    rw [this]
    show x.cps[i]? = _
    have hi' : i < x.cps.size := hi
    simp [hi']
  refine tail_any (T := "str") (id := "str.__getitem__") (typeIs_str _ _ _) PySem.F.slot_str_getitem.lookup (PyProof.Rows.getItem_str (by simp; omega) hc (h _ _ tk_of)) hs
theorem r_min {a b : Nat} {t u : Tok} {Q : Value → Shared → Prop} (hA : A.handled = none) (h : ∀ s' t, Kept s s' → Q (.int (min a b : Nat) t) s') : W p w A (call (.builtin "min") [.int a t, .int b u]) Q s :=
  min_two_ints hA fun h' tk hk => by
    have k : Kept s { s with heap := h', toks := tk } := ⟨⟨rfl, rfl⟩, fun b o _ e => ⟨by simp, hk b o e⟩⟩
    by_cases q : (b : Int) < a
    · rw [if_pos q]; have := h _ u k; rw [Nat.min_eq_right (by omega)] at this; exact this
    · rw [if_neg q]; have := h _ t k; rw [Nat.min_eq_left (by omega)] at this; exact this
theorem r_max {a b : Nat} {t u : Tok} {Q : Value → Shared → Prop} (hA : A.handled = none) (h : ∀ s' t, Kept s s' → Q (.int (max a b : Nat) t) s') : W p w A (call (.builtin "max") [.int a t, .int b u]) Q s :=
  max_two_ints hA fun h' tk hk => by
    have k : Kept s { s with heap := h', toks := tk } := ⟨⟨rfl, rfl⟩, fun b o _ e => ⟨by simp, hk b o e⟩⟩
    by_cases q : (b : Int) > a
    · rw [if_pos q]; have := h _ u k; rw [Nat.max_eq_right (by omega)] at this; exact this
    · rw [if_neg q]; have := h _ t k; rw [Nat.max_eq_left (by omega)] at this; exact this
/-- a cell of the frame around, inside a comprehension -/
theorem cell_in {s₂ s' : Shared} {it c : Addr} {o : Obj} {B' : Heap} {X' : List Addr} {φ' : Fm} {m' : Str → Option Value} {own' : List (Addr × Obj)} {x : Str} {v : Value} (F : Fra B s₂ (it :: X) φ m (own ++ [(it, o)])) (hB : ∀ b o, b ≠ it → s₂.heap.get? b = some o → B'.get? b = some o) (F' : Fra B' s' X' φ' m' own')
    (hc : φ.cs.lookup x = some c) (hv : m x = some v) : s'.heap.IsCell c (some v) :=
  cell_keeps (hv ▸ F.cell x c hc) fun o e => F'.keep _ _ (hB _ _ (F.ne (Fm.mem hc) (by simp)) e)
end
end Mine
end

-- Lib4
section
open PySem PySem.W PyProof.Rows
set_option maxRecDepth 100000
set_option linter.all false
namespace Mine
section
variable {p : Program} {w : World} {A : Around} {s : Shared} {env : Env} {B : Heap} {X : List Addr} {φ : Fm} {m : Str → Option Value} {own : List (Addr × Obj)} {mg mb : Str → Option Value}

/-- a call of a function that has just bound its arguments; mv: what it may turn -/
theorem enter_at {a : Addr} {fd : FuncData} {body : List Stmt} {k : Nat} {mv : List (Addr × Obj)} {binds : List (Str × Value)} {R : Result → Shared → Prop} (nl : s.heap.NoLimit) (lv : Liv s X) (hmv : ∀ q ∈ mv, s.heap.get? q.1 = some q.2) (hmX : ∀ q ∈ mv, q.1 ∈ X) (hnd : (mv.map (·.1)).Nodup) (hA : Rm A (k + 1))
    (hcell : ∀ x ∈ fd.scope.names, x.2 ≠ .cell) (hloc : ∀ x ∈ binds, fd.scope.names.lookup x.1 = some .local) (hk : fd.scope.kind = .function)
    (h : ∀ s₁ L, L ∉ X → Go X s (L :: X) s₁ → Kept s s₁ → Rm (A.deeper (callEnv fd L a)) k → Fra (hideAll s.heap (mv.map (·.1))) s₁ (L :: X) ⟨L, []⟩ (fun x => binds.reverse.lookup x) mv →
      W p w (A.deeper (callEnv fd L a)) (execs body (callEnv fd L a)) (fun f s' => R (.ok (.ret (match f with | .ret v => v | _ => .none))) s') s₁) :
    wpAny (model p w) A.in1 (newFunctionEnv fd.scope fd.globals fd.closure binds (fd.qualname ++ ".<locals>.") (some a) fd.code none fd.builtins)
        (fun env s₂ => s₂.heap.NoLimit ∧ codeAny (model p w) A (.func body env) R s₂) (fun e s' => R (.error e) s') s := by
  refine wpAny_newFunctionEnv hcell hloc (fun h₀ hns hsb => ⟨nl.fresh _ hsb, codeAny_func ?_⟩) hk
  have hk₀ : ∀ b o, s.heap.get? b = some o → h₀.get? b = some o := fun b o e => hsb.extBut b o (Nat.ne_of_lt (Heap.lt_size e)) (Heap.get?_push_of_some _ e)
  have lt : ∀ {b o}, s.heap.get? b = some o → b ≠ s.heap.objs.size := fun e => Nat.ne_of_lt (Heap.lt_size e)
  have nX : s.heap.objs.size ∉ X := fun q => by obtain ⟨o, e⟩ := lv _ q; exact lt e rfl
  refine wpAny_mono (h _ s.heap.objs.size nX ⟨⟨rfl, rfl⟩, fun b o hb e => ⟨by simp [hb, lt e], hk₀ b o e⟩⟩ ⟨⟨rfl, rfl⟩, fun b o hb e => ⟨by simp, hk₀ b o e⟩⟩ (hA.deeper _) ⟨fun b o e => hk₀ b o (of_hideAll _ e), fun x hx => ?_, ⟨_, hns, fun _ _ => rfl⟩, (fun x c h => nomatch h), fun q hq => hk₀ _ _ (hmv q hq), ?_, fun x hx => ?_, fun x hx => ?_⟩) (fun f s' h' => h') (fun _ _ h => h.elim)
  · simp only [Fm.adr, List.map_nil, List.cons_append, List.nil_append, List.mem_cons] at hx
    rcases hx with h | h
    · subst h
      cases q : (hideAll s.heap (mv.map (·.1))).get? s.heap.objs.size with
      | none => rfl
      | some o => exact absurd rfl (lt (of_hideAll _ q))
    · exact hideAll_none _ h
  · simp only [Fm.adr, List.map_nil, List.cons_append, List.nil_append, List.nodup_cons]
    refine ⟨fun q => ?_, hnd⟩
    obtain ⟨z, hz, e⟩ := List.mem_map.mp q
    exact lt (hmv z hz) e
  · simp only [Fm.adr, List.map_nil, List.cons_append, List.nil_append, List.mem_cons] at hx
    rcases hx with h | h
    · simp [h]
    · obtain ⟨z, hz, rfl⟩ := List.mem_map.mp h
      exact List.mem_cons_of_mem _ (hmX z hz)
  · rcases List.mem_cons.mp hx with h | h
    · obtain ⟨o, _, _, e, _⟩ := hns; exact ⟨o, h ▸ e⟩
    · obtain ⟨o, e⟩ := lv x h; exact ⟨o, hk₀ x o e⟩

/-- a call of any function without cells of its own; mv: what it may turn -/
theorem enterMc {a : Addr} {o : Obj} {fd : FuncData} {body : List Stmt} {k : Nat} {mv : List (Addr × Obj)} {vals : List Value} {binds : List (Str × Value)} {R : Result → Shared → Prop} (nl : s.heap.NoLimit) (lv : Liv s X) (hmv : ∀ q ∈ mv, s.heap.get? q.1 = some q.2) (hmX : ∀ q ∈ mv, q.1 ∈ X) (hnd : (mv.map (·.1)).Nodup) (hA : Rm A (k + 1))
    (ho : s.heap.get? a = some o) (hdat : o.data = .func fd) (hbody : fd.body = .stmts body) (hcd : s.heap.CodeRec fd.code fd.qualname)
    (hbind : BindsTo s fd ⟨vals, []⟩ binds) (hcell : ∀ x ∈ fd.scope.names, x.2 ≠ .cell) (hloc : ∀ x ∈ binds, fd.scope.names.lookup x.1 = some .local)
    (hco : fd.scope.isCoroutine = false) (hgen : fd.scope.isGenerator = false) (hk : fd.scope.kind = .function)
    (h : ∀ s₁ L, L ∉ X → Go X s (L :: X) s₁ → Kept s s₁ → Rm (A.deeper (callEnv fd L a)) k → Fra (hideAll s.heap (mv.map (·.1))) s₁ (L :: X) ⟨L, []⟩ (fun x => binds.reverse.lookup x) mv →
      W p w (A.deeper (callEnv fd L a)) (execs body (callEnv fd L a)) (fun f s' => R (.ok (.ret (match f with | .ret v => v | _ => .none))) s') s₁) :
    codeAny (model p w) A (.call (.ref a) ⟨vals, []⟩) R s :=
  codeAny_call_function (by have := hA.depth; omega) ho hdat hco hgen hbody hcd (hbind _ _ _ _ (enter_at nl lv hmv hmX hnd hA hcell hloc hk h))
/-- what a call hands back -/
abbrev RQ (Q : Value → Shared → Prop) : Result → Shared → Prop := fun r s' => match r with | .ok (.ret v) => Q v s' | .ok _ => False | .error e => NoE e s'

/-! tuples -/
theorem isTup_of {h : Heap} {a vs n} (e : h.get? a = some (tup vs n)) : IsTup h a vs.toArray := ⟨_, e, rfl, n, rfl⟩
theorem seqIdx {i n : Nat} (h : i < n) : seqIndex? (i : Int) n = some i := by
  unfold seqIndex?
  simp [show ¬ ((i : Int) < 0) by omega, h]
theorem r_tup_item {value slice : Expr} {a : Addr} {vs : List Value} {n i : Nat} {t : Tok} {v : Value} {Q : Value → Shared → Prop} (ha : s.heap.get? a = some (tup vs n)) (hi : i < 2 ^ 62) (hv : vs[i]? = some v) (h : Q v s)
    (hs : subscripted slice false (.ref a) (.int i t) = operate [.ref a, .int i t] (getItem (.ref a) (.int i t)) := by with_unfolding_all rfl) :
    W p w A (subscriptTail value slice (.ref a) (.int i t)) Q s :=
  tail_any (isTup_of ha).typeIs slot_tuple_getitem.lookup (PyProof.Rows.getItem_tuple (k := (i : Int)) (isTup_of ha) (by omega) (by omega) (seqIdx (by have := (List.getElem?_eq_some_iff.mp hv).1; simpa using this)) (by simpa using hv) h) hs
theorem r_truthy_tup {a : Addr} {vs : List Value} {n : Nat} {Q : Bool → Shared → Prop} (ha : s.heap.get? a = some (tup vs n)) (hl : vs.length < 2 ^ 62) (h : ∀ s', Tk s s' → Q (!vs.isEmpty) s') : W p w A (truthy (.ref a)) Q s :=
  truthy_tuple (isTup_of ha) (by simp; omega) (by have := h { s with toks := s.toks + 1 + 1 } tk_of; simpa using this)
theorem r_truthy_list {a : Addr} {vs : List Value} {n : Nat} {Q : Bool → Shared → Prop} (ha : s.heap.get? a = some (lst vs n)) (hl : vs.length < 2 ^ 62) (h : ∀ s', Tk s s' → Q (!vs.isEmpty) s') : W p w A (truthy (.ref a)) Q s :=
  wpAny_truthy_list (isList_of ha) (by simp; omega) (by have := h { s with toks := s.toks + 1 + 1 } tk_of; simpa using this)
/-- t[k:] -/
theorem r_tup_from {value : Expr} {p1 p2 : Pos} {k kk : Nat} {a : Addr} {vs : List Value} {n : Nat} {Q : Value → Shared → Prop} (F : Fra B s X φ m own) (ha : s.heap.get? a = some (tup vs n)) (h1 : 1 ≤ k) (hk : k ≤ vs.length) (hl : vs.length ≤ 1000)
    (h : ∀ s' b, Kept s s' → Fra B s' X φ m own → b ∉ X → s'.heap.get? b = some (tup (vs.drop k) 0) → Q (.ref b) s')
    (hs : ∀ i, subscripted (.Slice (some (.Constant (.int k) kk p1)) none none p2) false (.ref a) (.ref i) = operate [.ref i, .ref a] (getItem (.ref a) (.ref i)) := by intro _; with_unfolding_all rfl)
    (hg : ∀ r, letTemporaryGo value (.ref a) r = pure () := by intro _; with_unfolding_all rfl) :
    W p w A (eval (.Slice (some (.Constant (.int k) kk p1)) none none p2) env) (fun i s₂ => W p w A (subscriptTail value (.Slice (some (.Constant (.int k) kk p1)) none none p2) (.ref a) i) Q s₂) s := by
  refine wpAny_Slice ?_
  show W p w A (eval _ env) _ _
  refine r_int fun s1 t1 k1 => ?_
  refine wpAny_pure (wpAny_pure ?_)
  have F1 := F.tk k1
  obtain ⟨F2, k2, e2, n2⟩ := F1.newF (s' := { s1 with heap := s1.heap.push { cls := .type "slice", data := .fields #[.int k t1, .none, .none] } }) (o := { cls := .type "slice", data := .fields #[.int k t1, .none, .none] }) rfl rfl ⟨rfl, rfl⟩
  have ha1 : s1.heap.get? a = some (tup vs n) := k1.kept.get ha
  have ha2 := k2.get ha1
  refine subscriptTail_ops (isTup_of ha2).typeIs slot_tuple_getitem.lookup (getItem_tuple_from (isTup_of ha2) (Heap.IsSliceOf.new ..) h1 (by simpa using hk) ?_ (by simp; exact Nat.le_trans hl (by decide))) (hs _) hg
  obtain ⟨F3, k3, e3, n3⟩ := F2.newF (s' := { s1 with heap := (s1.heap.push { cls := .type "slice", data := .fields #[.int k t1, .none, .none] }).push (tup (vs.drop k) 0) }) (o := tup (vs.drop k) 0) rfl rfl ⟨rfl, rfl⟩
  exact h _ _ (Go.trans k1.kept (Go.trans k2 k3)) F3 n3 e3
end
end Mine
end

-- Lib5
section
open PySem PySem.W PyProof.Rows
set_option maxRecDepth 100000
set_option linter.all false
namespace Mine
/-! texts, slices, unpacking -/
/-- c replaced by d -/
def subs (c : Nat) (d : List Nat) (l : List Nat) : List Nat := l.flatMap fun a => if a = c then d else [a]
theorem subs_append (c d a b) : subs c d (a ++ b) = subs c d a ++ subs c d b := List.flatMap_append ..
theorem subs_free (c d) : ∀ l : List Nat, c ∉ l → subs c d l = l
  | [], _ => rfl
  | k :: r, h => by
    have h1 : ¬ k = c := fun e => h (e ▸ List.mem_cons_self ..)
    have h2 := subs_free c d r fun m => h (List.mem_cons_of_mem _ m)
    unfold subs at h2 ⊢
    rw [List.flatMap_cons, h2, if_neg h1]; rfl
theorem subs_one (c d) : subs c d [c] = d := by simp [subs]
theorem subs_join (c : Nat) (d : List Nat) : ∀ parts : List Str, (∀ p ∈ parts, c ∉ p.cps.toList) → subs c d (Str.join ⟨#[c]⟩ parts).cps.toList = (Str.join ⟨d.toArray⟩ parts).cps.toList
  | [], _ => rfl
  | [p], h => subs_free c d _ (h p (List.mem_singleton.mpr rfl))
  | p :: q :: r, h => by
    have ih := subs_join c d (q :: r) fun a ha => h a (List.mem_cons_of_mem _ ha)
    show subs c d (p ++ ⟨#[c]⟩ ++ Str.join ⟨#[c]⟩ (q :: r)).cps.toList = (p ++ ⟨d.toArray⟩ ++ Str.join ⟨d.toArray⟩ (q :: r)).cps.toList
    simp only [Str.cps_append, Array.toList_append]
    rw [subs_append, subs_append, ih, subs_free c d _ (h p (List.mem_cons_self ..))]
    show p.cps.toList ++ subs c d [c] ++ _ = _
    rw [subs_one]
theorem split_join (x : Str) (c : Nat) (d : List Nat) : Txt.join ⟨d.toArray⟩ (Txt.split x ⟨#[c]⟩) = ⟨(subs c d x.cps.toList).toArray⟩ := by
  have h := subs_join c d (Txt.split x ⟨#[c]⟩) (StrLaws.split_free x c)
  rw [StrLaws.join_split] at h
  have e : Txt.join ⟨d.toArray⟩ (Txt.split x ⟨#[c]⟩) = Str.join ⟨d.toArray⟩ (Txt.split x ⟨#[c]⟩) := StrLaws.glued_eq_join _ _
  rw [e, h]
theorem join_len (sep : Str) : ∀ parts : List Str, (Str.join sep parts).length + sep.length = (parts.map (·.length)).sum + max parts.length 1 * sep.length
  | [] => by simp [Str.join]; rfl
  | [p] => by simp [Str.join]
  | p :: q :: r => by
    have ih := join_len sep (q :: r)
    show (p ++ sep ++ Str.join sep (q :: r)).length + sep.length = _
    rw [Str.length_append, Str.length_append]
    simp only [List.map_cons, List.sum_cons, List.length_cons] at ih ⊢
    have e1 : max (r.length + 1) 1 = r.length + 1 := by omega
    have e2 : max (r.length + 1 + 1) 1 = r.length + 1 + 1 := by omega
    rw [e1] at ih
    rw [e2]
    have : (r.length + 1 + 1) * sep.length = (r.length + 1) * sep.length + sep.length := Nat.succ_mul ..
    omega
theorem split_sizes (x : Str) (c : Nat) : ((Txt.split x ⟨#[c]⟩).map (·.length)).sum + (Txt.split x ⟨#[c]⟩).length ≤ x.length + 1 := by
  have h := join_len ⟨#[c]⟩ (Txt.split x ⟨#[c]⟩)
  rw [StrLaws.join_split] at h
  have : (⟨#[c]⟩ : Str).length = 1 := rfl
  rw [this] at h
  omega
theorem mk_ofString (x : String) : Str.ofString x = ⟨(x.toList.map Char.toNat).toArray⟩ := Str.ofString_eq_toList x

theorem oNil : Str.ofString "" = ⟨#[]⟩ := by decide +kernel
section
variable {p : Program} {w : World} {A : Around} {s : Shared} {env : Env} {B : Heap} {X : List Addr} {φ : Fm} {m : Str → Option Value} {own : List (Addr × Obj)} {mg mb : Str → Option Value}

theorem r_split {x : Str} {c : Nat} {t u : Tok} {Q : Value → Shared → Prop} (hx : x.length ≤ 1000)
    (h : ∀ s' D l, Kept s s' → l.map (·.1) = Txt.split x ⟨#[c]⟩ → s'.heap.IsList D (strValues l).toArray → Q (.ref D) s') : W p w A (call (.builtin "str.split") [.str x t, .str ⟨#[c]⟩ u]) Q s := by
  refine SCH.split1 (P := fun h' => ∀ b o, s.heap.get? b = some o → h'.get? b = some o) (fun h' ob hp b o e => Heap.get?_push_of_some _ (hp b o e)) (fun _ _ e => e) rfl ?_ (Nat.le_trans hx (by decide)) ?_
  · intro D l h' k hl hP hL
    exact h { s with heap := h', toks := k } D l ⟨⟨rfl, rfl⟩, fun b o _ e => ⟨by simp, hP b o e⟩⟩ hl hL
  · rw [length_partsBetween]
    have := StrLaws.occ_length_le x ⟨#[c]⟩ 0 x.length (x.length + 1)
    exact Nat.le_trans (show _ ≤ 1002 by omega) (by decide)
theorem r_join {sep : Str} {t : Tok} {D : Addr} {l : List (Str × Tok)} {ys : List Str} {Q : Value → Shared → Prop} (hl : s.heap.IsList D (strValues l).toArray) (hy : l.map (·.1) = ys) (hw : (ys.map (·.length)).sum + ys.length * sep.length ≤ 16777216)
    (h : ∀ s' t', Tk s s' → Q (.str (Txt.join sep ys) t') s') : W p w A (call (.builtin "str.join") [.str sep t, .ref D]) Q s :=
  SC.join hl hy (joinOk_of hw) fun t' k => h _ t' tk_of
/-- join over a list of texts -/
theorem r_joinL {sep : Str} {t : Tok} {D : Addr} {vs : List Value} {n : Nat} {ys : List Str} {X' : List Addr} {h' : Heap} {Q : Value → Shared → Prop} (hl : s.heap.get? D = some (lst vs n)) (hy : All2 (RStr h' X') vs ys) (hw : (ys.map (·.length)).sum + ys.length * sep.length ≤ 16777216)
    (h : ∀ s' t', Tk s s' → Q (.str (Txt.join sep ys) t') s') : W p w A (call (.builtin "str.join") [.str sep t, .ref D]) Q s := by
  have : ∀ {vs : List Value} {ys : List Str}, All2 (RStr h' X') vs ys → ∃ l : List (Str × Tok), vs = strValues l ∧ l.map (·.1) = ys := by
    intro vs ys hy
    induction hy with
    | nil => exact ⟨[], rfl, rfl⟩
    | cons hx _ ih =>
      obtain ⟨u, e⟩ := hx
      obtain ⟨l, h1, h2⟩ := ih
      exact ⟨(_, u) :: l, by rw [e, h1]; rfl, by simp [h2]⟩
  obtain ⟨l, e, e2⟩ := this hy
  subst e
  exact r_join (isList_of hl) e2 hw h

/-! parts of lists and texts -/
theorem r_list_slice {value slice : Expr} {a : Addr} {vs : List Value} {n : Nat} {vl vu : Value} {lo hi : Option Int} {Q : Value → Shared → Prop} (F : Fra B s X φ m own) (ha : s.heap.get? a = some (lst vs n)) (pl : IsPart vl lo) (pu : IsPart vu hi) (hl : vs.length ≤ 1000)
    (h : ∀ s' b, Kept s s' → Fra B s' X φ m own → b ∉ X → s'.heap.get? b = some (lst ((vs.drop (lo.elim 0 (clipAt vs.length))).take (hi.elim vs.length (clipAt vs.length) - lo.elim 0 (clipAt vs.length))) 0) → Q (.ref b) s')
    (hs : ∀ i, subscripted slice false (.ref a) (.ref i) = operate [.ref i, .ref a] (getItem (.ref a) (.ref i)) := by intro _; with_unfolding_all rfl)
    (ht : ∀ r, letTemporaryGo value (.ref a) r = pure () := by intro _; with_unfolding_all rfl) :
    W p w A (subscriptTail value slice (.ref a) (.ref s.heap.objs.size)) Q { s with heap := s.heap.push { cls := .type "slice", data := .fields #[vl, vu, .none] } } := by
  obtain ⟨F2, k2, e2, n2⟩ := F.newF (s' := { s with heap := s.heap.push { cls := .type "slice", data := .fields #[vl, vu, .none] } }) (o := { cls := .type "slice", data := .fields #[vl, vu, .none] }) rfl rfl ⟨rfl, rfl⟩
  have ha2 := k2.get ha
  have hz : vs.toArray.size ≤ sizeLine := by rw [List.size_toArray]; exact Nat.le_trans hl (by decide)
  refine subscriptTail_ops (isList_of ha2).typeIs list_getitem_lookup (wpAny_getItem_list_slice (isList_of ha2) (Heap.IsSliceOf.new ..) pl pu .none (by simp) ?_ hz) (hs _) ht
  have e : slicePick vs.toArray lo hi none = ((vs.drop (lo.elim 0 (clipAt vs.length))).take (hi.elim vs.length (clipAt vs.length) - lo.elim 0 (clipAt vs.length))).toArray := by
    rw [slicePick_plain]; simp
  obtain ⟨F3, k3, e3, n3⟩ := F2.newF (s' := { s with heap := (s.heap.push { cls := .type "slice", data := .fields #[vl, vu, .none] }).push (lst ((vs.drop (lo.elim 0 (clipAt vs.length))).take (hi.elim vs.length (clipAt vs.length) - lo.elim 0 (clipAt vs.length))) 0) }) (o := lst ((vs.drop (lo.elim 0 (clipAt vs.length))).take (hi.elim vs.length (clipAt vs.length) - lo.elim 0 (clipAt vs.length))) 0) rfl rfl ⟨rfl, rfl⟩
  have := h _ _ (Go.trans k2 k3) F3 n3 e3
  rw [e]
  exact this
theorem clip_le {n k : Nat} : clipAt n (k : Int) = min k n := clipAt_nat _ _

/-! unpacking -/
theorem r_unpack_list {elts : List Expr} {kk : Nat} {pos : Pos} {a : Addr} {vs : List Value} {n : Nat} {Q : Unit → Shared → Prop} (hA : A.handled = none) (ha : s.heap.get? a = some (lst vs n)) (hn : (assignEach elts env).length = vs.length) (hstar : (assignEach elts env).findIdx? (·.1) = none)
    (h : ∀ s', Kept s s' → W p w A (assignInOrder ((assignEach elts env).map (·.2)) vs) Q s') : W p w A (assign (.Tuple elts kk pos) env (.ref a)) Q s := by
  unfold W
  rw [PyProof.Rows.assign_Tuple]
  refine wpAny_bind (wpAny_standAt ?_)
  unfold unpack
  rw [hn, hstar]
  have e : vs.length = vs.toArray.size := by simp
  rw [e]
  refine wpAny_bind (wpAny_holding (kun_itemsOf hA (isList_of ha) fun h' hx => ?_))
  have := h { s with heap := h' } ⟨⟨rfl, rfl⟩, fun b o _ e => ⟨by simp, hx b o (Nat.ne_of_lt (Heap.lt_size e)) e⟩⟩
  simpa using this
theorem r_unpack_tup {elts : List Expr} {kk : Nat} {pos : Pos} {a : Addr} {vs : List Value} {n : Nat} {Q : Unit → Shared → Prop} (hA : A.handled = none) (ha : s.heap.get? a = some (tup vs n)) (hn : (assignEach elts env).length = vs.length) (hstar : (assignEach elts env).findIdx? (·.1) = none)
    (h : ∀ s', Kept s s' → W p w A (assignInOrder ((assignEach elts env).map (·.2)) vs) Q s') : W p w A (assign (.Tuple elts kk pos) env (.ref a)) Q s := by
  refine assign_Tuple_tuple hA (isTup_of ha) (by simpa using hn) hstar fun h' hx => ?_
  have := h { s with heap := h' } ⟨⟨rfl, rfl⟩, fun b o _ e => ⟨by simp, hx b o (Nat.ne_of_lt (Heap.lt_size e)) e⟩⟩
  simpa using this

theorem r_strC {x y : Str} {k : Nat} {pos : Pos} {Q : Value → Shared → Prop} (e : x = y) (h : ∀ s' t, Tk s s' → Q (.str y t) s') : W p w A (eval (.Constant (.str x) k pos) env) Q s := by subst e; exact r_str h
theorem r_eqI {a b : Int} {t u : Tok} {Q : Value → Shared → Prop} (h : Q (.bool (decide (a = b))) s) : W p w A (compareOp .Eq (.int a t) (.int b u)) Q s := by
  refine PyProof.Rows.eq_int ?_
  have : (a == b) = decide (a = b) := by rw [Bool.eq_iff_iff]; simp
  first | exact h | (rw [this]; exact h)

/-! signs -/
theorem cnt_count (c : Nat) : ∀ l : List Nat, cnt c l = (l.count c : Nat)
  | [] => rfl
  | n :: r => by
    rw [cnt_cons, cnt_count c r, List.count_cons]
    by_cases h : n = c
    · simp [h]; omega
    · have : (n == c) = false := by simpa using h
      simp [h, this]
theorem r_count {x : Str} {c : Nat} {t u : Tok} {Q : Value → Shared → Prop} (h : ∀ s' t', Tk s s' → Q (.int ((x.cps.toList.count c : Nat) : Int) t') s') : W p w A (call (.builtin "str.count") [.str x t, .str ⟨#[c]⟩ u]) Q s := by
  refine SC.count ?_
  have e : Txt.count x ⟨#[c]⟩ = ((x.cps.toList.count c : Nat) : Int) := by
    rw [count_is]; exact cnt_count c _
  rw [e]
  exact h _ _ tk_of
theorem r_in_sign {x : Str} {c : Nat} {t u : Tok} {Q : Value → Shared → Prop} (h : Q (.bool (decide (c ∈ x.cps.toList))) s) : W p w A (compareOp .In (.str ⟨#[c]⟩ u) (.str x t)) Q s := by
  refine in_str ?_
  rw [StrLaws.found_one]; exact h
theorem find_sign (x : Str) (c i : Nat) (hi : x.cps.toList[i]? = some c) (hn : ∀ k, k < i → x.cps.toList[k]? ≠ some c) : ∃ r, Builtin.Str.occurrences x ⟨#[c]⟩ 0 x.length 1 = i :: r := by
  rcases StrLaws.occ_head x ⟨#[c]⟩ 1 (Nat.le_refl 1) with ⟨_, h⟩ | ⟨j, r, e, hj, hlt⟩
  · exact absurd ((StrLaws.subAt_one x c i).mpr hi) (h i)
  · have h1 := (StrLaws.subAt_one x c j).mp hj
    rcases Nat.lt_trichotomy i j with q | q | q
    · exact absurd ((StrLaws.subAt_one x c i).mpr hi) (hlt i q)
    · exact ⟨r, by rw [e, q]⟩
    · exact absurd h1 (hn j q)
theorem r_index {x : Str} {c i : Nat} {t u : Tok} {Q : Value → Shared → Prop} (hi : x.cps.toList[i]? = some c) (hn : ∀ k, k < i → x.cps.toList[k]? ≠ some c) (h : ∀ s' t', Tk s s' → Q (.int (i : Int) t') s') : W p w A (call (.builtin "str.index") [.str x t, .str ⟨#[c]⟩ u]) Q s := by
  obtain ⟨r, e⟩ := find_sign x c i hi hn
  exact SC.index e (h _ _ tk_of)
theorem r_eqS {x y : Str} {t u : Tok} {Q : Value → Shared → Prop} (h : Q (.bool (decide (x = y))) s) : W p w A (compareOp .Eq (.str x t) (.str y u)) Q s := by
  refine PyProof.Rows.eq_str ?_
  have : (x == y) = decide (x = y) := by rw [Bool.eq_iff_iff]; simp
  rw [this]; exact h
theorem r_neS {x y : Str} {t u : Tok} {Q : Value → Shared → Prop} (h : Q (.bool (decide (x ≠ y))) s) : W p w A (compareOp .NotEq (.str x t) (.str y u)) Q s := by
  refine PyProof.Rows.ne_str ?_
  have : (x != y) = decide (x ≠ y) := by rw [Bool.eq_iff_iff]; simp
  rw [this]; exact h

theorem r_method_pop {a : Addr} {vs : List Value} {n : Nat} {pl : Sem Bool} {Q : Value × List Value → Shared → Prop} (ho : s.heap.get? a = some (lst vs n)) (h : Q (.builtin "list.pop", [.ref a]) s) :
    W p w A (getMethod (.ref a) "pop" pl) Q s := getMethod_list_of PySem.F.slot_list_pop PySem.F.type_list_pop (isList_of ho) (noDict_of ho rfl) h
/-- pop(0) of the k-th owned list -/
theorem r_pop0 {a : Addr} {v : Value} {vs : List Value} {n : Nat} {t : Tok} {Q : Value → Shared → Prop} (F : Fra B s X φ m own) (k : Nat) (hk : own[k]? = some (a, lst (v :: vs) n))
    (h : ∀ s' n', Go X s X s' → Fra B s' X φ m (own.set k (a, lst vs n')) → Q v s') (hsz : vs.length < sizeLine) : W p w A (call (.builtin "list.pop") [.ref a, .int 0 t]) Q s := by
  have ho := F.at hk
  refine call_meets PySem.F.slot_list_pop ⟨_, ho, rfl⟩ PySem.F.entry_list_pop (PySem.F.args_list_pop_2 _ _) (MeetsSeq.list_pop_at a (v :: vs).toArray n 0 t 0 v rfl (by simp [seqIndex?]) (by simp) (by simp; omega)) ⟨ho, ?_⟩
  have ho' : (s.heap.update a (Obj.mapSeq fun xs => xs.eraseIdxIfInBounds 0)).get? a = some (lst vs (if ((v :: vs).toArray.eraseIdxIfInBounds 0).size == (v :: vs).toArray.size then n else n + 1)) := by
    rw [Heap.get?_update_self _ ho rfl]
    have e : (v :: vs).toArray.eraseIdxIfInBounds 0 = vs.toArray := by simp
    show some ({ cls := .type "list", data := .seq ((v :: vs).toArray.eraseIdxIfInBounds 0) (if ((v :: vs).toArray.eraseIdxIfInBounds 0).size == (v :: vs).toArray.size then n else n + 1) } : Obj) = _
    rw [e]; rfl
  obtain ⟨F', g⟩ := F.setO (s' := { s with heap := s.heap.update a (Obj.mapSeq fun xs => xs.eraseIdxIfInBounds 0) }) hk (Heap.SameBut.update ..) ho' ⟨rfl, rfl⟩
  exact h _ _ g F'
end
end Mine
end

-- Zip
section
open PySem PySem.W PyProof.Rows
set_option maxRecDepth 100000
set_option linter.all false
namespace Mine
section
variable {p : Program} {w : World} {A : Around} {s : Shared} {env : Env} {B : Heap} {X : List Addr} {φ : Fm} {m : Str → Option Value} {own : List (Addr × Obj)} {mg mb : Str → Option Value}

/-- new objects that the frame owns -/
theorem Fra.addY {s' : Shared} (F : Fra B s X φ m own) (k : Kept s s') (Y : List (Addr × Obj)) (hY : ∀ q ∈ Y, s'.heap.get? q.1 = some q.2) (hbig : ∀ q ∈ Y, s.heap.objs.size ≤ q.1) (nd : (Y.map (·.1)).Nodup) : Fra B s' (Y.map (·.1) ++ X) φ m (own ++ Y) := by
  have lX : ∀ x ∈ X, x < s.heap.objs.size := fun x hx => let ⟨o, e⟩ := F.live x hx; Heap.lt_size e
  have F1 := F.kept k
  have sp : ∀ x ∈ φ.adr ++ (own ++ Y).map (·.1), x ∈ φ.adr ++ own.map (·.1) ∨ x ∈ Y.map (·.1) := fun x hx => by
    rw [List.map_append, ← List.append_assoc] at hx; exact List.mem_append.mp hx
  refine ⟨F1.keep, fun x hx => ?_, F1.ns, F1.cell, fun q hq => ?_, ?_, fun x hx => ?_, fun x hx => ?_⟩
  · rcases sp x hx with h | h
    · exact F.fresh x h
    · obtain ⟨q, hq, rfl⟩ := List.mem_map.mp h
      cases e : B.get? q.1 with
      | none => rfl
      | some o => exact absurd (Heap.lt_size (F.keep _ _ e)) (Nat.not_lt.mpr (hbig q hq))
  · rcases List.mem_append.mp hq with h | h
    · exact F1.has q h
    · exact hY q h
  · rw [List.map_append, ← List.append_assoc]
    refine List.nodup_append.mpr ⟨F.nd, nd, fun x hx y hy e => ?_⟩
    obtain ⟨q, hq, rfl⟩ := List.mem_map.mp hy
    have := lX x (F.inX x hx)
    rw [e] at this
    exact absurd this (Nat.not_lt.mpr (hbig q hq))
  · rcases sp x hx with h | h
    · exact List.mem_append_right _ (F.inX x h)
    · exact List.mem_append_left _ h
  · rcases List.mem_append.mp hx with h | h
    · obtain ⟨q, hq, rfl⟩ := List.mem_map.mp h
      exact ⟨_, hY q hq⟩
    · exact F1.live x h

/-- the frame gives up what it owns last; M of that has turned -/
theorem Fra.dropY {s' : Shared} {Y : List (Addr × Obj)} {M : List Addr} (F : Fra B s (Y.map (·.1) ++ X) φ m (own ++ Y)) (hX : ∀ x ∈ X, x ∉ Y.map (·.1)) (k : Kp M s s') (hM : ∀ x ∈ M, x ∈ Y.map (·.1)) : Fra B s' X φ m own := by
  have nd := F.nd
  rw [List.map_append, ← List.append_assoc] at nd
  obtain ⟨n1, n2, n3⟩ := List.nodup_append.mp nd
  have nM : ∀ x ∈ φ.adr ++ own.map (·.1), x ∉ M := fun x hx q => n3 x hx x (hM x q) rfl
  have sub : ∀ x ∈ φ.adr ++ own.map (·.1), x ∈ φ.adr ++ (own ++ Y).map (·.1) := fun x hx => by
    rw [List.map_append, ← List.append_assoc]; exact List.mem_append_left _ hx
  refine ⟨fun b o e => k b o (fun q => ?_) (F.keep b o e), fun x hx => F.fresh x (sub x hx), ?_, fun x c e => cell_keeps (F.cell x c e) fun o e' => k _ o (nM _ (List.mem_append_left _ (Fm.mem e))) e', fun q hq => k _ _ (nM _ (List.mem_append_right _ (List.mem_map_of_mem hq))) (F.has q (List.mem_append_left _ hq)), n1, fun x hx => ?_, fun x hx => ?_⟩
  · have : B.get? b = none := F.fresh b (by rw [List.map_append]; exact List.mem_append_right _ (List.mem_append_right _ (hM b q)))
    rw [this] at e; cases e
  · obtain ⟨ml, a, b⟩ := F.ns
    exact ⟨ml, ns_keeps a fun o e => k _ o (nM _ (by simp [Fm.adr])) e, b⟩
  · rcases List.mem_append.mp (F.inX x (sub x hx)) with h | h
    · exact absurd rfl (n3 x hx x h)
    · exact h
  · obtain ⟨o, e⟩ := F.live x (List.mem_append_right _ hx)
    exact ⟨o, k x o (fun q => hX x hx (hM x q)) e⟩

/-- what a zip turns -/
def zOwn (z TI TO i1 i2 : Addr) (a b : Value) (o1 o2 : Obj) : List (Addr × Obj) := [(z, { cls := .type "zip", dict := none, data := .fields #[.none, .bool false, .bool false, .ref TI, .ref TO], slots := #[] }), (TI, { cls := .type "tuple", data := .seq #[.ref i1, .ref i2] }), (TO, { cls := .type "tuple", data := .seq #[a, b] }), (i1, o1), (i2, o2)]
def zIt (o : Obj) (l : Addr) (i : Nat) : Prop := o.cls = .type "list_iterator" ∧ o.data = .fields #[.ref l, .int i 0]
inductive ZipI (B : Heap) (X : List Addr) (φ : Fm) (s : Shared) (N : Nat) (z TI TO i1 i2 l1 l2 : Addr) (P : Nat → (Str → Option Value) → List (Addr × Obj) → Prop) (k : Nat) (s₁ : Shared) : Prop
  | mk (i : Nat) (m₁ : Str → Option Value) (own₁ : List (Addr × Obj)) (a b : Value) (o1 o2 : Obj) (hi : i ≤ N) (hk : k = N - i) (sg : SG s s₁) (hP : P i m₁ own₁) (r1 : zIt o1 l1 i) (r2 : zIt o2 l2 i) (F : Fra B s₁ ([z, TI, TO, i1, i2] ++ X) φ m₁ (own₁ ++ zOwn z TI TO i1 i2 a b o1 o2))

theorem ct2 {f : Str} {T : String} {e e2 : Expr} {p' pos : Pos} {Q : Value → Shared → Prop} (G : Gd w mg mb B) (F : Fra B s X φ m own) (hb : bootBuiltins f = some (.type T)) (h : W p w A (eval e env) (fun v s₁ => W p w A (eval e2 env) (fun v2 s₂ => W p w A (call (.type T) [v, v2]) Q s₂) s₁) s)
    (hn : nsIn (hd.heap_1 w.params) mainGlobals f = some none := by rfl) (hx : f ≠ "__name__" := by decide) (hk : env.scope.kind = .function := by rfl) (hl : env.kindOf f = some .globalImplicit := by rfl) (hL : env.globals = mainGlobals := by rfl) (hB : env.builtins = builtinsNs := by rfl) (hd : (f == ("__debug__" : Str)) = false := by rfl)
    (hs : notStar e = true := by rfl) (hs2 : notStar e2 = true := by rfl) (hp : (backTo pos (starEach [e2] env)).any (·.1) = false := by rfl) : W p w A (eval (.Call (.Name f p') [e, e2] [] pos) env) Q s :=
  Call_ (r_blt G F hn hb (PySem.Pv.callWith_type1 (args_cons (wpAny_mono h (fun v s₁ h1 => args_cons (wpAny_mono h1 (fun v2 s₂ h2 => args_nil h2) fun _ _ h => h) (se_cons _ _ _ hs2)) fun _ _ h => h) (se_cons _ _ _ hs)) (se_cons _ _ _ hs) hp) hx hk hl hL hB hd)

theorem zip_core {elts : List Expr} {kk : Nat} {pos : Pos} {body : List Stmt} {l1 l2 : Addr} {vs ws : List Value} {n1 n2 : Nat} {R : Result → Shared → Prop} (hA : A.handled = none)
    (h1 : B.get? l1 = some (lst vs n1)) (h2 : B.get? l2 = some (lst ws n2)) (hl : vs.length = ws.length)
    (P : Nat → (Str → Option Value) → List (Addr × Obj) → Prop)
    (turn : ∀ Z i v u a s₁ m₁ own₁ Y (Q1 : Flow → Shared → Prop), vs[i]? = some v → ws[i]? = some u → P i m₁ own₁ → s₁.heap.get? a = some (tup [v, u] 0) → Fra B s₁ (Z ++ X) φ m₁ (own₁ ++ Y) →
      (∀ s₃ m₂ own₂, SG s₁ s₃ → Fra B s₃ (Z ++ X) φ m₂ (own₂ ++ Y) → P (i + 1) m₂ own₂ → Q1 .next s₃ ∧ Q1 .cont s₃) →
      W p w A (assign (.Tuple elts kk pos) env (.ref a)) (fun _ s₂ => W p w A (execs body env) Q1 s₂) s₁)
    (done : ∀ s₁ m₁ own₁, SG s s₁ → P vs.length m₁ own₁ → Fra B s₁ X φ m₁ own₁ → R (.ok .next) s₁)
    {z TI TO i1 i2 : Addr} (D : ZipApart z TI TO i1 i2 l1 l2) (XZ : ∀ x ∈ X, x ∉ [z, TI, TO, i1, i2]) {s₀ : Shared} (hI : ZipI B X φ s vs.length z TI TO i1 i2 l1 l2 P vs.length s₀) :
    codeAny (model p w) A (.forLoop (.Tuple elts kk pos) (.ref z) body [] env) R s₀ := by
  refine codeAny_forLoop_any (fun k s₁ => ZipI B X φ s vs.length z TI TO i1 i2 l1 l2 P k s₁) (fun k s₁ hI => ?_) vs.length hI
  obtain ⟨i, m₁, own₁, a, b, o1', o2', hi, hk', sg, hP, r1', r2', Fa⟩ := hI
  have hzz : IsZip s₁.heap z TI TO .none := Fa.has (z, _) (List.mem_append_right _ (.head _))
  have hTT : IsPair s₁.heap TI (.ref i1) (.ref i2) := Fa.has (TI, _) (List.mem_append_right _ (.tail _ (.head _)))
  have hOO : IsPair s₁.heap TO a b := Fa.has (TO, _) (List.mem_append_right _ (.tail _ (.tail _ (.head _))))
  have hI1 : s₁.heap.IsListIter i1 l1 i := ⟨o1', Fa.has (i1, o1') (List.mem_append_right _ (.tail _ (.tail _ (.tail _ (.head _))))), r1'⟩
  have hI2 : s₁.heap.IsListIter i2 l2 i := ⟨o2', Fa.has (i2, o2') (List.mem_append_right _ (.tail _ (.tail _ (.tail _ (.tail _ (.head _)))))), r2'⟩
  have hL1 := isList_of (Fa.keep _ _ h1)
  have hL2 := isList_of (Fa.keep _ _ h2)
  rcases Nat.lt_or_eq_of_le hi with hlt | heq
  · obtain ⟨v, hv⟩ : ∃ v, vs[i]? = some v := ⟨_, List.getElem?_eq_getElem hlt⟩
    obtain ⟨u, hu⟩ : ∃ u, ws[i]? = some u := ⟨_, List.getElem?_eq_getElem (hl ▸ hlt)⟩
    have hx : vs.toArray[i]? = some v := by rw [List.getElem?_toArray]; exact hv
    have hy : ws.toArray[i]? = some u := by rw [List.getElem?_toArray]; exact hu
    refine wpAny_pyNext_zip_item D hzz hTT hOO hI1 hI2 hL1 hL2 hx hy fun h₂ b1 b2 b3 b4 b5 b6 b7 => ?_
    have nN : s₁.heap.objs.size ≠ z := fun q => Nat.lt_irrefl _ (q ▸ Heap.lt_size hzz)
    refine wpAny_letOwnedTupleGo_zip b1 fun h₃ c1 c2 => ?_
    have hT : h₃.get? s₁.heap.objs.size = some (tup [v, u] 0) := c2.extBut _ _ nN b5
    obtain ⟨p1, p2, p3⟩ := b3
    obtain ⟨q1, q2, q3⟩ := b4
    have old : ∀ c o, c ∉ [z, TO, i1, i2] → s₁.heap.get? c = some o → h₃.get? c = some o := fun c o hc e => by
      simp only [List.mem_cons, List.not_mem_nil, or_false, not_or] at hc
      exact c2.extBut c o hc.1 (b7 c o hc.1 hc.2.1 hc.2.2.1 hc.2.2.2 e)
    have Fb : Fra B { s₁ with heap := h₃ } ([z, TI, TO, i1, i2] ++ X) φ m₁ (own₁ ++ zOwn z TI TO i1 i2 v u p1 q1) := by
      have kb : KB [z, TO, i1, i2] s₁ { s₁ with heap := h₃ } := ⟨⟨rfl, rfl⟩, old⟩
      refine Fa.kb kb (fun x hx => ?_) (by simp [zOwn]) (fun q hq => ?_)
      · simp only [List.mem_cons, List.not_mem_nil, or_false] at hx
        rcases hx with h | h | h | h <;> simp [h, zOwn]
      · rcases List.mem_append.mp hq with h | h
        · have nd2 := (List.nodup_append.mp Fa.nd).2.1
          rw [List.map_append] at nd2
          have dj := (List.nodup_append.mp nd2).2.2 q.1 (List.mem_map_of_mem h)
          refine old q.1 q.2 (fun hc => ?_) (Fa.has q (List.mem_append_left _ h))
          simp only [List.mem_cons, List.not_mem_nil, or_false] at hc
          rcases hc with h | h | h | h
          · exact dj z (.head _) h
          · exact dj TO (.tail _ (.tail _ (.head _))) h
          · exact dj i1 (.tail _ (.tail _ (.tail _ (.head _)))) h
          · exact dj i2 (.tail _ (.tail _ (.tail _ (.tail _ (.head _))))) h
        · simp only [zOwn, List.mem_cons, List.not_mem_nil, or_false] at h
          rcases h with h | h | h | h | h
          · subst h; exact c1
          · subst h; exact c2.extBut _ _ D.TIz (b7 TI _ D.TIz D.TITO D.TIi1 D.TIi2 hTT)
          · subst h; exact c2.extBut _ _ D.TOz b2
          · subst h; exact c2.extBut _ _ D.i1z p2
          · subst h; exact c2.extBut _ _ D.i2z q2
    refine wpAny_mono (turn [z, TI, TO, i1, i2] i v u s₁.heap.objs.size { s₁ with heap := h₃ } m₁ own₁ _ _ hv hu hP hT Fb ?_) (fun _ s₄ h₄ => wpAny_mono h₄ (fun f s₅ h₅ => h₅) fun _ _ h => h.elim) fun _ _ h => h.elim
    intro s₅ m₂ own₂ sg' F5 hP5
    have fin : ∃ m, m < k ∧ ZipI B X φ s vs.length z TI TO i1 i2 l1 l2 P m s₅ :=
      ⟨vs.length - (i + 1), by rw [hk']; exact Nat.sub_lt_sub_left hlt (Nat.lt_succ_self i), i + 1, m₂, own₂, v, u, p1, q1, hlt, rfl, ⟨sg'.1.trans sg.1, sg'.2.trans sg.2⟩, hP5, p3, q3, F5⟩
    exact ⟨fin, fin⟩
  · subst heq
    have hend : vs.toArray[vs.length]? = none ∨ ws.toArray[vs.length]? = none := .inl (by simp)
    refine wpAny_pyNext_zip_end hA D hzz hTT hOO hI1 hI2 hL1 hL2 hend fun h₂ b7 => wpAny_execs_nil ?_
    refine done { s₁ with heap := h₂ } m₁ own₁ ⟨sg.1, sg.2⟩ hP (Fra.dropY (M := [z, TO, i1, i2]) (Y := zOwn z TI TO i1 i2 a b o1' o2') Fa XZ (fun c o hc e => ?_) fun x hx => ?_)
    · simp only [List.mem_cons, List.not_mem_nil, or_false, not_or] at hc
      exact b7 c o hc.1 hc.2.1 hc.2.2.1 hc.2.2.2 e
    · simp only [List.mem_cons, List.not_mem_nil, or_false] at hx
      rcases hx with h | h | h | h <;> simp [h, zOwn]

/-- a loop over zip(l1, l2) -/
theorem zip_loop {elts : List Expr} {kk : Nat} {pos : Pos} {body : List Stmt} {l1 l2 : Addr} {vs ws : List Value} {n1 n2 : Nat} {R : Result → Shared → Prop} (hA : A.handled = none) (F : Fra B s X φ m own)
    (h1 : B.get? l1 = some (lst vs n1)) (h2 : B.get? l2 = some (lst ws n2)) (hl : vs.length = ws.length)
    (P : Nat → (Str → Option Value) → List (Addr × Obj) → Prop) (h0 : P 0 m own)
    (turn : ∀ Z i v u a s₁ m₁ own₁ Y (Q1 : Flow → Shared → Prop), vs[i]? = some v → ws[i]? = some u → P i m₁ own₁ → s₁.heap.get? a = some (tup [v, u] 0) → Fra B s₁ (Z ++ X) φ m₁ (own₁ ++ Y) →
      (∀ s₃ m₂ own₂, SG s₁ s₃ → Fra B s₃ (Z ++ X) φ m₂ (own₂ ++ Y) → P (i + 1) m₂ own₂ → Q1 .next s₃ ∧ Q1 .cont s₃) →
      W p w A (assign (.Tuple elts kk pos) env (.ref a)) (fun _ s₂ => W p w A (execs body env) Q1 s₂) s₁)
    (done : ∀ s₁ m₁ own₁, SG s s₁ → P vs.length m₁ own₁ → Fra B s₁ X φ m₁ own₁ → R (.ok .next) s₁) :
    W p w A (call (.type "zip") [.ref l1, .ref l2]) (fun v s₂ => W p w A (pyIter v) (fun it s₃ => codeAny (model p w) A (.forLoop (.Tuple elts kk pos) it body [] env) R s₃) s₂) s := by
  have e1 := F.keep _ _ h1
  have e2 := F.keep _ _ h2
  refine call_zip_2 (isList_of e1) (isList_of e2) fun h' hz hTI hTO hi1 hi2 hsz hk => ?_
  have D := zipApart_new (Heap.lt_size e1) (Heap.lt_size e2)
  have kept : Kept s { s with heap := h' } := ⟨⟨rfl, rfl⟩, fun b o _ e => ⟨by assumption, hk b o e⟩⟩
  refine wpAny_pyIter_zip hz ?_
  obtain ⟨o1, g1, r1⟩ := hi1
  obtain ⟨o2, g2, r2⟩ := hi2
  have lX : ∀ x ∈ X, x < s.heap.objs.size := fun x hx => let ⟨o, e⟩ := F.live x hx; Heap.lt_size e
  generalize hN : s.heap.objs.size = N at *
  have F1 : Fra B { s with heap := h' } _ φ m _ := F.addY kept (zOwn (N + 4) (N + 2) (N + 3) N (N + 1) .none .none o1 o2)
    (by intro q hq; simp only [zOwn, List.mem_cons, List.not_mem_nil, or_false] at hq; rcases hq with h | h | h | h | h <;> (subst h; assumption))
    (by rw [hN]; intro q hq; simp only [zOwn, List.mem_cons, List.not_mem_nil, or_false] at hq; rcases hq with h | h | h | h | h <;> (subst h; first | exact Nat.le_refl _ | exact Nat.le_add_right _ _))
    (by
      simp only [zOwn, List.map_cons, List.map_nil, List.nodup_cons, List.mem_cons, List.not_mem_nil, or_false, not_or, not_false_eq_true, List.nodup_nil, and_true]
      refine ⟨⟨?_, ?_, ?_, ?_⟩, ⟨?_, ?_, ?_⟩, ⟨?_, ?_⟩, ?_⟩ <;> (intro q; have q' : (_ : Nat) = _ := q; simp at q'))
  refine zip_core hA h1 h2 hl P turn done D (fun x hx q => ?_) ⟨0, m, own, .none, .none, o1, o2, Nat.zero_le _, rfl, ⟨rfl, rfl⟩, h0, r1, r2, F1⟩
  have lt := lX x hx
  simp only [List.mem_cons, List.not_mem_nil, or_false] at q
  rcases q with h | h | h | h | h <;> (rw [h] at lt; first | exact Nat.lt_irrefl _ lt | exact absurd lt (Nat.not_lt.mpr (Nat.le_add_right _ _)))
end
end Mine
end

-- Text
section
open PySem PySem.W PyProof.Rows
set_option maxRecDepth 100000
set_option linter.all false
namespace Mine
local macro_rules | `(tactic| walk_at "lkp") => `(tactic| first | assumption | exact upd_same | (refine lks (sne (by decide)) ?_; walk_at "lkp"))
def replF (x : Str) : List (Nat × List Nat) → Str
  | [] => x
  | (c, d) :: r => replF ⟨(subs c d x.cps.toList).toArray⟩ r
def flatR (reps : List (Nat × List Nat)) : List Str := reps.flatMap fun r => [⟨#[r.1]⟩, ⟨r.2.toArray⟩]
theorem subs_len (c : Nat) (d : List Nat) (hd : d.length = 2) : ∀ l : List Nat, (subs c d l).length ≤ 2 * l.length
  | [] => by simp [subs]
  | a :: r => by
    have := subs_len c d hd r
    have e : subs c d (a :: r) = (if a = c then d else [a]) ++ subs c d r := List.flatMap_cons ..
    rw [e, List.length_append, List.length_cons]
    split
    · omega
    · simp only [List.length_cons, List.length_nil]; omega
section
variable {p : Program} {w : World} {A : Around} {s : Shared} {env : Env} {B : Heap} {X : List Addr} {mg mb : Str → Option Value}

inductive RP1 (rx : Str) (h : Heap) (X' : List Addr) (c : Nat) (m : Str → Option Value) (own : List (Addr × Obj)) : Prop
  | mk (reps : List (Nat × List Nat)) (y : Str) (ty : Tok) (a : Addr) (vs : List Value) (n : Nat) (e : own = []) (hc : reps.length = c) (hc2 : c ≤ 2) (hr : ∀ r ∈ reps, r.2.length = 2) (hy : replF y reps = rx) (hl : y.length * 2 ^ c ≤ 400) (q1 : m "text" = some (.str y ty)) (q2 : m "pairs" = some (.ref a)) (q3 : h.get? a = some (tup vs n)) (q4 : a ∉ X') (q5 : All2 (RStr h X') vs (flatR reps))
set_option maxHeartbeats 1000000 in
theorem replace_spec {k : Nat} {x : Str} {c1 c2 : Nat} {d1 d2 : List Nat} {t t1 t2 t3 t4 : Tok} {Q : Value → Shared → Prop} (G : Gd w mg mb s.heap) (lv : Liv s X) (hA : Rm A (k + 2)) (h1 : d1.length = 2) (h2 : d2.length = 2) (hx : x.length ≤ 100)
    (h : ∀ s' t', Kept s s' → Q (.str (replF x [(c1, d1), (c2, d2)]) t') s') : W p w A (call (.ref 21) [.str x t, .str ⟨#[c1]⟩ t1, .str ⟨d1.toArray⟩ t2, .str ⟨#[c2]⟩ t3, .str ⟨d2.toArray⟩ t4]) Q s := by
  refine wpAny_call (codeAny_call_function (fd := fd 21) (body := bd 21) (by have := hA.depth; omega) (G.K 21 (objAt 21) rfl) rfl rfl rfl rfl (codeRec_of G.K rfl) ?_)
  have hb : bindArgs (fd 21) ⟨[.str x t, .str ⟨#[c1]⟩ t1, .str ⟨d1.toArray⟩ t2, .str ⟨#[c2]⟩ t3, .str ⟨d2.toArray⟩ t4], []⟩ = (newTuple [.str ⟨#[c1]⟩ t1, .str ⟨d1.toArray⟩ t2, .str ⟨#[c2]⟩ t3, .str ⟨d2.toArray⟩ t4] >>= fun v => pure [((("text" : Str)), Value.str x t), (("pairs" : Str), v)]) := rfl
  rw [hb]
  refine wpAny_bind (wpAny_newObj_type (wpAny_pure ?_) (by show 4 ≤ sizeLine; decide))
  show wpAny _ _ _ _ _ { s with heap := s.heap.push (tup [.str ⟨#[c1]⟩ t1, .str ⟨d1.toArray⟩ t2, .str ⟨#[c2]⟩ t3, .str ⟨d2.toArray⟩ t4] 0) }
  show wpAny _ _ (newFunctionEnv (fd 21).scope (fd 21).globals (fd 21).closure [(("text" : Str), .str x t), (("pairs" : Str), .ref s.heap.objs.size)] ((fd 21).qualname ++ Str.ofString ".<locals>.") (some 21) (fd 21).code none (fd 21).builtins) _ _ _
  have k0 : Kept s { s with heap := s.heap.push (tup [.str ⟨#[c1]⟩ t1, .str ⟨d1.toArray⟩ t2, .str ⟨#[c2]⟩ t3, .str ⟨d2.toArray⟩ t4] 0) } := push_kept rfl ⟨rfl, rfl⟩
  have hT : (s.heap.push (tup [.str ⟨#[c1]⟩ t1, .str ⟨d1.toArray⟩ t2, .str ⟨#[c2]⟩ t3, .str ⟨d2.toArray⟩ t4] 0)).get? s.heap.objs.size = some (tup [.str ⟨#[c1]⟩ t1, .str ⟨d1.toArray⟩ t2, .str ⟨#[c2]⟩ t3, .str ⟨d2.toArray⟩ t4] 0) := Heap.get?_push_size _ rfl
  have TX : s.heap.objs.size ∉ X := fun q => by obtain ⟨o, e⟩ := lv _ q; exact Nat.lt_irrefl _ (Heap.lt_size e)
  have lv0 := lv.kept k0
  have G0 := G.kept k0
  generalize hTa : s.heap.objs.size = ta at *
  generalize hs0 : ({ s with heap := s.heap.push (tup [.str ⟨#[c1]⟩ t1, .str ⟨d1.toArray⟩ t2, .str ⟨#[c2]⟩ t3, .str ⟨d2.toArray⟩ t4] 0) } : Shared) = s0 at *
  have hT0 : s0.heap.get? ta = some (tup [.str ⟨#[c1]⟩ t1, .str ⟨d1.toArray⟩ t2, .str ⟨#[c2]⟩ t3, .str ⟨d2.toArray⟩ t4] 0) := by subst hs0; exact hT
  refine enter_at (k := k + 1) (mv := []) (X := X) G0.nolimit lv0 (fun _ h => nomatch h) (fun _ h => nomatch h) .nil hA (by decide) (locs rfl) rfl ?_
  intro s₁ L hLX g1 k1 hA1 F0
  refine wp_gen fun Q0 hQ0 => ?_
  obtain ⟨m, F1, m1, m2⟩ : ∃ m, Fra s0.heap s₁ (L :: X) ⟨L, []⟩ m [] ∧ m "text" = some (.str x t) ∧ m "pairs" = some (.ref ta) := ⟨_, F0, rfl, rfl⟩
  clear F0
  refine wpAny_execs_cons (wpAny_While ?_)
  refine while_abs 2 (fun c s m own => RP1 (replF x [(c1, d1), (c2, d2)]) s.heap (L :: X) c m own) F1 ?_ ?_
  · refine ⟨[(c1, d1), (c2, d2)], x, t, ta, _, 0, rfl, rfl, by decide, ?_, rfl, by omega, m1, m2, k1.get hT0, ?_, .cons ⟨_, rfl⟩ (.cons ⟨_, rfl⟩ (.cons ⟨_, rfl⟩ (.cons ⟨_, rfl⟩ .nil)))⟩
    · intro r hr; simp at hr; rcases hr with hr | hr <;> subst hr <;> assumption
    · have := g1.2 ta _ TX hT0; exact this.1
  · intro c s2 m₁ own₁ Q1 Qx hP g2 F2 hQ1 hQx
    obtain ⟨reps, y, ty, a, vs, n, rfl, hc, hc2, hr, hy, hl, q1, q2, q3, q4, q5⟩ := hP
    have ln := q5.len
    have lnR : (flatR reps).length = 2 * reps.length := by
      clear hr hy q5 ln hc hl
      induction reps with
      | nil => rfl
      | cons z r ih => unfold flatR at ih ⊢; rw [List.flatMap_cons, List.length_append, ih]; simp; omega
    refine isTrue_plain (r_loc F2 (by walk_at "lkp") (r_truthy_tup q3 (by omega) fun s3 k3 => ?_))
    have F3 := F2.tk k3
    cases reps with
    | nil =>
      have e0 : vs = [] := by cases q5; rfl
      subst e0
      simp only [List.isEmpty_nil, Bool.not_true, Bool.false_eq_true, if_false]
      refine (hQx _ ?_).2
      refine wpAny_execs_cons (wpAny_Return_some (r_loc F3 (by walk_at "lkp") ?_))
      have gs := g1.trans (g2.trans (k3.go _))
      rw [show y = replF x [(c1, d1), (c2, d2)] from hy]
      exact hQ0 _ _ (h s3 ty (Go.trans k0 (F3.toKept gs.1)))
    | cons r rest =>
      obtain ⟨cc, dd⟩ := r
      have q5' : All2 (RStr s2.heap (L :: X)) vs (⟨#[cc]⟩ :: ⟨dd.toArray⟩ :: flatR rest) := q5
      obtain ⟨u1, u2, vr, e, q6⟩ : ∃ u1 u2 vr, vs = .str ⟨#[cc]⟩ u1 :: .str ⟨dd.toArray⟩ u2 :: vr ∧ All2 (RStr s2.heap (L :: X)) vr (flatR rest) := by
        cases q5' with
        | cons h1 r1 => cases r1 with
          | cons h2 r2 => obtain ⟨u1, e1⟩ := h1; obtain ⟨u2, e2⟩ := h2; exact ⟨u1, u2, _, by rw [e1, e2], r2⟩
      subst e
      simp only [List.isEmpty_cons, Bool.not_false, if_true]
      simp only [List.length_cons] at hc lnR
      have yl : y.length ≤ 400 := by
        have : 1 ≤ 2 ^ c := Nat.one_le_two_pow
        have := Nat.mul_le_mul_left y.length this
        omega
      have dd2 : dd.length = 2 := hr (cc, dd) (by simp)
      refine wpAny_execs_cons (wpAny_Assign_Name ?_)
      refine MC (Subscript_ (r_loc F3 (by walk_at "lkp") (r_int fun s4 t4 k4 => r_tup_item (i := 1) (k4.kept.get (k3.kept.get q3)) (by decide) rfl ?_)))
      have F4 := F3.tk k4
      refine GM.join (CM1 (AC ?_))
      refine MC (r_loc F4 (by walk_at "lkp") ?_)
      refine GM.split (CM1 (AC ?_))
      refine Subscript_ (r_loc F4 (by walk_at "lkp") (r_int fun s5 t5 k5 => r_tup_item (i := 0) (k5.kept.get (k4.kept.get (k3.kept.get q3))) (by decide) rfl ?_))
      have F5 := F4.tk k5
      refine args_nil (r_split (by omega) fun s6 D l k6 hsp hD => ?_)
      have F6 := F5.kept k6
      have sz := split_sizes y cc
      have dl : (⟨dd.toArray⟩ : Str).length = 2 := by rw [← dd2]; simp [Str.length]
      refine args_nil (r_join hD hsp (by rw [dl]; omega) fun s7 t7 k7 => ?_)
      have F7 := F6.tk k7
      rw [split_join]
      refine r_store F7 ?_
      intro s8 g8 F8
      have gA := (k3.go (L :: X)).trans ((k4.go _).trans ((k5.go _).trans ((k6.go _).trans ((k7.go _).trans g8))))
      have q38 := gA.2 a _ q4 q3
      refine wpAny_execs_cons (wpAny_Assign_Name (Subscript_ (r_loc F8 (by walk_at "lkp") (r_tup_from (k := 2) F8 q38.2 (by decide) (by simp) (by simp only [List.length_cons] at ln ⊢; omega) ?_))))
      intro s9 b k9 F9 bX hb
      refine r_store F9 ?_
      intro s10 g10 F10
      have b10 := g10.2 b _ bX hb
      refine wpAny_execs_nil (hQ1 rest.length _ _ [] (by omega) ⟨rest, _, t7, b, vr, 0, rfl, rfl, by omega, fun r hr' => hr r (by simp [hr']), hy, ?_, by walk_at "lkp", by walk_at "lkp", b10.2, b10.1, q6⟩ (gA.trans ((k9.go _).trans g10)) F10).1
      have e1 : c = rest.length + 1 := by omega
      have e2 : (⟨(subs cc dd y.cps.toList).toArray⟩ : Str).length ≤ 2 * y.length := by
        have := subs_len cc dd dd2 y.cps.toList
        simpa [Str.length] using this
      rw [e1, Nat.pow_succ] at hl
      calc _ ≤ 2 * y.length * 2 ^ rest.length := Nat.mul_le_mul_right _ e2
        _ = y.length * (2 ^ rest.length * 2) := by rw [Nat.mul_comm 2, Nat.mul_assoc, Nat.mul_comm 2]
        _ ≤ 400 := hl
end
end Mine
end

-- RowsF
section
open PySem PySem.W PyProof.Rows
set_option maxRecDepth 100000
set_option linter.all false
namespace Mine
local macro_rules | `(tactic| walk_at "lkp") => `(tactic| first | assumption | exact upd_same | (refine lks (sne (by decide)) ?_; walk_at "lkp"))
section
variable {p : Program} {w : World} {A : Around} {s : Shared} {env : Env} {X : List Addr} {mg mb : Str → Option Value}
theorem r_mod {a : Int} {b : Nat} {t u : Tok} {Q : Value → Shared → Prop} (hb : 0 < b) (h : ∀ s' t (r : Nat), Tk s s' → r = (a.fmod b).toNat → r < b → Q (.int r t) s') : W p w A (binaryOp .Mod (.int a t) (.int b u)) Q s := by
  refine mod_int' (by omega) ?_
  have h0 : 0 ≤ a.fmod b := Int.fmod_nonneg_of_pos a (by omega)
  have h1 : a.fmod b < b := Int.fmod_lt_of_pos a (by omega)
  have := h { s with toks := s.toks + 1 } s.toks (a.fmod b).toNat tk_of rfl (by omega)
  rw [Int.toNat_of_nonneg h0] at this
  exact this
theorem r_fdiv {a : Int} {b : Nat} {t u : Tok} {Q : Value → Shared → Prop} (hb : 0 < b) (hb2 : b < 1000) (h : ∀ s' t, Tk s s' → Q (.int (a.fdiv b) t) s') : W p w A (binaryOp .FloorDiv (.int a t) (.int b u)) Q s :=
  floordiv_int (by omega) (h _ _ tk_of) (Or.inl (PyProof.noPylong_small (by omega)))
theorem r_sq {a : Nat} {t u : Tok} {Q : Value → Shared → Prop} (ha : a < 1000) (h : ∀ s' t, Tk s s' → Q (.int ((a ^ 2 : Nat) : Int) t) s') : W p w A (binaryOp .Pow (.int a t) (.int 2 u)) Q s :=
  pow_int_small (by omega) (by omega) (by simp; omega) (by have := h _ s.toks (tk_of (s := s) (t := s.toks + 1)); simpa using this)

def rA (n : Nat) (x : Int) : Nat := (x.fmod n).toNat
def rB (n : Nat) (x : Int) : Nat := ((x.fdiv n).fmod n).toNat
def rG (n : Nat) (x : Int) : Nat := ((x.fdiv ((n ^ 2 : Nat) : Int)).fmod (2 : Nat)).toNat
def rowF (names : Str) (n : Nat) (x : Int) : Str := sg names (rA n x) ++ sg names (rB n x) ++ sg "-+" (rG n x)

inductive RW1 (l : List Int) (names : Str) (n : Nat) (tn t2 : Tok) (X : List Addr) (aR : Addr) (i : Nat) (s : Shared) (m : Str → Option Value) (own : List (Addr × Obj)) : Prop
  | mk (ys : List Value) (ny : Nat) (e : own = [(aR, lst ys ny)]) (q1 : m "rows" = some (.ref aR)) (q2 : m "names" = some (.str names tn)) (q3 : m "size" = some (.int n t2)) (q4 : All2 (RStr s.heap X) ys ((l.take i).map (rowF names n)))
theorem rows_spec {k n : Nat} {tn : Tok} {names : Str} {v1 : Value} {l : List Int} {Q : Value → Shared → Prop} (G : Gd w mg mb s.heap) (lv : Liv s X) (hA : Rm A (k + 1)) (hl : RList RInt s.heap X v1 l) (hn : l.length = n) (hn0 : 0 < n) (hn2 : n ≤ 20) (hnm : names.length = n)
    (h : ∀ s' r, Kept s s' → RList RStr s'.heap X r (l.map (rowF names n)) → Q r s') : W p w A (call (.ref 77) [v1, .str names tn]) Q s := by
  refine enter (k := k) (binds := [("numbers", v1), ("names", .str names tn)]) G lv hA rfl rfl rfl rfl (.of_eq rfl) (by decide) (locs rfl) rfl rfl rfl ?_
  intro s₁ L hLX g1 k1 hA1 F0
  refine wp_gen fun Q0 hQ0 => ?_
  obtain ⟨m, F1, m1, m2⟩ : ∃ m, Fra s.heap s₁ (L :: X) ⟨L, []⟩ m [] ∧ m "numbers" = some v1 ∧ m "names" = some (.str names tn) := ⟨_, F0, rfl, rfl⟩
  clear F0
  obtain ⟨a, vs, na, rfl, haX, ha, har⟩ := hl
  have ha1 := g1.2 a _ haX ha
  have vl : vs.length = n := har.len.trans hn
  refine wpAny_execs_cons (wpAny_Assign_Name (cb1 G F1 boot_len (r_loc F1 (by walk_at "lkp") (r_len ha1.2 (by omega) fun s2 t2 k2 => ?_))))
  have F2 := F1.tk k2
  rw [vl]
  refine r_store F2 ?_
  intro s3 g3 F3
  refine wpAny_execs_cons (wpAny_Assign_Name (List_ (args_nil (r_newListO F3 ?_))))
  intro s4 aR aRX g4 F4
  refine r_store F4 ?_
  intro s5 g5 F5
  have g15 := g1.trans ((k2.go _).trans (g3.trans (g4.trans g5)))
  have ha5 := g15.2 a _ haX ha
  refine wpAny_execs_cons (wpAny_For (r_loc F5 (by walk_at "lkp") ?_))
  refine it_list hA1.handled F5 ha5.2 ha5.1 ?_
  intro s6 it io IO hit g6 F6 hio S
  refine loop_abs _ _ _ F6 hio hit S (fun i s m own => RW1 l names n tn t2 X aR i s m own) ?_ ?_ ?_
  · exact ⟨[], 0, rfl, by walk_at "lkp", by walk_at "lkp", by walk_at "lkp", .nil⟩
  · intro i v s₀ s7 m₁ own₁ o Q1 hi hv g0 hP g07 F7 hQ1
    obtain ⟨ys, ny, rfl, q1, q2, q3, q4⟩ := hP
    obtain ⟨x, hx, tx, rfl⟩ := har.get hv
    refine wpAny_assign_Name (r_store F7 ?_)
    intro s8 g8 F8
    refine wpAny_execs_cons (wpAny_Expr_any (MC (r_loc F8 (by walk_at "lkp") (r_method_append (F8.at (k := 0) rfl) ?_))))
    refine CM1 ?_
    refine AC (wp_gen fun Q2 hQ2 => ?_)
    refine wpAny_BinOp (wpAny_BinOp ?_)
    refine Subscript_ (r_loc F8 (by walk_at "lkp") (wpAny_BinOp (r_loc F8 (by walk_at "lkp") (r_loc F8 (by walk_at "lkp") (r_mod hn0 fun s9 t9 ra k9 era hra => ?_)))))
    refine r_itemS (by omega) (by omega) fun s10 t10 k10 => ?_
    have F10 := (F8.tk k9).tk k10
    refine Subscript_ (r_loc F10 (by walk_at "lkp") (wpAny_BinOp (wpAny_BinOp (r_loc F10 (by walk_at "lkp") (r_loc F10 (by walk_at "lkp") (r_fdiv hn0 (by omega) fun s11 t11 k11 => ?_))))))
    have F11 := F10.tk k11
    refine r_loc F11 (by walk_at "lkp") (r_mod hn0 fun s12 t12 rb k12 erb hrb => ?_)
    refine r_itemS (by omega) (by omega) fun s13 t13 k13 => ?_
    refine r_addS (by simp [sg, Str.length]) fun s14 t14 k14 => ?_
    have F14 := (((F11.tk k12).tk k13).tk k14)
    refine Subscript_ (r_str fun s15 t15 k15 => ?_)
    have F15 := F14.tk k15
    refine wpAny_BinOp (wpAny_BinOp (r_loc F15 (by walk_at "lkp") (wpAny_BinOp (r_loc F15 (by walk_at "lkp") (r_int fun s16 t16 k16 => r_sq (by omega) fun s17 t17 k17 => ?_)))))
    refine r_fdiv (by exact Nat.pow_pos hn0) (by have : n ^ 2 ≤ 20 ^ 2 := Nat.pow_le_pow_left hn2 2; omega) fun s18 t18 k18 => ?_
    refine r_int fun s19 t19 k19 => r_mod (b := 2) (by decide) fun s20 t20 rg k20 erg hrg => ?_
    refine r_itemS (show rg < 2 from hrg) (by decide) fun s21 t21 k21 => ?_
    refine r_addS (by simp [sg, Str.length, Str.cps_append]) fun s22 t22 k22 => ?_
    have F22 := ((((((F15.tk k16).tk k17).tk k18).tk k19).tk k20).tk k21).tk k22
    refine hQ2 _ _ ?_
    refine args_nil (r_append F22 0 rfl ?_ ?_)
    · intro s23 g23 F23
      have gA := g8.trans ((k9.go _).trans ((k10.go _).trans ((k11.go _).trans ((k12.go _).trans ((k13.go _).trans ((k14.go _).trans ((k15.go _).trans ((k16.go _).trans ((k17.go _).trans ((k18.go _).trans ((k19.go _).trans ((k20.go _).trans ((k21.go _).trans ((k22.go _).trans g23))))))))))))))
      refine wpAny_execs_nil (hQ1 _ _ [(aR, lst (ys ++ [_]) (ny + 1))] F23 gA ⟨_, ny + 1, rfl, by walk_at "lkp", by walk_at "lkp", by walk_at "lkp", ?_⟩).1
      have tk : l.take (i + 1) = l.take i ++ [x] := by rw [List.take_add_one, hx]; rfl
      rw [tk, List.map_append]
      refine q4.snoc ⟨t22, ?_⟩
      subst era; subst erb; subst erg; rfl
    · rw [q4.len]; simp; exact Nat.le_trans (Nat.min_le_right _ _) (by rw [hn]; exact Nat.le_trans hn2 (by decide))
  · intro s₀ s7 m₁ own₁ g0 hP g07 F7
    obtain ⟨ys, ny, rfl, q1, q2, q3, q4⟩ := hP
    have q4' : All2 (RStr s7.heap X) ys (l.map (rowF names n)) := by
      have e : l.take vs.length = l := by rw [har.len, List.take_length]
      rw [e] at q4; exact q4
    refine wpAny_execs_cons (wpAny_Return_some (r_loc F7 (by walk_at "lkp") ?_))
    have gs := g15.trans (g6.trans (g0.trans g07))
    exact hQ0 _ _ (h s7 _ (F7.toKept gs.1) ⟨aR, ys, ny, rfl, fun q => aRX (by simp [q]), F7.at (k := 0) rfl, q4'⟩)
end
end Mine
end

-- TextF
section
open PySem PySem.W PyProof.Rows
set_option maxRecDepth 100000
set_option linter.all false
namespace Mine
local macro_rules | `(tactic| walk_at "lkp") => `(tactic| first | assumption | exact upd_same | (refine lks (sne (by decide)) ?_; walk_at "lkp"))
def quF (row : Str) : Str := ⟨#[34]⟩ ++ replF row [(92, [92, 92]), (34, [92, 34])] ++ ⟨#[34]⟩
def escF (row : Str) : Str := ⟨#[92]⟩ ++ sg row 0 ++ ⟨#[92]⟩ ++ sg row 1 ++ ⟨#[92]⟩ ++ sg row 2 ++ ⟨#[13, 32, 10, 9]⟩
def pieceF (row : Str) (half : Int) : Str := if half.fmod 2 = 0 then quF row else escF row
def textF (rows : List Str) (halves : List Int) : Str := Txt.join ⟨#[]⟩ (List.zipWith pieceF rows halves)
theorem replF_len (x : Str) : (replF x [(92, [92, 92]), (34, [92, 34])]).length ≤ 4 * x.length := by
  have h1 := subs_len 92 [92, 92] rfl x.cps.toList
  have h2 := subs_len 34 [92, 34] rfl (subs 92 [92, 92] x.cps.toList)
  show (subs 34 [92, 34] (subs 92 [92, 92] x.cps.toList).toArray.toList).toArray.size ≤ _
  have e : x.cps.toList.length = x.length := by simp [Str.length]
  simp only [List.size_toArray]
  omega
theorem piece_len (row : Str) (half : Int) (h : row.length = 3) : (pieceF row half).length ≤ 14 := by
  unfold pieceF quF escF
  have := replF_len row
  have e1 : (⟨#[34]⟩ : Str).length = 1 := rfl
  have e2 : (⟨#[92]⟩ : Str).length = 1 := rfl
  have e3 : (⟨#[13, 32, 10, 9]⟩ : Str).length = 4 := rfl
  have e4 : ∀ i, (sg row i).length = 1 := fun _ => rfl
  split <;> simp only [Str.length_append, e1, e2, e3, e4] <;> omega
theorem text_len : ∀ (rows : List Str) (halves : List Int), (∀ r ∈ rows, r.length = 3) → ((List.zipWith pieceF rows halves).map (·.length)).sum ≤ 14 * rows.length
  | [], _, _ => by simp
  | _ :: _, [], _ => by simp
  | r :: rs, h :: hs, h3 => by
    have := text_len rs hs fun x hx => h3 x (by simp [hx])
    have := piece_len r h (h3 r (by simp))
    simp only [List.zipWith_cons_cons, List.map_cons, List.sum_cons, List.length_cons]
    omega
theorem o34 : Str.ofString "\"" = ⟨#[34]⟩ := by decide +kernel
theorem o92 : Str.ofString "\\" = ⟨#[92]⟩ := by decide +kernel
theorem o9292 : Str.ofString "\\\\" = ⟨[92, 92].toArray⟩ := by decide +kernel
theorem o9234 : Str.ofString "\\\"" = ⟨[92, 34].toArray⟩ := by decide +kernel
theorem oEnd : Str.ofString "\r \n\t" = ⟨#[13, 32, 10, 9]⟩ := by decide +kernel
section
variable {p : Program} {w : World} {A : Around} {s : Shared} {env : Env} {B : Heap} {X : List Addr} {mg mb : Str → Option Value}
inductive TX1 (rows : List Str) (halves : List Int) (h : Heap) (aP : Addr) (i : Nat) (m : Str → Option Value) (own : List (Addr × Obj)) : Prop
  | mk (ys : List Value) (ny : Nat) (e : own = [(aP, lst ys ny)]) (q1 : m "pieces" = some (.ref aP)) (q2 : All2 (RStr h []) ys (List.zipWith pieceF (rows.take i) (halves.take i)))
set_option maxHeartbeats 1000000 in
theorem text_spec {k : Nat} {v1 v2 : Value} {rows : List Str} {halves : List Int} {Q : Value → Shared → Prop} (G : Gd w mg mb s.heap) (lv : Liv s X) (hA : Rm A (k + 3)) (hr : RList RStr s.heap X v1 rows) (hh : RList RInt s.heap X v2 halves) (hl : rows.length = halves.length) (hn : rows.length ≤ 20) (h3 : ∀ r ∈ rows, r.length = 3)
    (h : ∀ s' t, Kept s s' → Q (.str (textF rows halves) t) s') : W p w A (call (.ref 84) [v1, v2]) Q s := by
  refine enter (k := k + 2) (binds := [("rows", v1), ("halves", v2)]) G lv hA rfl rfl rfl rfl (.of_eq rfl) (by decide) (locs rfl) rfl rfl rfl ?_
  intro s₁ L hLX g1 k1 hA1 F0
  refine wp_gen fun Q0 hQ0 => ?_
  obtain ⟨m, F1, m1, m2⟩ : ∃ m, Fra s.heap s₁ (L :: X) ⟨L, []⟩ m [] ∧ m "rows" = some v1 ∧ m "halves" = some v2 := ⟨_, F0, rfl, rfl⟩
  clear F0
  obtain ⟨a1, vs, n1, rfl, aX1, ha1, har1⟩ := hr
  obtain ⟨a2, ws, n2, rfl, aX2, ha2, har2⟩ := hh
  refine wpAny_execs_cons (wpAny_Assign_Name (List_ (args_nil (r_newListO F1 ?_))))
  intro s₂ aP nP g2 F2
  refine r_store F2 ?_
  intro s₃ g3 F3
  refine wpAny_execs_cons (wpAny_For ?_)
  refine ct2 G F3 boot_zip (r_loc F3 (by walk_at "lkp") (r_loc F3 (by walk_at "lkp") ?_))
  refine zip_loop (own := [(aP, lst [] 0)]) hA1.handled F3 ha1 ha2 (by rw [har1.len, har2.len, hl]) (fun i m own => TX1 rows halves s.heap aP i m own) ?_ ?_ ?_
  · exact ⟨[], 0, rfl, by walk_at "lkp", .nil⟩
  · intro Z i v u a s4 m₁ own₁ Y Q1 hv hu hP hT F4 hQ1
    obtain ⟨ys, ny, rfl, q1, q2⟩ := hP
    obtain ⟨row, hrow, tr, rfl⟩ := har1.get hv
    obtain ⟨half, hhalf, th, rfl⟩ := har2.get hu
    have r3 : row.length = 3 := h3 row (List.mem_of_getElem? hrow)
    refine r_unpack_tup hA1.handled hT rfl rfl fun s5 k5 => ?_
    have F5 := F4.kept k5
    refine assignInOrder_cons (wpAny_assign_Name (r_store F5 ?_))
    intro s6 g6 F6
    refine assignInOrder_cons (wpAny_assign_Name (r_store F6 ?_))
    intro s7 g7 F7
    refine assignInOrder_nil ?_
    have lk : upd (upd m₁ "row" (.str row tr)) "half" (.int half th) "pieces" = some (.ref aP) := by walk_at "lkp"
    have fin : ∀ (t8 : Tok) (s9 : Shared), SG s4 s9 → Fra s.heap s9 (Z ++ (aP :: L :: X)) ⟨L, []⟩ (upd (upd m₁ "row" (.str row tr)) "half" (.int half th)) ([(aP, lst (ys ++ [.str (pieceF row half) t8]) (ny + 1))] ++ Y) →
        Q1 .next s9 := fun t8 s9 sg F9 => by
      refine (hQ1 _ _ _ sg F9 ⟨_, _, rfl, lk, ?_⟩).1
      have e1 : rows.take (i + 1) = rows.take i ++ [row] := by rw [List.take_add_one, hrow]; rfl
      have e2 : halves.take (i + 1) = halves.take i ++ [half] := by rw [List.take_add_one, hhalf]; rfl
      have i1 := (List.getElem?_eq_some_iff.mp hrow).1
      rw [e1, e2, List.zipWith_append (by rw [List.length_take, List.length_take, hl])]
      exact q2.snoc ⟨t8, rfl⟩
    have h34 := o34
    have h92 := o92
    have hE := oEnd
    generalize Str.ofString "\"" = c34 at h34 ⊢
    generalize Str.ofString "\\" = c92 at h92 ⊢
    generalize Str.ofString "\r \n\t" = cE at hE ⊢
    refine wpAny_execs_cons (wpAny_If (wpAny_isTrue_Compare1 (wpAny_BinOp (r_loc F7 (by walk_at "lkp") (r_int fun s8 t8 k8 => r_mod (b := 2) (by decide) fun s9 t9 r k9 er hr2 => ?_)))))
    refine r_int fun s10 t10 k10 => r_eqI (wpAny_truthy_bool ?_)
    have F10 := ((F7.tk k8).tk k9).tk k10
    have er : r = (half.fmod 2).toNat := er
    have sg10 : SG s4 s10 := ⟨k10.2.1.trans (k9.2.1.trans (k8.2.1.trans (g7.1.1.trans (g6.1.1.trans k5.1.1)))), k10.2.2.trans (k9.2.2.trans (k8.2.2.trans (g7.1.2.trans (g6.1.2.trans k5.1.2))))⟩
    have f0 : 0 ≤ half.fmod 2 := Int.fmod_nonneg_of_pos half (by decide)
    by_cases hz : half.fmod 2 = 0
    · have : decide ((r : Int) = 0) = true := by rw [er]; simp [hz]
      rw [this]
      have pe : pieceF row half = quF row := if_pos hz
      rw [pe] at fin
      refine wpAny_execs_cons (wpAny_Expr_any (MC (r_loc F10 (by walk_at "lkp") (r_method_append (F10.at (k := 0) rfl) ?_))))
      refine CM1 ?_
      refine AC (wp_gen fun Qb hQb => ?_)
      refine wpAny_BinOp (wpAny_BinOp (r_strC h34 fun s11 t11 k11 => ?_))
      have F11 := F10.tk k11
      refine Call_ (r_glob (v := .ref 21) G F11 rfl (CDA (o := objAt 21) (fd := fd 21) (G.K _ _ rfl) rfl (AC (r_loc F11 (by walk_at "lkp") (AC (r_strC h92 fun s12 t12 k12 => AC (r_strC o9292 fun s13 t13 k13 => AC (r_strC h34 fun s14 t14 k14 => AC (r_strC o9234 fun s15 t15 k15 => args_nil ?_)))))))))
      have F15 := (((F11.tk k12).tk k13).tk k14).tk k15
      refine ⟨F15.keep _ _ (G.K _ _ rfl), ?_⟩
      refine replace_spec (k := k) (G.keeps F15.keep) F15.live hA1 rfl rfl (by omega) ?_
      intro s16 t16 k16
      have F16 := F15.kept k16
      have rl := replF_len row
      refine r_addS (by have : (⟨#[34]⟩ : Str).length = 1 := rfl; omega) fun s17 t17 k17 => ?_
      refine r_strC h34 fun s18 t18 k18 => ?_
      refine r_addS (by simp only [Str.length_append]; have : (⟨#[34]⟩ : Str).length = 1 := rfl; omega) fun s19 t19 k19 => ?_
      have F19 := ((F16.tk k17).tk k18).tk k19
      refine hQb _ _ ?_
      refine args_nil (r_append F19 0 rfl ?_ ?_)
      · intro s20 g20 F20
        refine wpAny_execs_nil (wpAny_execs_nil (fin t19 s20 ?_ F20))
        have a1 : SG s10 s20 := ⟨g20.1.1.trans (k19.2.1.trans (k18.2.1.trans (k17.2.1.trans (k16.1.1.trans (k15.2.1.trans (k14.2.1.trans (k13.2.1.trans (k12.2.1.trans k11.2.1)))))))), g20.1.2.trans (k19.2.2.trans (k18.2.2.trans (k17.2.2.trans (k16.1.2.trans (k15.2.2.trans (k14.2.2.trans (k13.2.2.trans (k12.2.2.trans k11.2.2))))))))⟩
        exact ⟨a1.1.trans sg10.1, a1.2.trans sg10.2⟩
      · have := q2.len; simp at this; exact Nat.le_trans (show ys.length ≤ 20 by omega) (by decide)
    · have : decide ((r : Int) = 0) = false := by
        have : (r : Int) ≠ 0 := by rw [er]; omega
        simpa using this
      rw [this]
      have pe : pieceF row half = escF row := if_neg hz
      rw [pe] at fin
      refine wpAny_execs_cons (wpAny_Expr_any (MC (r_loc F10 (by walk_at "lkp") (r_method_append (F10.at (k := 0) rfl) ?_))))
      refine CM1 ?_
      refine AC (wp_gen fun Qb hQb => ?_)
      have s1 : (⟨#[92]⟩ : Str).length = 1 := rfl
      have s4 : (⟨#[13, 32, 10, 9]⟩ : Str).length = 4 := rfl
      have sgl : ∀ i, (sg row i).length = 1 := fun _ => rfl
      refine wpAny_BinOp (wpAny_BinOp (wpAny_BinOp (wpAny_BinOp (wpAny_BinOp (wpAny_BinOp (r_strC h92 fun s11 t11 k11 => ?_))))))
      have F11 := F10.tk k11
      refine Subscript_ (r_loc F11 (by walk_at "lkp") (r_int fun s12 t12 k12 => r_itemS (i := 0) (by omega) (by omega) fun s13 t13 k13 => ?_))
      refine r_addS (by simp only [Str.length_append, s1, sgl]; decide) fun s14 t14 k14 => ?_
      refine r_strC h92 fun s15 t15 k15 => ?_
      refine r_addS (by simp only [Str.length_append, s1, sgl]; decide) fun s16 t16 k16 => ?_
      have F16 := ((((F11.tk k12).tk k13).tk k14).tk k15).tk k16
      refine Subscript_ (r_loc F16 (by walk_at "lkp") (r_int fun s17 t17 k17 => r_itemS (i := 1) (by omega) (by omega) fun s18 t18 k18 => ?_))
      refine r_addS (by simp only [Str.length_append, s1, sgl]; decide) fun s19 t19 k19 => ?_
      refine r_strC h92 fun s20 t20 k20 => ?_
      refine r_addS (by simp only [Str.length_append, s1, sgl]; decide) fun s21 t21 k21 => ?_
      have F21 := ((((F16.tk k17).tk k18).tk k19).tk k20).tk k21
      refine Subscript_ (r_loc F21 (by walk_at "lkp") (r_int fun s22 t22 k22 => r_itemS (i := 2) (by omega) (by omega) fun s23 t23 k23 => ?_))
      refine r_addS (by simp only [Str.length_append, s1, sgl]; decide) fun s24 t24 k24 => ?_
      refine r_strC hE fun s25 t25 k25 => ?_
      refine r_addS (by simp only [Str.length_append, s1, s4, sgl]; decide) fun s26 t26 k26 => ?_
      have F26 := ((((F21.tk k22).tk k23).tk k24).tk k25).tk k26
      refine hQb _ _ ?_
      refine args_nil (r_append F26 0 rfl ?_ ?_)
      · intro s27 g27 F27
        refine wpAny_execs_nil (wpAny_execs_nil (fin t26 s27 ?_ F27))
        have a0 : SG s10 s16 := ⟨k16.2.1.trans (k15.2.1.trans (k14.2.1.trans (k13.2.1.trans (k12.2.1.trans k11.2.1)))), k16.2.2.trans (k15.2.2.trans (k14.2.2.trans (k13.2.2.trans (k12.2.2.trans k11.2.2))))⟩
        have a1 : SG s16 s21 := ⟨k21.2.1.trans (k20.2.1.trans (k19.2.1.trans (k18.2.1.trans k17.2.1))), k21.2.2.trans (k20.2.2.trans (k19.2.2.trans (k18.2.2.trans k17.2.2)))⟩
        have a2 : SG s21 s27 := ⟨g27.1.1.trans (k26.2.1.trans (k25.2.1.trans (k24.2.1.trans (k23.2.1.trans k22.2.1)))), g27.1.2.trans (k26.2.2.trans (k25.2.2.trans (k24.2.2.trans (k23.2.2.trans k22.2.2))))⟩
        exact ⟨a2.1.trans (a1.1.trans (a0.1.trans sg10.1)), a2.2.trans (a1.2.trans (a0.2.trans sg10.2))⟩
      · have := q2.len; simp at this; exact Nat.le_trans (show ys.length ≤ 20 by omega) (by decide)
  · intro s4 m₁ own₁ sg hP F4
    have hN := oNil
    generalize Str.ofString "" = cN at hN ⊢
    obtain ⟨ys, ny, rfl, q1, q2⟩ := hP
    have e1 : vs.length = rows.length := har1.len
    rw [e1, List.take_length, hl, List.take_length] at q2
    refine wpAny_execs_cons ?_
    refine wpAny_Return_some ?_
    refine MC ?_
    refine r_strC hN fun s5 t5 k5 => ?_
    refine GM.join ?_
    refine CM1 ?_
    refine AC ?_
    have F5 := F4.tk k5
    refine r_loc F5 (by walk_at "lkp") (args_nil ?_)
    have tl := text_len rows halves h3
    have jl : ((List.zipWith pieceF rows halves).map (·.length)).sum + (List.zipWith pieceF rows halves).length * (⟨#[]⟩ : Str).length ≤ 16777216 := by
      have z : (⟨#[]⟩ : Str).length = 0 := rfl
      rw [z, Nat.mul_zero]; omega
    refine r_joinL (F5.at (k := 0) rfl) q2 jl fun s6 t6 k6 => ?_
    have F6 := F5.tk k6
    have sg3 : SG s s₃ := ⟨g3.1.1.trans (g2.1.1.trans g1.1.1), g3.1.2.trans (g2.1.2.trans g1.1.2)⟩
    refine hQ0 _ _ ?_
    exact h s6 t6 (F6.toKept ⟨k6.2.1.trans (k5.2.1.trans (sg.1.trans sg3.1)), k6.2.2.trans (k5.2.2.trans (sg.2.trans sg3.2))⟩)
end
end Mine
end

-- Rounds
section
open PySem PySem.W PyProof.Rows
set_option maxRecDepth 100000
set_option linter.all false
namespace Mine
local macro_rules | `(tactic| walk_at "lkp") => `(tactic| first | assumption | exact upd_same | (refine lks (sne (by decide)) ?_; walk_at "lkp"))

def round0 (good : List Bool) : List (List Nat) := parted (fun st => good.getD st false) [List.range good.length]
structure IsRounds (good : List Bool) (ways : List (List Nat)) (rs : List (List (List Nat))) : Prop where
  head : rs[0]? = some (round0 good)
  step : ∀ (i : Nat) r r', rs[i]? = some r → rs[i + 1]? = some r' → r' = finerF r ways ∧ r.length < r'.length
theorem IsRounds.snoc {good ways rs} (h : IsRounds good ways rs) {r} (hl : rs.getLast? = some r) (hlt : r.length < (finerF r ways).length) : IsRounds good ways (rs ++ [finerF r ways]) := by
  have hne : rs ≠ [] := fun q => by rw [q] at hl; cases hl
  have hpos : 0 < rs.length := List.length_pos_iff.mpr hne
  refine ⟨by rw [List.getElem?_append_left hpos]; exact h.head, fun i a b h1 h2 => ?_⟩
  by_cases q : i + 1 < rs.length
  · rw [List.getElem?_append_left q] at h2
    rw [List.getElem?_append_left (by omega)] at h1
    exact h.step i a b h1 h2
  · have h3 := (List.getElem?_eq_some_iff.mp h2).1
    have : i + 1 = rs.length := by simp at h3; omega
    rw [List.getElem?_append_left (by omega)] at h1
    rw [List.getLast?_eq_getElem?] at hl
    have e : i = rs.length - 1 := by omega
    rw [e] at h1
    rw [hl] at h1; cases h1
    rw [this] at h2; simp at h2
    subst h2; exact ⟨rfl, hlt⟩

section
variable {p : Program} {w : World} {A : Around} {s : Shared} {X : List Addr} {mg mb : Str → Option Value}
abbrev pos105 : Pos := ⟨95, 52, 95, 77⟩
abbrev q105 : Str := ("_law_rounds" : Str) ++ ".<locals>." ++ "<lambda>"

/-- what stands at a head of the while -/
inductive RD1 (good : List Bool) (ways : List (List Nat)) (n : Nat) (X' : List Addr) (ar aw : Addr) (c : Nat) (s : Shared) (m : Str → Option Value) (own : List (Addr × Obj)) : Prop
  | mk (rs : List (List (List Nat))) (vsr : List Value) (nr : Nat) (ps1 ps2 : Array Value) (last : List (List Nat)) (vf : Value) (e : own = [(105, tabObj ps1), (98, tabObj ps2), (ar, lst vsr nr)]) (q1 : TabOk s.heap X' pos98 q98 ps2) (q2 : m "rounds" = some (.ref ar)) (q3 : m "ways" = some (.ref aw)) (q4 : m "finer" = some vf)
    (q5 : RPs s.heap X' (.ref aw) ways) (q6 : RPs s.heap X' vf (finerF last ways)) (q7 : All2 (RPs s.heap X') vsr rs) (q8 : rs.getLast? = some last) (q9 : IsRounds good ways rs) (q10 : NE last) (q11 : ∀ a ∈ last.flatten, a < n) (q12 : c = 100 - last.length) (q13 : rs.length ≤ last.length + 1)
set_option maxHeartbeats 1000000 in
theorem rounds_spec {k n : Nat} {v1 v2 : Value} {good : List Bool} {ways : List (List Nat)} {ps1 ps2 : Array Value} {Q : Value → Shared → Prop} {B0 : Heap} (G0 : Gd w mg mb B0) (n98 : B0.get? 98 = none) (n105 : B0.get? 105 = none) (kB : ∀ b o, B0.get? b = some o → s.heap.get? b = some o) (lv : Liv s X) (hA : Rm A (k + 7))
    (h105 : s.heap.get? 105 = some (tabObj ps1)) (h105X : 105 ∈ X) (ht1 : TabOk s.heap X pos105 q105 ps1) (h98 : s.heap.get? 98 = some (tabObj ps2)) (h98X : 98 ∈ X) (ht2 : TabOk s.heap X pos98 q98 ps2)
    (hg : RList RBool s.heap X v1 good) (hw : RPs s.heap X v2 ways) (hgn : good.length = n) (hn : 0 < n) (hn2 : n ≤ 100) (hwn : ∀ way ∈ ways, way.length = n)
    (h : ∀ s' r rs p1 p2, KB [105, 98] s s' → s'.heap.get? 105 = some (tabObj p1) → s'.heap.get? 98 = some (tabObj p2) → RList RPs s'.heap X r rs → IsRounds good ways rs → (∀ r, rs.getLast? = some r → ¬ r.length < (finerF r ways).length) → Q r s') : W p w A (call (.ref 110) [v1, v2]) Q s := by
  have G : Gd w mg mb s.heap := G0.keeps kB
  have kH : ∀ b o, B0.get? b = some o → (hideAll s.heap [105, 98]).get? b = some o := fun b o e => hideAll_get _ (kB b o e) fun q => by
    simp at q; rcases q with q | q
    · rw [q, n105] at e; cases e
    · rw [q, n98] at e; cases e
  have GH : Gd w mg mb (hideAll s.heap [105, 98]) := G0.keeps kH
  refine enterC (k := k + 6) (mv := [(105, tabObj ps1), (98, tabObj ps2)]) (binds := [("good", v1), ("ways", v2)]) G lv (by intro q hq; simp at hq; rcases hq with h | h <;> subst h <;> assumption) (by intro q hq; simp at hq; rcases hq with h | h <;> subst h <;> assumption) (by simp) hA rfl rfl rfl rfl rfl rfl (fun L x hx => ?_) (fun L => ?_) rfl rfl rfl ?_
  · simp at hx; rcases hx with h | h <;> subst h
    · exact .inr ⟨rfl, rfl⟩
    · exact .inl rfl
  · show List.Nodup [("good" : Str)]; decide
  intro s₁ L hLX g1 k1 hA1 F0
  refine wp_gen fun Q0 hQ0 => ?_
  have cr : cadr L 110 = [L, L + 1] := rfl
  rw [cr] at hLX g1 F0
  obtain ⟨m, F1, m1, m2⟩ : ∃ m, Fra (hideAll s.heap [105, 98]) s₁ ([L, L + 1] ++ X) ⟨L, [("good", L + 1)]⟩ m [(105, tabObj ps1), (98, tabObj ps2)] ∧ m "good" = some v1 ∧ m "ways" = some v2 := ⟨_, F0, rfl, rfl⟩
  clear F0
  generalize hY : [L, L + 1] ++ X = Y at *
  obtain ⟨ag, vsg, ng, rfl, agX, hag, hagr⟩ := hg
  have hag1 := g1.2 ag _ agX hag
  have lgl : vsg.length = n := hagr.len.trans hgn
  refine wpAny_execs_cons (wpAny_Assign_Name (List_ (AC ?_)))
  refine cg2 (a := 96) (o := objAt 96) (d := fd 96) GH F1 rfl (G.K _ _ rfl) rfl ?_
  refine List_ (AC ?_)
  refine ct1 GH F1 PyProof.Rows.boot_list ?_
  refine ct1 GH F1 boot_range ?_
  refine cb1 GH F1 boot_len (r_cell (c := L + 1) F1 (by walk_at "lkp") (r_len hag1.2 (by rw [lgl]; omega) ?_))
  intro s2 t2 k2
  have F2 := F1.tk k2
  rw [lgl]
  refine r_range F2 ?_
  intro s3 ra tt uu vv k3 F3 raX hra
  refine r_list_range hA1.handled F3 hra (by omega) ?_
  intro s4 la vsl nl k4 F4 laX hla hlar
  refine args_nil (r_newListF F4 ?_)
  intro s5 lb k5 F5 lbX hlb
  have k15 : Kept s₁ s5 := (k2.kept.trans (Go.trans k3 (Go.trans k4 k5)))
  have hp5 : RPs s5.heap Y (.ref lb) [List.range n] := ⟨lb, _, _, rfl, lbX, hlb, .cons ⟨la, vsl, nl, rfl, laX, k5.get hla, hlar.imp fun _ _ h => h⟩ .nil⟩
  refine r_lambda (c := 109) (P := 105) GH F5 0 rfl GH.c109 (ht1.go (g1.trans (k15.go _))) rfl rfl rfl rfl ?_
  intro s6 f pm c' ctv ps3 g6 F6 t6 fX hf hcd
  refine ⟨F6.keep _ _ (GH.K _ _ rfl), ?_⟩
  have gs6 := g1.trans ((k15.go _).trans g6)
  have cg : s6.heap.IsCell (L + 1) (some (.ref ag)) := by
    have h1 := F6.cell "good" (L + 1) rfl
    rw [m1] at h1; exact h1
  have hag6 := gs6.2 ag _ agX hag
  have ok0 : NE [List.range n] := ⟨by simp; omega, by simp; exact hn2⟩
  refine parted_spec mNat (k := k) (f := fun st => good.getD st false) (GH.keeps F6.keep) F6.live (hA1.le (by omega)) (mPs g6 hp5) hf rfl ok0.len ok0.len2 ?_ ?_
  · intro A' s10 X' vst st hA' k10 hst' hxx Q' hQ'
    obtain ⟨tst, rfl⟩ := hst'
    obtain ⟨x, hx, hxs⟩ := hxx
    have stl : st < good.length := by simp at hx; subst hx; rw [hgn]; simpa using hxs
    refine enterL (X := []) (k := k) (binds := [("state", .int (st : Int) tst)]) ((GH.keeps F6.keep).kept k10) (fun _ h => nomatch h) hA' (k10.get hf) (by obtain ⟨c, o, vs, t, e, a, b⟩ := hcd; exact ⟨c, o, vs, t, e, k10.get a, b⟩) rfl (by decide) (locs rfl) rfl rfl rfl ?_
    intro s11 L' hL' g11 k11 hA11 F11
    have kk : Kept s6 s11 := Go.trans k10 k11
    have cg' : s11.heap.IsCell (L + 1) (some (.ref ag)) := cell_keeps cg fun o e => kk.get e
    obtain ⟨y, hy, ey⟩ := hagr.get' (List.getElem?_eq_getElem stl)
    refine Subscript_ (r_free cg' (r_loc F11 rfl (r_item (kk.get hag6.2) (by omega) hy ?_)))
    have ey' : y = .bool good[st] := ey
    subst ey'
    have : good[st] = good.getD st false := by simp [stl]
    rw [this]
    exact hQ' s11 (F11.toKept g11.1)
  intro s7 r0 k7 hr0
  have F7 := F6.kept k7
  refine args_nil (r_newListO F7 ?_)
  intro s8 ar arX g8 F8
  refine r_store F8 ?_
  intro s9 g9 F9
  have e0 : parted (fun st => good.getD st false) [List.range n] = round0 good := by rw [round0, hgn]
  rw [e0] at hr0
  have r0ok : NE (round0 good) ∧ ∀ a, a ∈ (round0 good).flatten → a < n := by
    rw [← e0]; exact ⟨parted_ne _ ok0, fun a ha => by have := (parted_mem _ _ _).mp ha; simpa using this⟩
  obtain ⟨aw, vsw, nw, rfl, awX, haw, hawr⟩ := hw
  have gs9 := gs6.trans ((k7.go _).trans (g8.trans g9))
  have hw9 : RPs s9.heap (ar :: Y) (.ref aw) ways := mPs gs9 ⟨aw, vsw, nw, rfl, awX, haw, hawr⟩
  have hr9 : RPs s9.heap (ar :: Y) r0 (round0 good) := mPs (g8.trans g9) hr0
  -- finer = _law_finer(rounds[0], ways)
  refine wpAny_execs_cons (wpAny_Assign_Name ?_)
  refine cg2 (a := 103) (o := objAt 103) (d := fd 103) GH F9 rfl (G.K _ _ rfl) rfl ?_
  refine Subscript_ (r_loc F9 (by walk_at "lkp") (r_int fun s10 t10 k10 => r_item (i := 0) (k10.kept.get (F9.at (k := 2) rfl)) (by decide) rfl ?_))
  have F10 := F9.tk k10
  refine r_loc F10 (by walk_at "lkp") ⟨F10.keep _ _ (GH.K _ _ rfl), ?_⟩
  have sub98 : ∀ x ∈ X, x ∈ ar :: Y := fun x hx => by rw [← hY]; simp [hx]
  refine finer_spec (k := k) G0 n98 (fun b o e => F10.keep b o (kH b o e)) F10.live (hA1.le (by omega)) (F10.at (k := 1) rfl) (sub98 98 h98X) (ht2.go (gs9.trans (k10.go _))) (mPs (k10.go _) hr9) (mPs (k10.go _) hw9) r0ok.1 (fun way hw x hx => by rw [hwn way hw]; exact r0ok.2 x hx) (fun way hw => by rw [hwn way hw]; exact hn2) ?_
  intro s11 vf ps4 kb11 h98' t11 hvf
  obtain ⟨F11, g11⟩ := F10.kb1 (k := 1) rfl kb11 h98'
  refine r_store F11 ?_
  intro s12 g12 F12
  have g912 := (k10.go (ar :: Y)).trans (g11.trans g12)
  refine wpAny_execs_cons (wpAny_While ?_)
  refine while_abs (100 - (round0 good).length) (fun c s m own => RD1 good ways n (ar :: Y) ar aw c s m own) F12 ?_ ?_
  · refine ⟨[round0 good], [r0], 0, ps3, ps4, round0 good, vf, rfl, t11.go g12, by walk_at "lkp", by walk_at "lkp", by walk_at "lkp", mPs g912 hw9, mPs g12 hvf, .cons (mPs g912 hr9) .nil, rfl, ⟨rfl, fun i r r' h1 h2 => ?_⟩, r0ok.1, r0ok.2, rfl, by simp⟩
    have := (List.getElem?_eq_some_iff.mp h2).1; simp at this
  · intro c s13 m₁ own₁ Q1 Qx hP g13 F13 hQ1 hQx
    obtain ⟨rs, vsr, nr, p1, p2, last, vf', rfl, q1, q2, q3, q4, q5, q6, q7, q8, q9, q10, q11, q12, q13⟩ := hP
    have fok := finer_ok last ways last q10
    obtain ⟨af, vsf, nf, rfl, afX, haf, hafr⟩ := q6
    have lenf : vsf.length = (finerF last ways).length := hafr.len
    have lenf2 : (finerF last ways).length ≤ 100 := fok.1.len
    refine wpAny_isTrue_Compare1 ?_
    refine cb1 GH F13 boot_len (r_loc F13 (by walk_at "lkp") (r_len haf (by omega) fun s14 t14 k14 => ?_))
    have F14 := F13.tk k14
    refine cb1 GH F14 boot_len ?_
    refine Subscript_ (r_loc F14 (by walk_at "lkp") (UnaryOp_ (r_int fun s15 t15 k15 => r_neg fun s16 t16 k16 => ?_)))
    have k1316 : Tk s13 s16 := ⟨k16.1.trans (k15.1.trans k14.1), k16.2.1.trans (k15.2.1.trans k14.2.1), k16.2.2.trans (k15.2.2.trans k14.2.2)⟩
    have F16 := F13.tk k1316
    have hlast : ∃ vl, vsr.getLast? = some vl ∧ RPs s13.heap (ar :: Y) vl last := by
      rw [List.getLast?_eq_getElem?] at q8
      obtain ⟨vl, h1, h2⟩ := q7.get' q8
      refine ⟨vl, ?_, h2⟩
      rw [List.getLast?_eq_getElem?, q7.len]; exact h1
    obtain ⟨vl, hvl, al, vsl, nl, rfl, alX, hal, halr⟩ := hlast
    refine r_last (F16.at (k := 2) rfl) hvl (r_len (k1316.kept.get hal) (by rw [halr.len]; have := q10.len; omega) fun s17 t17 k17 => ?_)
    refine r_gt (wpAny_truthy_bool ?_)
    have k1317 : Tk s13 s17 := ⟨k17.1.trans k1316.1, k17.2.1.trans k1316.2.1, k17.2.2.trans k1316.2.2⟩
    have F17 := F13.tk k1317
    have gK := k1317.go (ar :: Y)
    rw [lenf, halr.len]
    by_cases hlt : last.length < (finerF last ways).length
    · have : decide ((last.length : Int) < ((finerF last ways).length : Int)) = true := by simpa using hlt
      rw [this]
      simp only [if_true]
      refine wpAny_execs_cons (wpAny_Expr_any (MC (r_loc F17 (by walk_at "lkp") (r_method_append (F17.at (k := 2) rfl) (CM1 (AC (r_loc F17 (by walk_at "lkp") (args_nil (r_append F17 2 rfl ?_ ?_)))))))))
      · intro s18 g18 F18
        have gA := gK.trans g18
        refine wpAny_execs_cons (wpAny_Assign_Name ?_)
        refine cg2 (a := 103) (o := objAt 103) (d := fd 103) GH F18 rfl (G.K _ _ rfl) rfl ?_
        refine r_loc F18 (by walk_at "lkp") (r_loc F18 (by walk_at "lkp") ⟨F18.keep _ _ (GH.K _ _ rfl), ?_⟩)
        have hf18 : RPs s18.heap (ar :: Y) (.ref af) (finerF last ways) := mPs gA ⟨af, vsf, nf, rfl, afX, haf, hafr⟩
        refine finer_spec (k := k) G0 n98 (fun b o e => F18.keep b o (kH b o e)) F18.live (hA1.le (by omega)) (F18.at (k := 1) rfl) (sub98 98 h98X) (q1.go gA) hf18 (mPs gA q5) fok.1 (fun way hw x hx => by rw [hwn way hw]; exact q11 x ((fok.2 x).mp hx)) (fun way hw => by rw [hwn way hw]; exact hn2) ?_
        intro s19 vf2 ps5 kb19 h98'' t19 hvf2
        obtain ⟨F19, g19⟩ := F18.kb1 (k := 1) rfl kb19 h98''
        refine r_store F19 ?_
        intro s20 g20 F20
        have gB := gA.trans (g19.trans g20)
        have gC := g19.trans g20
        refine wpAny_execs_nil (hQ1 (100 - (finerF last ways).length) _ _ [(105, tabObj p1), (98, tabObj ps5), (ar, lst (vsr ++ [.ref af]) (nr + 1))] (by omega) ⟨rs ++ [finerF last ways], vsr ++ [.ref af], nr + 1, p1, ps5, finerF last ways, vf2, rfl, t19.go g20, by walk_at "lkp", by walk_at "lkp", by walk_at "lkp", mPs gB q5, mPs g20 hvf2, ?_, by simp, q9.snoc q8 hlt, fok.1, fun a ha => q11 a ((fok.2 a).mp ha), rfl, ?_⟩ gB F20).1
        · exact (q7.imp fun _ _ h => mPs gB h).snoc (mPs gC hf18)
        · simp; omega
      · rw [q7.len]; have := q10.len; exact Nat.le_trans (show rs.length ≤ 101 by omega) (by decide)
    · have : decide ((last.length : Int) < ((finerF last ways).length : Int)) = false := by simpa using hlt
      rw [this]
      simp only [Bool.false_eq_true, if_false]
      refine (hQx _ ?_).2
      refine wpAny_execs_cons (wpAny_Return_some (r_loc F17 (by walk_at "lkp") ?_))
      have gs := gs9.trans (g912.trans (g13.trans gK))
      have arX' : ar ∉ X := fun q => arX (by rw [← hY]; simp [q])
      have fz : Go (ar :: Y) s17 X s17 := ⟨⟨rfl, rfl⟩, fun b o h e => ⟨fun q => h (sub98 b q), e⟩⟩
      refine hQ0 _ _ ?_
      refine h s17 _ rs _ _ ⟨gs.1, fun b o hb e => F17.keep b o (hideAll_get _ e hb)⟩ (F17.at (k := 0) rfl) (F17.at (k := 1) rfl) ⟨ar, vsr, nr, rfl, arX', F17.at (k := 2) rfl, q7.imp fun _ _ h => mPs (gK.trans fz) h⟩ q9 ?_
      intro r hr; rw [q8] at hr; cases hr; exact hlt
end
end Mine
end

-- Pairs
section
open PySem PySem.W PyProof.Rows
set_option maxRecDepth 100000
set_option linter.all false
namespace Mine
local macro_rules | `(tactic| walk_at "lkp") => `(tactic| first | assumption | exact upd_same | (refine lks (sne (by decide)) ?_; walk_at "lkp"))
abbrev Tri := Nat × Nat × List Str
inductive RTri (h : Heap) (X : List Addr) (v : Value) (d : Tri) : Prop
  | mk (a : Addr) (n : Nat) (v1 v2 v3 : Value) (e : v = .ref a) (aX : a ∉ X) (ha : h.get? a = some (lst [v1, v2, v3] n)) (h1 : RNat h X v1 d.1) (h2 : RNat h X v2 d.2.1) (h3 : RList RStr h X v3 d.2.2)
theorem mTri : Mono RTri := fun g v d h => by
  obtain ⟨a, n, v1, v2, v3, e, hX, ho, h1, h2, h3⟩ := h
  obtain ⟨q1, q2⟩ := g.2 a _ hX ho
  exact ⟨a, n, v1, v2, v3, e, q1, q2, mNat g h1, mNat g h2, mList mStr g h3⟩
def goalF (names : Str) (p q : Nat) (way : List Nat) : Str := sg names (min (way.getD p 0) (way.getD q 0)) ++ sg names (max (way.getD p 0) (way.getD q 0))
def triF (names : Str) (ways : List (List Nat)) (q p : Nat) : Tri := (p, q, ways.map (goalF names p q))
def pairsF (names : Str) (ways : List (List Nat)) : List Tri := (List.range names.length).flatMap fun q => (List.range q).map (triF names ways q)
section
variable {p : Program} {w : World} {A : Around} {s : Shared} {X : List Addr} {mg mb : Str → Option Value}

inductive P1 (names : Str) (ways : List (List Nat)) (tn : Tok) (X' : List Addr) (aP aw : Addr) (i : Nat) (s : Shared) (m : Str → Option Value) (own : List (Addr × Obj)) : Prop
  | mk (vs : List Value) (nv : Nat) (e : own = [(aP, lst vs nv)]) (q1 : m "pairs" = some (.ref aP)) (q2 : m "names" = some (.str names tn)) (q3 : m "ways" = some (.ref aw)) (q4 : All2 (RTri s.heap X') vs ((List.range i).flatMap fun q => (List.range q).map (triF names ways q))) (q5 : vs.length ≤ 20 * i)
inductive P2 (names : Str) (ways : List (List Nat)) (tn : Tok) (X' : List Addr) (aP aw it : Addr) (o : Obj) (q : Nat) (tq : Tok) (j : Nat) (s : Shared) (m : Str → Option Value) (own : List (Addr × Obj)) : Prop
  | mk (vs : List Value) (nv : Nat) (e : own = [(aP, lst vs nv), (it, o)]) (q1 : m "pairs" = some (.ref aP)) (q2 : m "names" = some (.str names tn)) (q3 : m "ways" = some (.ref aw)) (q4 : m "q" = some (.int q tq))
    (q5 : All2 (RTri s.heap X') vs (((List.range q).flatMap fun q => (List.range q).map (triF names ways q)) ++ (List.range j).map (triF names ways q))) (q6 : vs.length ≤ 20 * q + j)
set_option maxHeartbeats 1000000 in
theorem pairs_spec {k n : Nat} {tn : Tok} {names : Str} {v2 : Value} {ways : List (List Nat)} {Q : Value → Shared → Prop} (G : Gd w mg mb s.heap) (lv : Liv s X) (hA : Rm A (k + 3))
    (hw : RPs s.heap X v2 ways) (hnm : names.length = n) (hn2 : n ≤ 20) (hwl : ways.length ≤ 20) (hwn : ∀ way ∈ ways, way.length = n) (hwv : ∀ way ∈ ways, ∀ x ∈ way, x < n)
    (h : ∀ s' r, Kept s s' → RList RTri s'.heap X r (pairsF names ways) → Q r s') : W p w A (call (.ref 120) [.str names tn, v2]) Q s := by
  refine enterC (k := k + 2) (mv := []) (binds := [("names", .str names tn), ("ways", v2)]) G lv (fun _ h => nomatch h) (fun _ h => nomatch h) .nil hA rfl rfl rfl rfl rfl rfl (fun L x hx => ?_) (fun L => ?_) rfl rfl rfl ?_
  · simp at hx; rcases hx with h | h <;> subst h
    · exact .inr ⟨rfl, rfl⟩
    · exact .inl rfl
  · show List.Nodup [("p" : Str), "q", "names"]; decide
  intro s₁ L hLX g1 k1 hA1 F0
  refine wp_gen fun Q0 hQ0 => ?_
  have cr : cadr L 120 = [L, L + 3, L + 2, L + 1] := rfl
  rw [cr] at hLX g1 F0
  obtain ⟨m, F1, m1, m2⟩ : ∃ m, Fra s.heap s₁ ([L, L + 3, L + 2, L + 1] ++ X) ⟨L, [("p", L + 3), ("q", L + 2), ("names", L + 1)]⟩ m [] ∧ m "names" = some (.str names tn) ∧ m "ways" = some v2 := ⟨_, F0, rfl, rfl⟩
  clear F0
  generalize hY : [L, L + 3, L + 2, L + 1] ++ X = Y at *
  obtain ⟨aw, vsw, nw, rfl, awX, haw, hawr⟩ := hw
  refine wpAny_execs_cons (wpAny_Assign_Name (List_ (args_nil (r_newListO F1 ?_))))
  intro s2 aP aPX g2 F2
  refine r_store F2 ?_
  intro s3 g3 F3
  have g13 := g1.trans (g2.trans g3)
  have hw3 : RPs s3.heap (aP :: Y) (.ref aw) ways := mPs g13 ⟨aw, vsw, nw, rfl, awX, haw, hawr⟩
  refine wpAny_execs_cons (wpAny_For ?_)
  refine ct1 G F3 boot_range ?_
  refine cb1 G F3 boot_len (r_cell (c := L + 1) F3 (by walk_at "lkp") (r_lenS (by omega) fun s4 t4 k4 => ?_))
  rw [hnm]
  refine r_range (F3.tk k4) ?_
  intro s5 ra tt uu vv k5 F5 raX hra
  refine it_range hA1.handled F5 hra (by omega) ?_
  intro s6 it io IO hit g6 F6 hio S
  have g36 := (k4.go (aP :: Y)).trans ((k5.go _).trans g6)
  refine loop_abs _ _ _ F6 hio hit S (fun i s m own => P1 names ways tn (it :: aP :: Y) aP aw i s m own) ?_ ?_ ?_
  · exact ⟨[], 0, rfl, by walk_at "lkp", by walk_at "lkp", by walk_at "lkp", .nil, by simp⟩
  · intro q v s₀ s7 m₁ own₁ o Q1 hq hv g0 hP g07 F7 hQ1
    obtain ⟨tq, rfl⟩ := hv
    obtain ⟨vs, nv, rfl, q1, q2, q3, q4, q5⟩ := hP
    refine wpAny_assign_Name (r_storeC (c := L + 2) F7 ?_)
    intro s8 g8 F8
    refine wpAny_execs_cons (wpAny_For ?_)
    refine ct1 G F8 boot_range (r_cell (c := L + 2) F8 (by walk_at "lkp") (r_range F8 ?_))
    intro s9 ra2 tt2 uu2 vv2 k9 F9 ra2X hra2
    refine it_range hA1.handled F9 hra2 (by omega) ?_
    intro s10 it2 io2 IO2 hit2 g10 F10 hio2 S2
    have g010 := g07.trans (g8.trans ((k9.go _).trans g10))
    refine loop_abs (own := [(aP, lst vs nv), (it, o)]) _ _ _ F10 hio2 hit2 S2 (fun j s m own => P2 names ways tn (it2 :: it :: aP :: Y) aP aw it o q tq j s m own) ?_ ?_ ?_
    · exact ⟨vs, nv, rfl, by walk_at "lkp", by walk_at "lkp", by walk_at "lkp", by walk_at "lkp", by simpa using q4.imp fun _ _ h => mTri g010 h, by simpa using q5⟩
    · intro j v s₀' s11 m₂ own₂ o2 Q2 hj hv g0' hP g011 F11 hQ2
      obtain ⟨tj, rfl⟩ := hv
      obtain ⟨us, nu, rfl, r1, r2, r3, r4, r5, r6⟩ := hP
      refine wpAny_assign_Name (r_storeC (c := L + 3) F11 ?_)
      intro s12 g12 F12
      have gw := g36.trans (g0.trans (g010.trans (g0'.trans (g011.trans g12))))
      obtain ⟨aw', vsw', nw', e1, awX12, haw12, hawr12⟩ := mPs gw hw3
      cases e1
      refine wpAny_execs_cons (wp_gen fun Qb hQb => r_compAssign rfl rfl rfl (by decide) (fun _ => rfl) (r_loc F12 (by walk_at "lkp") ?_))
      refine it_list hA1.handled F12 haw12 awX12 ?_
      intro s13 it3 io3 IO3 hit3 g13' F13 hio3 S3
      refine comp_abs (own := [(aP, lst us nu), (it, o), (it2, o2)]) F13 hio3 hit3 S3 (by rw [hawr12.len]; exact Nat.le_trans hwl (by decide)) (by decide) rfl
        (fun X' i s ys => All2 (RStr s.heap X') ys ((ways.take i).map (goalF names j q))) (fun C D s₄ g => .nil) ?_ ?_
      · intro C D i v s₀'' s14 zs c m₃ o3 B' Q3 Q4 hi hv g0'' hP g14 hB1 hB2 F14 hN hE
        refine wpAny_assign_Name (r_store F14 ?_)
        intro s15 g15 F15
        refine wpAny_tests_nil ?_
        simp only [if_true]
        obtain ⟨way, hway, hwR⟩ := hawr12.get hv
        have wm : way ∈ ways := List.mem_of_getElem? hway
        have hw15 := mList mNat (g13'.trans (g0''.trans (g14.trans g15))) hwR
        obtain ⟨ay, vsy, ny, rfl, ayX, hay, hayr⟩ := hw15
        have cN : ∀ {s' X' φ' m' own'}, Fra B' s' X' φ' m' own' → s'.heap.IsCell (L + 1) (some (.str names tn)) := fun F' => cell_in (x := "names") (own := [(aP, lst us nu), (it, o), (it2, o2)]) F13 hB1 F' rfl (by walk_at "lkp")
        have cP : ∀ {s' X' φ' m' own'}, Fra B' s' X' φ' m' own' → s'.heap.IsCell (L + 3) (some (.int j tj)) := fun F' => cell_in (x := "p") (own := [(aP, lst us nu), (it, o), (it2, o2)]) F13 hB1 F' rfl (by walk_at "lkp")
        have cQ : ∀ {s' X' φ' m' own'}, Fra B' s' X' φ' m' own' → s'.heap.IsCell (L + 2) (some (.int q tq)) := fun F' => cell_in (x := "q") (own := [(aP, lst us nu), (it, o), (it2, o2)]) F13 hB1 F' rfl (by walk_at "lkp")
        have wl : way.length = n := hwn way wm
        have jl : j < way.length := by rw [wl]; omega
        have ql : q < way.length := by rw [wl]; omega
        obtain ⟨y1, hy1, t1, rfl⟩ := hayr.get' (List.getElem?_eq_getElem jl)
        obtain ⟨y2, hy2, t2, rfl⟩ := hayr.get' (List.getElem?_eq_getElem ql)
        have v1 : way[j] < n := hwv way wm _ (List.getElem_mem _)
        have v2 : way[q] < n := hwv way wm _ (List.getElem_mem _)
        refine wpAny_BinOp (Subscript_ (r_cellB (cN F15) ?_))
        refine cb2 (G.keeps hB2) F15 boot_min ?_
        refine Subscript_ (r_loc F15 (by walk_at "lkp") (r_cellB (cP F15) (r_item hay (by omega) hy1 ?_)))
        refine Subscript_ (r_loc F15 (by walk_at "lkp") (r_cellB (cQ F15) (r_item hay (by omega) hy2 ?_)))
        refine r_min hA1.handled fun s16 t16 k16 => ?_
        have F16 := F15.kept k16
        refine r_itemS (by rw [hnm]; omega) (by omega) fun s17 t17 k17 => ?_
        have F17 := F16.tk k17
        have k1517 : Kept s15 s17 := Go.trans k16 k17.kept
        refine Subscript_ (r_cellB (cN F17) ?_)
        refine cb2 (G.keeps hB2) F17 boot_max ?_
        refine Subscript_ (r_loc F17 (by walk_at "lkp") (r_cellB (cP F17) (r_item (k1517.get hay) (by omega) hy1 ?_)))
        refine Subscript_ (r_loc F17 (by walk_at "lkp") (r_cellB (cQ F17) (r_item (k1517.get hay) (by omega) hy2 ?_)))
        refine r_max hA1.handled fun s18 t18 k18 => ?_
        have F18 := F17.kept k18
        refine r_itemS (by rw [hnm]; omega) (by omega) fun s19 t19 k19 => ?_
        have F19 := F18.tk k19
        refine r_addS (by simp [sg, Str.length]) fun s20 t20 k20 => ?_
        have F20 := F19.tk k20
        have k1520 : Kept s15 s20 := Go.trans k1517 (Go.trans k18 (Go.trans k19.kept k20.kept))
        refine hN _ _ _ F20 (g15.trans (k1520.go _)) fun s21 g21 => ?_
        have tk : ways.take (i + 1) = ways.take i ++ [way] := by rw [List.take_add_one, hway]; rfl
        rw [tk, List.map_append]
        refine (hP.imp fun _ _ h => mStr (g14.trans (g15.trans ((k1520.go _).trans g21))) h).snoc ⟨t20, ?_⟩
        simp [goalF, jl, ql]
      · intro C D s₀'' s14 zs c oC mC g0'' hP g14 hCX hDX hD hns F14
        refine comp_use F14 hCX hDX hD hns ?_
        intro s15 g15 F15 hDX' hD'
        refine hQb _ _ ?_
        rw [hawr12.len, List.take_length] at hP
        have hg15 : RList RStr s15.heap (it2 :: it :: aP :: Y) (.ref D) (ways.map (goalF names j q)) := ⟨D, zs, c, rfl, hDX', hD', hP.imp fun _ _ h => mStr (g14.trans g15) h⟩
        refine wpAny_execs_cons (wpAny_Expr_any (MC (r_loc F15 (by walk_at "lkp") (r_method_append (F15.at (k := 0) rfl) (CM1 (AC ?_))))))
        refine List_ (AC (r_cell (c := L + 3) F15 (by walk_at "lkp") (AC (r_cell (c := L + 2) F15 (by walk_at "lkp") (AC (r_loc F15 (by walk_at "lkp") (args_nil (r_newListF F15 ?_))))))))
        intro s16 ad k16 F16 adX had
        refine args_nil (r_append F16 0 rfl ?_ ?_)
        · intro s17 g17 F17
          have gA := g13'.trans (g0''.trans (g14.trans (g15.trans ((k16.go _).trans g17))))
          refine wpAny_execs_nil (hQ2 _ _ [(aP, lst (us ++ [.ref ad]) (nu + 1)), (it, o)] F17 (g12.trans gA) ⟨us ++ [.ref ad], nu + 1, rfl, by walk_at "lkp", by walk_at "lkp", by walk_at "lkp", by walk_at "lkp", ?_, by rw [List.length_append]; exact Nat.succ_le_succ r6⟩).1
          rw [List.range_succ, List.map_append, ← List.append_assoc]
          refine (r5.imp fun _ _ h => mTri (g011.trans (g12.trans gA)) h).snoc (mTri g17 ⟨ad, 0, _, _, _, rfl, adX, had, ⟨tj, rfl⟩, ⟨tq, rfl⟩, mList mStr (k16.go _) hg15⟩)
        · exact Nat.le_trans (show us.length ≤ 420 by omega) (by decide)
    · intro s₀' s11 m₂ own₂ g0' hP g011 F11
      obtain ⟨us, nu, rfl, r1, r2, r3, r4, r5, r6⟩ := hP
      refine wpAny_execs_nil (hQ1 _ _ [(aP, lst us nu)] F11 (g8.trans ((k9.go _).trans (g10.trans (g0'.trans g011)))) ⟨us, nu, rfl, by walk_at "lkp", by walk_at "lkp", by walk_at "lkp", ?_, by omega⟩).1
      rw [List.range_succ, List.flatMap_append]
      simp only [List.flatMap_cons, List.flatMap_nil, List.append_nil]
      exact r5.imp fun _ _ h => mTri g011 h
  · intro s₀ s7 m₁ own₁ g0 hP g07 F7
    obtain ⟨vs, nv, rfl, q1, q2, q3, q4, q5⟩ := hP
    refine wpAny_execs_cons (wpAny_Return_some (r_loc F7 (by walk_at "lkp") ?_))
    have gs := g13.trans (g36.trans (g0.trans g07))
    have fz : Go (aP :: Y) s7 X s7 := ⟨⟨rfl, rfl⟩, fun b o h e => ⟨fun q => h (by rw [← hY]; simp [q]), e⟩⟩
    have e : pairsF names ways = (List.range n).flatMap fun q => (List.range q).map (triF names ways q) := by rw [pairsF, hnm]
    refine hQ0 _ _ ?_
    refine h s7 _ (F7.toKept gs.1) ⟨aP, vs, nv, rfl, fun q => aPX (by rw [← hY]; simp [q]), F7.at (k := 0) rfl, ?_⟩
    rw [e]
    exact q4.imp fun _ _ h => mTri (g07.trans fz) h
end
end Mine
end

-- Obj
section
open PySem PySem.W PyProof.Rows PySem.Builtin.ObjectAttr
set_option maxRecDepth 100000
set_option linter.all false
namespace Mine
theorem fnGa : typeLookup (.type "function") "__getattribute__" = pure (some (.builtin "object.__getattribute__")) := by rw [typeLookup_type, builtinLookup_eq_fast]; kernel_rfl
theorem fnGa2 : typeLookup (.type "function") "__getattr__" = pure none := by rw [typeLookup_type, builtinLookup_eq_fast]; kernel_rfl
theorem fnRead : typeLookup (.type "function") "read" = pure none := by rw [typeLookup_type, builtinLookup_eq_fast]; kernel_rfl
theorem hasDict_fn : typeHasDict (.type "function") = true := by decide +kernel
theorem fin_fn : finalisedInACycleAlone "function" = false := by decide +kernel
theorem mro_fn : mroOf (.type "function") = pure [.type "function", .type "object"] := by rw [mroOf_type]; kernel_rfl
theorem slot_fn_ga : Slot "function" "__getattribute__" "object.__getattribute__" :=
  Slot.of (T := "function") (name := "__getattribute__") (owner := "object") (n := "__getattribute__") (by rw [typeLookup_type, builtinLookup_eq_fast]; kernel_rfl) (by decide +kernel) (by decide +kernel) (by decide +kernel)
    (.inl (by decide +kernel)) (by rw [isSubtype_type]; kernel_rfl)
theorem slot_fn_sa : Slot "function" "__setattr__" "object.__setattr__" :=
  Slot.of (T := "function") (name := "__setattr__") (owner := "object") (n := "__setattr__") (by rw [typeLookup_type, builtinLookup_eq_fast]; kernel_rfl) (by decide +kernel) (by decide +kernel) (by decide +kernel)
    (.inl (by decide +kernel)) (by rw [isSubtype_type]; kernel_rfl)
theorem store_fn : StoreFacts "function" [.type "function", .type "object"] "object.__setattr__" "object" where
  mro := mro_fn
  slot := slot_fn_sa
  entry := PySem.F.store_object.entry
  kind := PySem.F.store_object.kind
  split := PySem.F.store_object.split
  hasOwner := by decide +kernel
  args := PySem.F.store_object.args
  passes := fun self => by kernel_rfl
theorem entry_oga : entryFor table "object.__getattribute__" = some Builtin.«object.__getattribute__» := entryFor_of_tree (by kernel_rfl)
theorem args_oga (a b : Value) : argsOk "object.__getattribute__" ⟨[a, b], []⟩ := by unfold argsOk; kernel_rfl
section
variable {p : Program} {w : World} {A : Around} {s : Shared} {env : Env}
/-- a function's own attribute, to be called -/
theorem fn_getMethod {f fd : Addr} {data : Data} {sl : Array (Option Value)} {es : List DictEntry} {n : Nat} {v : Value} {pl : Sem Bool} {Q : Value × List Value → Shared → Prop} (hf : s.heap.get? f = some ⟨.type "function", some fd, data, sl⟩) (hdat : ∃ d, data = .func d) (hd : s.heap.get? fd = some (dictOf es n)) (hl : getL "read" es = some (some v)) (hh : handedIn v = true)
    (h : ∀ s', Tk s s' → Q (v, []) s') : W p w A (getMethod (.ref f) "read" pl) Q s := by
  have hT : s.TypeIs (.ref f) "function" := ⟨_, hf, rfl⟩
  unfold W getMethod
  refine wpAny_bind (wpAny_specialOf hT fnGa ?_)
  show wpAny _ _ (if (Manifest.canonical "object.__getattribute__" != "object.__getattribute__") = true then _ else _) _ _ _
  rw [PySem.F.canon_object_ga, if_neg (by decide)]
  refine wpAny_bind (wpAny_specialOf hT fnGa2 ?_)
  refine wpAny_bind (wpAny_specialOf hT fnRead ?_)
  show wpAny _ _ (getAttr (.ref f) "read" >>= fun v => pure (v, [])) _ _ _
  unfold getAttr getAttrBy
  refine wpAny_bind (wpAny_bind (wpAny_mkText (wpAny_holding ?_)))
  have hT' : Shared.TypeIs { s with toks := s.toks + 1 } (.ref f) "function" := ⟨_, hf, rfl⟩
  refine wpAny_bind (wpAny_typeOf hT' (wpAny_bind (wpAny_of_eq fnGa ?_)))
  show wpAny _ _ (getAttrByItsOwn (.ref f) (.str "read" s.toks) (.type "function") (.builtin "object.__getattribute__") true false) _ _ _
  unfold getAttrByItsOwn hookBefore callGetattribute boundAndCalled
  refine wpAny_bind (wpAny_of_eq (show (if onTheHeap (.type "function") then typeLookup (.type "function") "__getattr__" else pure none) = pure none from rfl) ?_)
  refine wpAny_bind (wpAny_attempt (wpAny_holding ?_))
  show wpAny _ _ (bindSpecial (.builtin "object.__getattribute__") (.ref f) >>= _) _ _ _
  refine wpAny_bind (wpAny_of_eq (slot_fn_ga.bind _) ?_)
  refine wpAny_mono (Q := fun r s' => r = v ∧ s' = { s with toks := s.toks + 1 }) (E := fun _ _ => False)
    (wpAny_call_entry slot_fn_ga hT' entry_oga ?_ (args_oga _ _)) (fun r s' hv => ?_) fun _ _ z => z.elim
  · have nl := nsLook_of (name := "read") (o := dictOf es n) (r := some v) hl
    have L1 : Looks (model p w) s.heap (typeLookup (.type "function") "read") none := Looks.of_pure fnRead
    clear h
    obtain ⟨hh', g, d, t, os⟩ := s
    dsimp only at hf hd hT hT' L1 ⊢
    obtain ⟨fdat, rfl⟩ := hdat
    unfold Builtin.«object.__getattribute__»
    refine wpAny_bind (wpAny_pure ?_)
    dsimp only
    refine wpAny_bind (wpAny_pure ?_)
    refine wpAny_bind (wpAny_typeOf hT' ?_)
    unfold find
    refine wpAny_bind (wpAny_bind (L1.at ?_))
    refine wpAny_bind (wpAny_pure ?_)
    refine wpAny_bind (wpAny_pure ?_)
    unfold ownThenClass inOwnDict Builtin.ObjectAttr.ownDict
    refine wpAny_bind (wpAny_bind (wpAny_bind ?_))
    unfold loadHead
    refine wpAny_loadPart hf ?_
    dsimp only
    unfold instanceDict
    refine wpAny_bind (wpAny_loadPart hf ?_)
    dsimp only
    refine wpAny_pure ?_
    unfold inDict nsGet
    refine wpAny_bind (wpAny_loadPart hd ?_)
    rw [nl]
    refine wpAny_pure ?_
    dsimp only
    exact wpAny_bind (wpAny_rule (wpAny_pure (wpAny_pure ⟨_, rfl, rfl, rfl⟩)))
  · obtain ⟨rfl, rfl⟩ := hv
    show wpAny _ _ (handedOut r) _ _ _
    rw [handedOut_of hh]
    exact wpAny_pure (wpAny_pure (h _ tk_of))

/-- f.name = v on a function that has no dict yet -/
theorem fn_setAttr {f : Addr} {data : Data} {sl : Array (Option Value)} {name : Str} {v : Value} {Q : Unit → Shared → Prop} (hf : s.heap.get? f = some ⟨.type "function", none, data, sl⟩) (hdat : ∃ d, data = .func d) (hn : typeLookup (.type "function") name = pure none)
    (h : ∀ s' hs t, SG s s' → (∀ b o, b ≠ f → s.heap.get? b = some o → s'.heap.get? b = some o) → s'.heap.get? f = some ⟨.type "function", some s.heap.objs.size, data, sl⟩ → s'.heap.get? s.heap.objs.size = some (dictOf [⟨hs, .str name t, v⟩] 1) → Q () s') :
    W p w A (setAttr (.ref f) name v) Q s := by
  obtain ⟨fdat, rfl⟩ := hdat
  have hT : Shared.TypeIs { s with toks := s.toks + 1 } (.ref f) "function" := ⟨_, hf, rfl⟩
  unfold W setAttr
  refine wpAny_bind (wpAny_mkText (wpAny_bind ?_))
  refine wpAny_callSpecial?_slot (name := "__setattr__") hT slot_fn_sa ?_
  refine wpAny_call (codeAny_call_builtin slot_fn_sa.plain store_fn.entry (slot_fn_sa.check _ _ _ _ _ _ _ _ hT (store_fn.args _ _ _) ?_))
  rw [osa_eq, refuse_eq]
  refine wpAny_bind (wpAny_bind (wpAny_typeOf hT (wpAny_bind (wpAny_of_eq mro_fn ?_))))
  rw [store_fn.passes]
  refine wpAny_pure (wpAny_bind (wpAny_typeOf hT (wpAny_bind (wpAny_of_eq hn (wpAny_bind (wpAny_pure ?_))))))
  show wpAny _ _ (Builtin.ObjectAttr.storeInOwnDict (.ref f) (.type "function") (.str name s.toks) name v false) _ _ _
  unfold Builtin.ObjectAttr.storeInOwnDict
  refine wpAny_bind (m := ownStreamTells (.ref f) (.type "function")) (wpAny_of_eq (a := ()) (by unfold ownStreamTells; rfl) ?_)
  show wpAny _ _ (if (Value.type "function" == Value.type "module") = true then _ else _) _ _ _
  rw [if_neg (by decide)]
  refine wpAny_bind ?_
  unfold Builtin.ObjectAttr.ownDictForStores instanceDict
  refine wpAny_bind (wpAny_loadPart (s := { s with toks := s.toks + 1 }) hf ?_)
  dsimp only
  rw [hasDict_fn]
  simp only [Bool.not_true, Bool.or_self, Bool.false_eq_true, if_false]
  refine wpAny_bind (wpAny_alloc ?_)
  have lt : f < s.heap.objs.size := Heap.lt_size hf
  have hf1 : (s.heap.push emptyDict).get? f = some ⟨.type "function", none, .func fdat, sl⟩ := Heap.get?_push_of_some _ hf
  have hd1 : (s.heap.push emptyDict).get? s.heap.objs.size = some emptyDict := Heap.get?_push_size _ rfl
  refine wpAny_bind (wpAny_update (s := { s with heap := s.heap.push emptyDict, toks := s.toks + 1 }) hf1 ?_)
  generalize hH : (s.heap.push emptyDict).update f (fun o => { o with dict := some s.heap.objs.size }) = H
  have u1 : H.get? f = some ⟨.type "function", some s.heap.objs.size, .func fdat, sl⟩ := by
    subst hH; rw [Heap.get?_update_self _ hf1 rfl]
  have u2 : H.get? s.heap.objs.size = some emptyDict := by
    subst hH; rw [Heap.get?_update_ne _ _ _ _ (Nat.ne_of_gt lt)]; exact hd1
  have u3 : ∀ b o, b ≠ f → s.heap.get? b = some o → H.get? b = some o := fun b o hb e => by
    subst hH; rw [Heap.get?_update_ne _ _ _ _ hb]; exact Heap.get?_push_of_some _ e
  unfold dictMade
  dsimp only
  rw [fin_fn]
  simp only [Bool.false_eq_true, if_false]
  refine wpAny_pure ?_
  dsimp only
  unfold Builtin.ObjectAttr.storeInDict
  refine wpAny_bind (m := Builtin.ObjectAttr.newKeyGuard _ _ (.str name s.toks)) (wpAny_pure ?_)
  unfold nsSet
  refine wpAny_bind (wpAny_bind (wpAny_bind (wpAny_askSetting (wpAny_pure (wpAny_bind (wpAny_mkText (wpAny_bind (wpAny_loadPart u2 ?_))))))))
  dsimp only
  have c : aRefKeyMayBeTheName name (#[] : Array DictEntry) = false := by rw [aRefKeyMayBeTheName_at]; simp
  rw [if_neg (by rw [c]; decide)]
  generalize (if name.cps.isEmpty = true then (0 : Int) else reduceHash ({ program := (model p w).prog, params := (model p w).w.params : Setting }.params.strHash name.cps)) = hsh
  have e0 : Obj.putName name hsh (.str name (s.toks + 1)) v emptyDict = dictOf [⟨hsh, .str name (s.toks + 1), v⟩] 1 := putName_dict name hsh (.str name (s.toks + 1)) v [] 0
  refine wpAny_updatePart u2 ?_
  have v1 : (H.update s.heap.objs.size (Obj.putName name hsh (.str name (s.toks + 1)) v)).get? s.heap.objs.size = some (dictOf [⟨hsh, .str name (s.toks + 1), v⟩] 1) := by
    rw [Heap.get?_update_self _ u2 (by rw [e0]; rfl), e0]
  refine wpAny_bind (wpAny_lookBehind v1 (pastItsLine_dict (by show 1 ≤ sizeLine + 1; decide)) ?_)
  refine wpAny_pure (wpAny_pure (h _ hsh (s.toks + 1) ⟨rfl, rfl⟩ (fun b o hb e => ?_) ?_ v1))
  · show (H.update _ _).get? b = some o
    rw [Heap.get?_update_ne _ _ _ _ (Nat.ne_of_lt (Heap.lt_size e))]; exact u3 b o hb e
  · show (H.update _ _).get? f = some _
    rw [Heap.get?_update_ne _ _ _ _ (Nat.ne_of_lt lt)]; exact u1
end
end Mine
end

-- Obj2
section
open PySem PySem.W PyProof.Rows PySem.Builtin.ObjectAttr
set_option maxRecDepth 100000
set_option linter.all false
namespace Mine
theorem findObj_nd {K : Frag} {C : Addr} {od : Obj} {name : Str} {a g : Value} (hh : hasDictIn K C = true) (ha : findIn K (.ref C) name = some (some a)) (hg : specialIn K a "__get__" = some (some g)) (ht : takesIn K a = some false) (hc : copiedNames.contains name = false) (hl : lookIn name od = some none) :
    findObj K C (some od) name = some (.bind g a) := by
  obtain ⟨cd, hc', hd⟩ := any_some hh
  unfold findObj
  have ho : W.ownOf cd (some od) name = some none := by unfold W.ownOf; rw [if_pos hd]; exact hl
  rw [hc', Option.bind_some, ha, Option.bind_some]
  simp only [hg, ht, Option.bind_some, ho, hc, Bool.false_and, Bool.false_eq_true, if_false]
section
variable {p : Program} {w : World} {A : Around} {s : Shared} {env : Env} {B : Heap} {X : List Addr} {φ : Fm} {m : Str → Option Value} {own : List (Addr × Obj)} {mg mb : Str → Option Value}
noncomputable abbrev KH (w : World) : Frag := hd.heap_1 w.params
theorem inst_at {x dx : Addr} {es : List DictEntry} {n : Nat} (hx : s.heap.get? x = some (instObj 66 dx)) (hd : s.heap.get? dx = some (dictOf es n)) : InstAt s.heap x (instObj 66 dx) 66 (some (dictOf es n)) := ⟨hx, rfl, rfl, hd⟩

/-- x.name, in x's own dict -/
theorem r_iget {x dx : Addr} {es : List DictEntry} {n : Nat} {name : Str} {v : Value} {expr : Bool} {attr : Option Value} {Q : Value → Shared → Prop} (X : (KH w).In s.heap) (hx : s.heap.get? x = some (instObj 66 dx)) (hd : s.heap.get? dx = some (dictOf es n))
    (hl : getL name es = some (some v)) (hv : handedIn v = true) (h : ∀ s', Tk s s' → Q v s')
    (hg : plainGet (KH w) 66 name = true := by rfl) (hh : hasDictIn (KH w) 66 = true := by rfl) (ha : findIn (KH w) (.ref 66) name = some attr := by rfl) (hn : noGet (KH w) attr = true := by rfl) : W p w A (getAttr (.ref x) name expr) Q s :=
  get_value X (inst_at hx hd) (plainGet_of hg).1 (findObj_own hh ha hn hl) hv (h _ tk_of)
/-- x.name(..): a method of the class -/
theorem r_imeth {x dx f : Addr} {es : List DictEntry} {n : Nat} {name : Str} {pl : Sem Bool} {Q : Value × List Value → Shared → Prop} (X : (KH w).In s.heap) (hx : s.heap.get? x = some (instObj 66 dx)) (hd : s.heap.get? dx = some (dictOf es n))
    (hl : getL name es = some none) (h : Q (.ref f, [.ref x]) s)
    (hg : plainGet (KH w) 66 name = true := by rfl) (hf : findIn (KH w) (.ref 66) name = some (some (.ref f)) := by rfl) (ht : isFn (KH w) (.ref f) = true := by rfl) : W p w A (getMethod (.ref x) name pl) Q s :=
  method_fn X (inst_at hx hd) (plainGet_of hg).1 (plainGet_of hg).2 hf (beq_iff_eq.mp ht) (by show (lookIn name (dictOf es n)).map _ = _; rw [lookIn_dict, hl]; rfl) h
/-- x.name: a bound method -/
theorem r_ibound {x dx f : Addr} {es : List DictEntry} {n : Nat} {name : Str} {expr : Bool} {Q : Value → Shared → Prop} (F : Fra B s X φ m own) (hX : (KH w).In s.heap) (hx : s.heap.get? x = some (instObj 66 dx)) (hd : s.heap.get? dx = some (dictOf es n))
    (hl : getL name es = some none) (h : ∀ s' q, Kept s s' → Fra B s' X φ m own → q ∉ X → s'.heap.get? q = some (methodObj (.ref f) (.ref x)) → Q (.ref q) s')
    (hg : plainGet (KH w) 66 name = true := by rfl) (hh : hasDictIn (KH w) 66 = true := by rfl) (ha : findIn (KH w) (.ref 66) name = some (some (.ref f)) := by rfl) (hg2 : specialIn (KH w) (.ref f) "__get__" = some (some (.builtin "function.__get__")) := by rfl)
    (ht : takesIn (KH w) (.ref f) = some false := by rfl) (hc : copiedNames.contains name = false := by rfl) (hty : typeIn (KH w) (.ref f) = some (.type "function") := by rfl) : W p w A (getAttr (.ref x) name expr) Q s := by
  refine get_bind hX (inst_at hx hd) (plainGet_of hg).1 (findObj_nd hh ha hg2 ht hc (by rw [lookIn_dict]; exact hl)) (plainGet_of hg).2 (wpAny_call (fn_get (s := { s with toks := s.toks + 1 }) hX hty ?_))
  have F1 := F.tk (tk_of (t := s.toks + 1))
  obtain ⟨F2, k, e, n'⟩ := F1.newF (s' := { s with toks := s.toks + 1, heap := s.heap.push (methodObj (.ref f) (.ref x)) }) (o := methodObj (.ref f) (.ref x)) rfl rfl ⟨rfl, rfl⟩
  have := h _ _ (Go.trans (tk_of (s := s) (t := s.toks + 1)).kept k) F2 n' e
  show wpAny _ _ (handedOut (.ref s.heap.objs.size)) _ _ _
  rw [handedOut_of (by rfl)]
  exact wpAny_pure this

/-- x.name = v -/
theorem r_iset {x dx : Addr} {es : List DictEntry} {n : Nat} {name : Str} {v : Value} {Q : Unit → Shared → Prop} (X : (KH w).In s.heap) (hx : s.heap.get? x = some (instObj 66 dx)) (hd : s.heap.get? dx = some (dictOf es n)) (hl : (getL name es).isSome = true) (hz : es.length ≤ 100)
    (h : ∀ s' hs t, SG s s' → Heap.SameBut dx s.heap s'.heap → s'.heap.get? dx = some (dictOf (putL name hs (.str name t) v es) (putN name es n)) → Q () s')
    (hs : findIn (KH w) (.ref 66) "__setattr__" = some (some (.builtin "object.__setattr__")) := by rfl) (hp : plainOver (KH w) 66 = true := by rfl) (ht : takerIn (KH w) 66 name = some none := by rfl) (hh : (clsIn (KH w) 66).any (·.hasDict) = true := by rfl) : W p w A (setAttr (.ref x) name v) Q s := by
  refine set_plain X (inst_at hx hd) hs (osa_open (s := { s with toks := s.toks + 1 }) X (inst_at (s := { s with toks := s.toks + 1 }) hx hd) hp ht fun b => ?_)
  obtain ⟨cd, hc, hd'⟩ := any_some hh
  unfold storeInOwnDict
  refine wpAny_bind (wpAny_pure ?_)
  refine wpAny_bind ?_
  unfold ownDictForStores instanceDict
  refine wpAny_bind (wpAny_loadPart (s := { s with toks := s.toks + 1 }) hx (wpAny_bind ((looks_clsIn X hc).here (s := { s with toks := s.toks + 1 }) ?_)))
  rw [hd']
  refine wpAny_pure ?_
  dsimp only
  unfold storeInDict
  refine wpAny_bind (m := newKeyGuard _ _ (.str name s.toks)) (wpAny_pure ?_)
  unfold nsSet
  refine wpAny_bind (wpAny_bind (wpAny_bind (wpAny_askSetting (wpAny_pure (wpAny_bind (wpAny_mkText (wpAny_bind (wpAny_loadPart (s := { s with toks := s.toks + 1 + 1 }) hd ?_))))))))
  dsimp only
  have c : aRefKeyMayBeTheName name es.toArray = false := by
    rw [aRefKeyMayBeTheName_at, List.any_toArray, List.any_toArray]
    unfold getL at hl
    split at hl
    · rename_i en he
      rw [List.any_eq_true.mpr ⟨en, List.mem_of_find?_eq_some he, List.find?_some he⟩]; rfl
    · split at hl
      · cases hl
      · rename_i z; rw [Bool.not_eq_true] at z; rw [z, Bool.and_false]
  rw [if_neg (by rw [c]; decide)]
  generalize (if name.cps.isEmpty = true then (0 : Int) else reduceHash ({ program := (model p w).prog, params := (model p w).w.params : Setting }.params.strHash name.cps)) = hsh
  have e0 : Obj.putName name hsh (.str name (s.toks + 1)) v (dictOf es n) = dictOf (putL name hsh (.str name (s.toks + 1)) v es) (putN name es n) := putName_dict name hsh (.str name (s.toks + 1)) v es n
  refine wpAny_updatePart (s := { s with toks := s.toks + 1 + 1 }) hd ?_
  have v1 : (s.heap.update dx (Obj.putName name hsh (.str name (s.toks + 1)) v)).get? dx = some (dictOf (putL name hsh (.str name (s.toks + 1)) v es) (putN name es n)) := by
    rw [Heap.get?_update_self _ hd (by rw [e0]; rfl), e0]
  have ln : ∀ l : List DictEntry, (putL name hsh (.str name (s.toks + 1)) v l).length ≤ l.length + 1 := by
    intro l
    induction l with
    | nil => simp [putL]
    | cons a r ih => unfold putL; split <;> simp; omega
  have ln' := ln es
  refine wpAny_bind (wpAny_lookBehind (s := { s with heap := s.heap.update dx (Obj.putName name hsh (.str name (s.toks + 1)) v), toks := s.toks + 1 + 1 }) v1 (pastItsLine_dict (by rw [List.size_toArray]; exact Nat.le_trans (show _ ≤ 101 by omega) (by decide))) ?_)
  exact wpAny_pure (h _ hsh (s.toks + 1) ⟨rfl, rfl⟩ (Heap.SameBut.update ..) v1)
end
end Mine
end

-- Iter
section
open PySem PySem.W PyProof.Rows PySem.Builtin.ObjectAttr
set_option maxRecDepth 100000
set_option linter.all false
namespace Mine
theorem entry_iter' : entryFor table "iter" = some Builtin.«iter» := entryFor_of_tree (by kernel_rfl)
theorem kind_iter : builtinKind "iter" = none := by decide +kernel
theorem plain_iter : plainId "iter" = true := by decide +kernel
theorem args_iter (a b : Value) : argsOk "iter" ⟨[a, b], []⟩ := by unfold argsOk; kernel_rfl
theorem meth_call : typeLookup (.type "method") "__call__" = pure (some (.builtin "method.__call__")) := by rw [typeLookup_type, builtinLookup_eq_fast]; kernel_rfl
theorem slot_ci_next : Slot "callable_iterator" "__next__" "callable_iterator.__next__" :=
  Slot.of (T := "callable_iterator") (name := "__next__") (owner := "callable_iterator") (n := "__next__") (by rw [typeLookup_type, builtinLookup_eq_fast]; kernel_rfl) (by decide +kernel) (by decide +kernel) (by decide +kernel)
    (.inl (by decide +kernel)) (by rw [isSubtype_type]; kernel_rfl)
theorem slot_ci_iter : ∃ i, typeLookup (.type "callable_iterator") "__iter__" = pure (some (.builtin i)) := ⟨"callable_iterator.__iter__", by rw [typeLookup_type, builtinLookup_eq_fast]; kernel_rfl⟩
theorem entry_ci_next : entryFor table "callable_iterator.__next__" = some Builtin.«callable_iterator.__next__» := entryFor_of_tree (by kernel_rfl)
theorem args_ci_next (a : Value) : argsOk "callable_iterator.__next__" ⟨[a], []⟩ := by unfold argsOk; kernel_rfl
section
variable {p : Program} {w : World} {A : Around} {s : Shared}
theorem r_callBorrowed {f : Value} {pos : List Value} {Q : Value → Shared → Prop} (h : codeAny (model p w) A (.call f ⟨pos, []⟩) (RQ Q) s) : W p w A (callBorrowed f pos) Q s := fun Γ q hΓ => by
  unfold callBorrowed
  rw [Sem.wp_call]
  refine wpCode_mono (fun r s' hr => ?_) (h _ q rfl (hΓ.enter _ none q (by intro x; cases x)))
  cases r with
  | error e => exact hr.elim
  | ok f => cases f <;> first | exact hr | exact hr.elim

/-- iter(f, sentinel) for a bound method -/
theorem r_iter2 {B : Heap} {X : List Addr} {φ : Fm} {m : Str → Option Value} {own : List (Addr × Obj)} {q : Addr} {f self z : Value} {Q : Value → Shared → Prop} (F : Fra B s X φ m own) (hq : s.heap.get? q = some (methodObj f self))
    (h : ∀ s' it, it ∉ X → Go X s (it :: X) s' → Fra B s' (it :: X) φ m (own ++ [(it, { cls := .type "callable_iterator", data := .fields #[.ref q, z, .bool false] })]) → Q (.ref it) s') : W p w A (call (.builtin "iter") [.ref q, z]) Q s := by
  refine Calls.call_function_entry kind_iter plain_iter entry_iter' (args_iter _ _) ?_
  unfold Builtin.«iter»
  refine wpAny_bind (wpAny_pure ?_)
  dsimp only
  refine wpAny_bind (wpAny_specialOf (T := "method") ⟨_, hq, rfl⟩ meth_call ?_)
  simp only [Option.isNone_some, Bool.false_eq_true, if_false]
  refine wpAny_bind (wpAny_rule ?_)
  unfold newFields
  refine wpAny_bind (wpAny_newObj_type (wpAny_pure ?_) (by size_fits))
  obtain ⟨F', g, nX⟩ := F.newO (s' := { s with heap := s.heap.push { cls := .type "callable_iterator", data := .fields #[.ref q, z, .bool false] } }) (o := { cls := .type "callable_iterator", data := .fields #[.ref q, z, .bool false] }) rfl rfl ⟨rfl, rfl⟩
  exact ⟨_, rfl, h _ _ nX g F'⟩
abbrev ciObj (q : Addr) (z : Value) : Obj := { cls := .type "callable_iterator", data := .fields #[.ref q, z, .bool false] }
abbrev ciEnd : Obj := { cls := .type "callable_iterator", data := .fields #[.none, .none, .bool true] }
/-- the next of iter(bound method, text) -/
theorem ci_next {it q g : Addr} {og : Obj} {fd : FuncData} {self : Value} {z : Str} {tz : Tok} {Q : Option Value → Shared → Prop} (hA : A.handled = none) (hit : s.heap.get? it = some (ciObj q (.str z tz))) (hq : s.heap.get? q = some (methodObj (.ref g) self)) (hg : s.heap.get? g = some og) (hgd : og.data = .func fd)
    (hc : codeAny (model p w) A.in1 (.call (.ref g) ⟨[self], []⟩) (RQ (fun v s' => s'.heap.get? it = some (ciObj q (.str z tz)) ∧ s'.heap.get? q = some (methodObj (.ref g) self) ∧ s'.heap.get? g = some og ∧ ∃ x t, v = .str x t ∧ (x ≠ z → ∀ s'', Tk s' s'' → Q (some v) s'') ∧ (x = z → ∀ s'', SG s' s'' → Heap.ExtBut it s'.heap s''.heap → s''.heap.get? it = some ciEnd → Q none s''))) s) :
    W p w A (pyNext (.ref it)) Q s := by
  have hT : s.TypeIs (.ref it) "callable_iterator" := ⟨_, hit, rfl⟩
  unfold W pyNext
  refine wpAny_bind (wpAny_attempt (wpAny_callSpecial?_slot (name := Str.ofString "__next__") hT slot_ci_next
    (wpAny_call_entry slot_ci_next hT entry_ci_next ?_ (args_ci_next _))))
  unfold Builtin.«callable_iterator.__next__»
  refine wpAny_bind (wpAny_pure ?_)
  dsimp only
  refine wpAny_bind (wpAny_field hit rfl (x := .bool false) rfl ?_)
  rw [if_neg (by decide)]
  refine wpAny_bind (wpAny_field hit rfl (x := .ref q) rfl ?_)
  refine wpAny_bind (wpAny_attempt ?_)
  unfold callOutOfASlot
  have be : ∀ {A' : Around} {s₁ : Shared} {Q' : Bool → Shared → Prop} {E' : Value → Shared → Prop}, s₁.heap.get? q = some (methodObj (.ref g) self) → s₁.heap.get? g = some og → Q' true s₁ → wpAny (model p w) A' (borrowsExactly (.ref q)) Q' E' s₁ := by
    intro A' s₁ Q' E' h1 h2 hq'
    unfold borrowsExactly
    dsimp only
    refine wpAny_bind (wpAny_load h1 ?_)
    dsimp only
    rw [if_pos (by decide)]
    show wpAny _ _ (load g >>= _) _ _ _
    refine wpAny_bind (wpAny_load h2 ?_)
    rw [hgd]
    exact wpAny_pure hq'
  refine wpAny_bind (be hq hg ?_)
  rw [if_pos rfl]
  refine wpAny_mono (r_callBorrowed (method_call hq hc)) (fun v s' h' => ?_) fun _ _ h => h.elim
  obtain ⟨hit', hq', hg', x, tx, rfl, hne, heq⟩ := h'
  dsimp only
  refine wpAny_bind (wpAny_field hit' rfl (x := .bool false) rfl ?_)
  rw [if_neg (by decide)]
  refine wpAny_bind (wpAny_field hit' rfl (x := .str z tz) rfl ?_)
  refine wpAny_bind (wpAny_holding ((strKind p w).eqBool (strKind_is p w z tz) (strKind_is p w x tx) ?_))
  by_cases hxz : x = z
  · subst hxz
    rw [if_neg (by simp)]
    refine wpAny_bind (wpAny_rule (wpAny_bind ?_))
    show wpAny _ _ (do slotLetsGo "callable_iterator.__next__" (← field (.ref it) 0) _; setField (.ref it) 0 .none; setField (.ref it) 1 .none; setField (.ref it) 2 (.bool true)) _ _ _
    refine wpAny_bind (wpAny_field hit' rfl (x := .ref q) rfl (wpAny_bind ?_))
    unfold slotLetsGo
    dsimp only
    refine wpAny_bind (be hq' hg' ?_)
    rw [if_pos rfl]
    refine wpAny_pure ?_
    refine wpAny_bind (wpAny_setField_rec hit' (by simp) fun h1 e1 s1 => ?_)
    refine wpAny_bind (wpAny_setField_rec (s := { s' with heap := h1 }) e1 (by simp) fun h2 e2 s2 => ?_)
    refine wpAny_setField_rec (s := { s' with heap := h2 }) e2 (by simp) fun h3 e3 s3 => ?_
    unfold Builtin.SmallTypes.stopIteration
    refine wpAny_bind ?_
    simp only [newExc, newTuple]
    refine wpAny_bind (wpAny_newObj_type ?_ (by size_fits))
    refine wpAny_bind (m := firstArgMember _ _) (wpAny_of_eq (a := Value.none) (by first | rfl | (simp only [firstArgMember]; rfl)) ?_)
    refine wpAny_newObj_type ?_ (by size_fits)
    simp only [raiseNew]
    refine wpAny_bind (wpAny_handled ?_)
    rw [show A.in1.handled = none from hA]
    refine wpAny_bind (wpAny_pure (wpAny_throw ?_))
    refine wpAny_bind (wpAny_isInstance (T := "StopIteration") (b := true) ⟨_, Heap.get?_push_size _ rfl, rfl⟩ isSubtype_stop ?_)
    refine wpAny_pure (heq rfl _ ⟨rfl, rfl⟩ (((s1.extBut.trans s2.extBut).trans s3.extBut |>.push _).push _) ?_)
    exact Heap.get?_push_of_some _ (Heap.get?_push_of_some _ e3)
  · rw [if_pos (by have : decide (z = x) = false := by simpa using Ne.symm hxz
                   rw [this]; rfl)]
    exact wpAny_pure ⟨_, rfl, wpAny_pure (hne hxz _ ⟨rfl, rfl, rfl⟩)⟩
end
end Mine
end

-- Stream
section
open PySem PySem.W PyProof.Rows PySem.Builtin.ObjectAttr
set_option maxRecDepth 100000
set_option linter.all false
namespace Mine
local macro_rules | `(tactic| walk_at "lkp") => `(tactic| first | assumption | exact upd_same | (refine lks (sne (by decide)) ?_; walk_at "lkp"))
noncomputable def rdParts : Arguments × List Stmt × Scope := match (bd 91) with | _ :: .FunctionDef _ ps b _ _ _ sc _ _ _ :: _ => (ps, b, sc) | _ => (default, [], default)
abbrev rdQual : Str := ("_law_stream" : Str) ++ ".<locals>." ++ "read"
noncomputable abbrev rdObj (c cr : Addr) (doc pm ctv : Value) : Obj := fnMade "read" rdQual rdParts.1 rdParts.2.1 rdParts.2.2 [("signs", c)] doc pm cr ctv
/-- where a stream and what it reads lie -/
structure Lx where
  d : Addr
  f : Addr
  fd : Addr
  rd : Addr
  c : Addr
  cr : Addr
structure LexF (h : Heap) (X : List Addr) (l : Lx) : Prop where
  f : ∃ fdat, h.get? l.f = some ⟨.type "function", some l.fd, .func fdat, #[]⟩
  fd : ∃ hs t, h.get? l.fd = some (dictOf [⟨hs, .str "read" t, .ref l.rd⟩] 1)
  rd : ∃ doc pm ctv, h.get? l.rd = some (rdObj l.c l.cr doc pm ctv)
  cr : h.CodeRec (.ref l.cr) rdQual
  c : h.IsCell l.c (some (.ref l.d))
  nX : ∀ y ∈ [l.f, l.fd, l.rd, l.cr, l.c], y ∉ X
theorem LexF.go {s s' X X' l} (h : LexF s.heap X l) (g : Go X s X' s') : LexF s'.heap X' l := by
  have k : ∀ y ∈ [l.f, l.fd, l.rd, l.cr, l.c], ∀ o, s.heap.get? y = some o → y ∉ X' ∧ s'.heap.get? y = some o := fun y hy o e => g.2 y o (h.nX y hy) e
  obtain ⟨fdat, hf⟩ := h.f
  obtain ⟨hs, t, hfd⟩ := h.fd
  obtain ⟨doc, pm, ctv, hrd⟩ := h.rd
  obtain ⟨c', oc, vs, tc, e, hc, hc2, hc3⟩ := h.cr
  obtain ⟨o, ho, hoc⟩ := h.c
  cases e
  have k2 := k _ (by simp) _ hf
  have k3 := k _ (by simp) _ hfd
  have k4 := k _ (by simp) _ hrd
  have k5 := k _ (by simp) _ hc
  have k6 := k _ (by simp) _ ho
  refine ⟨⟨fdat, k2.2⟩, ⟨hs, t, k3.2⟩, ⟨doc, pm, ctv, k4.2⟩, ⟨_, oc, vs, tc, rfl, k5.2, hc2, hc3⟩, ⟨o, k6.2, hoc⟩, fun y hy => ?_⟩
  simp only [List.mem_cons, List.not_mem_nil, or_false] at hy
  rcases hy with h | h | h | h | h <;> subst h
  · exact k2.1
  · exact k3.1
  · exact k4.1
  · exact k5.1
  · exact k6.1
theorem LexF.keeps {s s' X l} (h : LexF s.heap X l) (k : Kp X s s') (sg : SG s s') : LexF s'.heap X l := h.go ⟨sg, fun b o hb e => ⟨hb, k b o hb e⟩⟩
/-- signs as values -/
def Sgn (v : Value) (c : Nat) : Prop := ∃ t, v = .str ⟨#[c]⟩ t
def hdS : List Nat → Str
  | [] => ⟨#[]⟩
  | c :: _ => ⟨#[c]⟩
section
variable {p : Program} {w : World} {A : Around} {s : Shared} {env : Env} {B : Heap} {X : List Addr} {mg mb : Str → Option Value}

set_option maxHeartbeats 1000000 in
theorem read_spec {k : Nat} {l : Lx} {v : Value} {vs : List Value} {n : Nat} {cs : List Nat} {Q : Value → Shared → Prop} (nl : s.heap.NoLimit) (lv : Liv s X) (hA : Rm A (k + 2)) (hL : LexF s.heap X l) (hdX : l.d ∈ X) (hd : s.heap.get? l.d = some (lst vs n)) (hv : All2 Sgn vs cs) (hz : vs.length ≤ 1000)
    (h : ∀ s' vs' n' t, KB [l.d] s s' → s'.heap.get? l.d = some (lst vs' n') → All2 Sgn vs' cs.tail → Q (.str (hdS cs) t) s') : W p w A (call (.ref l.rd) [v]) Q s := by
  obtain ⟨doc, pm, ctv, hrd⟩ := hL.rd
  refine wpAny_call (enterMc (k := k + 1) (mv := [(l.d, lst vs n)]) (binds := [("size", v)]) nl lv (by simpa using hd) (by simpa using hdX) (by simp) hA hrd rfl rfl hL.cr (.of_eq rfl) (by show ∀ x ∈ rdParts.2.2.names, _; decide) (locs rfl) rfl rfl rfl ?_)
  intro s₁ L hLX g1 k1 hA1 F1
  have cd : l.c ≠ l.d := fun q => hL.nX l.c (by simp) (q ▸ hdX)
  have hc : s₁.heap.IsCell l.c (some (.ref l.d)) := cell_keeps hL.c fun o e => k1.get e
  refine wpAny_execs_cons (wpAny_Return_some (wpAny_IfExp (wpAny_isTrue_Compare1 (r_free hc (List_ (args_nil (r_newListF F1 ?_)))))))
  intro s2 b k2 F2 bX hb
  have hc2 : s2.heap.IsCell l.c (some (.ref l.d)) := cell_keeps hc fun o e => k2.get e
  refine r_ne_nil (hA1.le (by omega)) (F2.at (k := 0) rfl) hb (wpAny_truthy_bool ?_)
  cases hv with
  | nil =>
    simp only [List.isEmpty_nil, Bool.not_true, Bool.false_eq_true, if_false]
    refine r_strC oNil fun s3 t3 k3 => ?_
    have F3 := F2.tk k3
    refine h s3 [] n t3 ⟨⟨k3.2.1.trans (k2.1.1.trans k1.1.1), k3.2.2.trans (k2.1.2.trans k1.1.2)⟩, fun b o hb e => F3.keep b o (hideAll_get _ e hb)⟩ (F3.at (k := 0) rfl) .nil
  | cons hx hr =>
    obtain ⟨tx, rfl⟩ := hx
    simp only [List.isEmpty_cons, Bool.not_false, if_true]
    refine MC ?_
    refine r_free hc2 (r_method_pop (F2.at (k := 0) rfl) ?_)
    refine CM1 ?_
    refine AC ?_
    refine r_int fun s3 t3 k3 => args_nil ?_
    have F3 := F2.tk k3
    refine r_pop0 F3 0 rfl ?_ ?_
    · intro s4 n' g4 F4
      refine h s4 _ n' tx ⟨⟨g4.1.1.trans (k3.2.1.trans (k2.1.1.trans k1.1.1)), g4.1.2.trans (k3.2.2.trans (k2.1.2.trans k1.1.2))⟩, fun b o hb e => F4.keep b o (hideAll_get _ e hb)⟩ (F4.at (k := 0) rfl) hr
    · have : (1000 : Nat) < sizeLine := by decide
      simp only [List.length_cons] at hz; omega

/-- a step that makes a code's entry: the table is owned -/
theorem tab_step {k : Nat} {P : Addr} {o o' : Obj} {h' : Heap} {tk : Tok} (F : Fra B s X φ m own) (hk : own[k]? = some (P, o)) (hx : Heap.ExtBut P s.heap h') (ho : h'.get? P = some o') :
    Fra B { s with heap := h', toks := tk } X φ m (own.set k (P, o')) ∧ Go X s X { s with heap := h', toks := tk } :=
  F.kb1 hk ⟨⟨rfl, rfl⟩, fun b o hb e => hx b o (by simpa using hb) e⟩ ho
theorem own_ne {k : Nat} {P : Addr} {o : Obj} (G : Gd w mg mb B) (F : Fra B s X φ m own) (hk : own[k]? = some (P, o)) (hd : ∀ n es, o.data ≠ .dict n es) (hc : o.cls ≠ .type "module") : mainGlobals ≠ P ∧ s.heap.BuiltinsAt mg P := by
  have hP := F.at hk
  have hgs := G.g.keeps F.keep
  obtain ⟨bm, ob, b1, b2, b3, b4, b5, b6⟩ := G.bm
  refine ⟨fun q => ?_, bm, ob, b1, b2, fun q => ?_, fun q => ?_, F.keep _ _ b3, b4, b5, b6⟩
  · obtain ⟨o, es, ep, e, hd', _⟩ := hgs
    rw [q, hP] at e; cases e; exact hd _ _ hd'
  · obtain ⟨o, es, ep, e, hd, _⟩ := G.g
    rw [q, e] at b3; cases b3; rw [hd] at b6; cases b6
  · have e := F.keep _ _ b3
    rw [q, hP] at e; cases e; exact hc b4

/-- a function made within, its code new -/
theorem r_make {name qual : Str} {params : Arguments} {body : List Stmt} {scope : Scope} {pos : Pos} {fl : Nat} {clos : List (Str × Addr)} {c P : Addr} {ps : Array Value} {Q : Value → Shared → Prop} (G : Gd w mg mb B) (F : Fra B s X φ m own) (k : Nat) (hk : own[k]? = some (P, tabObj ps)) (C : CodeHd B c P)
    (ht : TriplesOk ps.toList) (hnf : codeAmong pos ps.toList = none) (hcl : closureFor scope env = pure clos) (hge : env.globals = mainGlobals) (hcode : env.code = .ref c)
    (h : ∀ s' f doc pm c' ctv, Go X s X s' → Fra B s' X φ m (own.set k (P, tabObj (ps ++ #[rawInt pos.line, rawInt pos.col, .ref c']))) → f ∉ X → c' ∉ X → s'.heap.get? f = some (fnMade name qual params body scope clos doc pm c' ctv) → s'.heap.CodeRec (.ref c') qual → Q (.ref f) s') :
    W p w A (makeFunction name qual params (.stmts body) scope env [] [] [] pos fl) Q s := by
  obtain ⟨n1, n2⟩ := own_ne G F hk (fun _ _ q => by cases q) (fun q => by cases q)
  have lX : ∀ x ∈ X, x < s.heap.objs.size := fun x hx => let ⟨o, e⟩ := F.live x hx; Heap.lt_size e
  refine makeFunction_K (mg := mg) hcl hge (G.g.keeps F.keep) hcode (C.keeps F.keep) (F.at hk) ht hnf n1 n2 fun c' ctv doc h' tk hx hge' hlt hrec htb => ?_
  obtain ⟨F1, g1⟩ := tab_step (tk := tk) F hk hx htb
  generalize hfo : fnMade name qual params body scope clos doc ((mg "__name__").getD .none) c' ctv = fo
  have hff : fo.isFreed = false := by rw [← hfo]; rfl
  obtain ⟨F2, k2, e2, x2⟩ := F1.newF (s' := { s with heap := h'.push fo, toks := tk }) hff rfl ⟨rfl, rfl⟩
  obtain ⟨c2, oc, vs, t, q, hoc, hd2, hv2⟩ := hrec
  cases q
  exact h _ h'.objs.size doc _ c' ctv (g1.trans (k2.go _)) F2 x2 (fun q => Nat.lt_irrefl _ (Nat.lt_of_lt_of_le (lX c' q) hge')) (by rw [hfo]; exact e2) ⟨c', oc, vs, t, rfl, k2.get hoc, hd2, hv2⟩
/-- a lambda made, its code new; the frame owns it -/
theorem r_lambdaO {params : Arguments} {body : Expr} {scope : Scope} {pos : Pos} {clos : List (Str × Addr)} {c P : Addr} {ps : Array Value} {Q : Value → Shared → Prop} (G : Gd w mg mb B) (F : Fra B s X φ m own) (k : Nat) (hk : own[k]? = some (P, tabObj ps)) (C : CodeHd B c P)
    (ht : TriplesOk ps.toList) (hnf : codeAmong pos ps.toList = none) (hcl : closureFor scope env = pure clos) (hdef : defaultsOf params env = ([], [])) (hge : env.globals = mainGlobals) (hcode : env.code = .ref c)
    (h : ∀ s' f pm c' ctv, Go X s (f :: X) s' → f ∉ X → Fra B s' (f :: X) φ m (own.set k (P, tabObj (ps ++ #[rawInt pos.line, rawInt pos.col, .ref c'])) ++ [(f, kla_obj "<lambda>" (env.qual ++ "<lambda>") params body scope clos pm c' ctv)]) → Q (.ref f) s') :
    W p w A (eval (.Lambda params body scope pos) env) Q s := by
  refine kla_eval hdef ?_
  obtain ⟨n1, n2⟩ := own_ne G F hk (fun _ _ q => by cases q) (fun q => by cases q)
  refine kla_makeFunction (mg := mg) hcl hge (G.g.keeps F.keep) hcode (C.keeps F.keep) (F.at hk) ht hnf n1 n2 fun c' ctv h' tk hx hge' hlt hrec htb => ?_
  obtain ⟨F1, g1⟩ := tab_step (tk := tk) F hk hx htb
  generalize hfo : kla_obj "<lambda>" (env.qual ++ "<lambda>") params body scope clos ((mg "__name__").getD .none) c' ctv = fo
  have hff : fo.isFreed = false := by rw [← hfo]; rfl
  obtain ⟨F2, g2, x2⟩ := F1.newO (s' := { s with heap := h'.push fo, toks := tk }) hff rfl ⟨rfl, rfl⟩
  exact h _ h'.objs.size ((mg "__name__").getD .none) c' ctv (g1.trans g2) x2 (by rw [hfo]; exact F2)

/-- a new object, however made, that the frame owns -/
theorem Fra.newG {s' : Shared} {a : Addr} {o : Obj} (F : Fra B s X φ m own) (k : Kept s s') (hn : s.heap.get? a = none) (ho : s'.heap.get? a = some o) :
    Fra B s' (a :: X) φ m (own ++ [(a, o)]) ∧ Go X s (a :: X) s' ∧ a ∉ X := by
  have lt : ∀ {b o}, s.heap.get? b = some o → b ≠ a := fun e q => by rw [q, hn] at e; cases e
  have g : Go X s (a :: X) s' := ⟨k.1, fun b o h e => ⟨by simp [h, lt e], k.get e⟩⟩
  have K := F.kept k
  have sp : ∀ x ∈ φ.adr ++ (own ++ [(a, o)]).map (·.1), x ∈ φ.adr ++ own.map (·.1) ∨ x = a := fun x hx => by
    simpa [or_assoc] using hx
  refine ⟨⟨K.keep, fun x hx => ?_, K.ns, K.cell, fun p hp => ?_, ?_, fun x hx => ?_, fun x hx => ?_⟩, g, fun q => by obtain ⟨o, a⟩ := F.live _ q; exact lt a rfl⟩
  · rcases sp x hx with h | h
    · exact F.fresh x h
    · subst h
      cases q : B.get? x with
      | none => rfl
      | some o => exact absurd rfl (lt (F.keep _ _ q))
  · rcases List.mem_append.mp hp with h | h
    · exact k.get (F.has p h)
    · simp at h; subst h; exact ho
  · rw [List.map_append, ← List.append_assoc]
    refine List.nodup_append.mpr ⟨F.nd, by simp, fun x hx y hy => ?_⟩
    simp at hy; subst hy
    obtain ⟨o, a⟩ := F.live x (F.inX x hx); exact lt a
  · rcases sp x hx with h | h
    · exact List.mem_cons_of_mem _ (F.inX x h)
    · simp [h]
  · rcases List.mem_cons.mp hx with h | h
    · subst h; exact ⟨o, ho⟩
    · obtain ⟨o, a⟩ := F.live x h; exact ⟨o, k.get a⟩
theorem signs_all (x : Str) : ∀ (acc : Array Value), ItemsOf (SignAt x) acc x.cps.size → All2 Sgn acc.toList x.cps.toList := by
  intro acc ⟨h1, h2⟩
  have : ∀ (l : List Value) (r : List Nat), l.length = r.length → (∀ (j : Nat) (v : Value), l[j]? = some v → ∃ (c : Nat) (u : Tok), r[j]? = some c ∧ v = Value.str ⟨#[c]⟩ u) → All2 Sgn l r := by
    intro l
    induction l with
    | nil => intro r h _; cases r with | nil => exact .nil | cons a r => cases h
    | cons v l ih =>
      intro r h hr
      cases r with
      | nil => cases h
      | cons a r =>
        refine .cons ?_ (ih r (by simpa using h) fun j v hj => hr (j + 1) v (by simpa using hj))
        obtain ⟨c, u, e1, e2⟩ := hr 0 v rfl
        simp at e1; subst e1; exact ⟨u, e2⟩
  refine this _ _ (by simpa using h1) fun j v hj => ?_
  obtain ⟨c, u, e1, e2⟩ := h2 j v (by simpa using hj)
  exact ⟨c, u, by simpa using e1, e2⟩

set_option maxHeartbeats 4000000 in
theorem stream_spec {k : Nat} {x : Str} {tx : Tok} {Q : Value → Shared → Prop} {B0 : Heap} (G0 : Gd w mg mb B0) (n86 : B0.get? 86 = none) (kB : ∀ b o, B0.get? b = some o → s.heap.get? b = some o) (lv : Liv s X) (hA : Rm A (k + 1)) (hP : s.heap.get? 86 = some (tabObj #[])) (PX : 86 ∈ X) (hz : x.cps.size ≤ 1000)
    (h : ∀ s' ps l vs n, KB [86] s s' → s.heap.get? l.d = none → (∀ o, s'.heap.get? l.d = some o → Liv s' (l.d :: X)) → s'.heap.get? 86 = some (tabObj ps) → LexF s'.heap (l.d :: X) l → s'.heap.get? l.d = some (lst vs n) → All2 Sgn vs x.cps.toList → Q (.ref l.f) s') : W p w A (call (.ref 91) [.str x tx]) Q s := by
  have G : Gd w mg mb s.heap := G0.keeps kB
  have kH : ∀ b o, B0.get? b = some o → (hideAll s.heap [86]).get? b = some o := fun b o e => hideAll_get _ (kB b o e) fun q => by
    simp at q; rw [q, n86] at e; cases e
  have GH : Gd w mg mb (hideAll s.heap [86]) := G0.keeps kH
  refine enterC (a := 91) (k := k) (mv := [(86, tabObj #[])]) (binds := [("text", .str x tx)]) G lv (by simpa using hP) (by simpa using PX) (by simp) hA rfl rfl rfl rfl rfl rfl (fun L z hz => ?_) (fun L => ?_) rfl rfl rfl ?_
  · simp at hz; subst hz; exact .inl rfl
  · show List.Nodup [("signs" : Str)]; decide
  intro s1 L hLX g1 k1 hA1 F0
  have cr : cadr L 91 = [L, L + 1] := rfl
  rw [cr] at hLX g1 F0
  obtain ⟨m, F1, m1⟩ : ∃ m, Fra (hideAll s.heap [86]) s1 ([L, L + 1] ++ X) ⟨L, [("signs", L + 1)]⟩ m [(86, tabObj #[])] ∧ m "text" = some (.str x tx) := ⟨_, F0, rfl⟩
  clear F0
  generalize hY : [L, L + 1] ++ X = Y at *
  refine wpAny_execs_cons (wpAny_Assign_Name ?_)
  refine ct1 GH F1 PyProof.Rows.boot_list ?_
  refine r_loc F1 m1 ?_
  refine call_list_str hA1.handled x tx (fun h2 tk2 acc cc hk2 hS hI => ?_) (Nat.le_trans hz (by decide))
  have hS' : h2.get? s1.heap.objs.size = some (lst acc.toList cc) := by rw [hS]; simp [lst]
  have kk2 : Kept s1 { s1 with heap := h2, toks := tk2 } := ⟨⟨rfl, rfl⟩, fun b o _ e => ⟨by simp, hk2 b o e⟩⟩
  obtain ⟨F2, g2, dX⟩ := F1.newG (a := s1.heap.objs.size) (o := lst acc.toList cc) kk2 (Heap.get?_none_of_le (Nat.le_refl _)) hS'
  generalize hs2 : ({ s1 with heap := h2, toks := tk2 } : Shared) = s2 at *
  generalize hd : s1.heap.objs.size = d at *
  refine r_storeC F2 fun s3 g3 F3 => ?_
  -- def read
  refine wpAny_execs_cons (nestDef_K rfl rfl rfl ?_)
  refine r_make GH F3 0 rfl GH.c90 (by exact trivial) rfl rfl rfl rfl ?_
  intro s4 rd doc pm cr ctv g4 F4 rdX crX hrd hcr
  refine r_store F4 fun s5 g5 F5 => ?_
  -- stream = lambda: None
  refine wpAny_execs_cons (wpAny_Assign_Name ?_)
  refine r_lambdaO GH F5 0 rfl GH.c90 (by exact trivial) rfl rfl rfl rfl rfl ?_
  intro s6 f pm2 c2 ctv2 g6 fX F6
  refine r_store F6 fun s7 g7 F7 => ?_
  refine wpAny_execs_cons (plainObj_wpAny_Assign_Attribute ?_)
  refine r_loc F7 (by walk_at "lkp") (r_loc F7 (by walk_at "lkp") ?_)
  refine fn_setAttr (F7.at (k := 2) rfl) ⟨_, rfl⟩ fnRead ?_
  intro s8 hs t sg8 kp8 hf8 hfd8
  obtain ⟨F8, g8⟩ := F7.kb1 (k := 2) (s' := s8) rfl ⟨sg8, fun b o hb e => kp8 b o (by simpa using hb) e⟩ hf8
  refine wpAny_execs_cons (wpAny_Return_some (r_loc F8 (by walk_at "lkp") ?_))
  have XY : ∀ b ∈ X, b ∈ Y := fun b hb => by rw [← hY]; simp [hb]
  have L1Y : L + 1 ∈ Y := by rw [← hY]; simp
  have lv7 : s7.heap.objs.size ∉ f :: d :: Y := fun q => by obtain ⟨o, e⟩ := F7.live _ q; exact Nat.lt_irrefl _ (Heap.lt_size e)
  have dn : s.heap.get? d = none := by
    cases q : s.heap.get? d with
    | none => rfl
    | some o => exact absurd (Heap.lt_size (k1.get q)) (by rw [hd]; exact Nat.lt_irrefl _)
  have g48 : Go (d :: Y) s4 (f :: d :: Y) s8 := g5.trans (g6.trans (g7.trans g8))
  refine h s8 _ ⟨d, f, s7.heap.objs.size, rd, L + 1, cr⟩ acc.toList cc ⟨?_, fun b o hb e => F8.keep b o (hideAll_get _ e hb)⟩ dn (fun o e x hx => ?_) (F8.at (k := 0) rfl) ⟨⟨_, F8.at (k := 2) rfl⟩, ⟨hs, t, hfd8⟩, ⟨doc, pm, ctv, (g48.2 _ _ rdX hrd).2⟩, ?_, F8.cell "signs" _ rfl, ?_⟩ (F8.at (k := 1) rfl) (signs_all x acc hI)
  · exact ⟨g1.1.1 |> fun q => (g2.trans (g3.trans (g4.trans g48))).1.1.trans q, (g2.trans (g3.trans (g4.trans g48))).1.2.trans g1.1.2⟩
  · rcases List.mem_cons.mp hx with h | h
    · exact ⟨o, h ▸ e⟩
    · exact F8.live x (by simp [XY x h])
  · obtain ⟨c, o, vs, t, q, a, b⟩ := hcr
    cases q
    exact ⟨_, o, vs, t, rfl, (g48.2 _ _ crX a).2, b⟩
  · intro y hy
    have sub : y ∉ d :: Y → y ∉ d :: X := fun n q => n (by rcases List.mem_cons.mp q with q | q <;> simp [q, XY y] <;> exact .inr (XY y q))
    simp only [List.mem_cons, List.not_mem_nil, or_false] at hy
    rcases hy with q | q | q | q | q <;> subst q
    · exact sub fX
    · exact sub fun q => lv7 (List.mem_cons_of_mem _ q)
    · exact sub rdX
    · exact sub crX
    · intro q
      rcases List.mem_cons.mp q with q | q
      · have q2 : L + 1 = d := q
        rw [q2] at L1Y; exact dX L1Y
      · exact hLX _ (by simp) q
end
end Mine
end

-- Lexer
section
open PySem PySem.W PyProof.Rows PySem.Builtin.ObjectAttr
set_option maxRecDepth 100000
set_option linter.all false
namespace Mine
local macro_rules | `(tactic| walk_at "lkp") => `(tactic| first | assumption | exact upd_same | (refine lks (sne (by decide)) ?_; walk_at "lkp"))
theorem o10 : Str.ofString "\n" = ⟨#[10]⟩ := by decide +kernel
theorem oWs : Str.ofString "\n\t\r " = ⟨#[10, 9, 13, 32]⟩ := by decide +kernel
/-- what stands beside the names in a lexer's dict -/
structure LD where
  a : Int
  b : Int
  c : Int
  d : Int
  t : Tok
  u : Tok
  v : Tok
  x : Tok
  y : Tok
  z : Tok
def LD.es (e : LD) (n : Int) (f pb : Addr) : List DictEntry :=
  [⟨e.a, .str "lineno" e.t, .int n e.y⟩, ⟨e.b, .str "instream" e.u, .ref f⟩, ⟨e.c, .str "whitespace" e.v, .str ⟨#[10, 9, 13, 32]⟩ e.z⟩, ⟨e.d, .str "pushback" e.x, .ref pb⟩]
section
variable (e : LD) (n : Int) (f pb : Addr)
theorem es_l : getL "lineno" (e.es n f pb) = some (some (.int n e.y)) := rfl
theorem es_i : getL "instream" (e.es n f pb) = some (some (.ref f)) := rfl
theorem es_w : getL "whitespace" (e.es n f pb) = some (some (.str ⟨#[10, 9, 13, 32]⟩ e.z)) := rfl
theorem es_p : getL "pushback" (e.es n f pb) = some (some (.ref pb)) := rfl
theorem es_r : getL "_read_char" (e.es n f pb) = some none := rfl
theorem es_g : getL "get_token" (e.es n f pb) = some none := rfl
theorem es_t : getL "push_token" (e.es n f pb) = some none := rfl
theorem es_put (hs : Int) (key : Value) (m : Int) (t : Tok) : putL "lineno" hs key (.int m t) (e.es n f pb) = { e with y := t }.es m f pb := rfl
end
def lnUp (cs : List Nat) : Int := if cs.head? = some 10 then 1 else 0
section
variable {p : Program} {w : World} {A : Around} {s : Shared} {env : Env} {B : Heap} {X : List Addr} {φ : Fm} {m : Str → Option Value} {own : List (Addr × Obj)} {mg mb : Str → Option Value}
theorem r_iadd {a b : Int} {t u : Tok} {Q : Value → Shared → Prop} (h : ∀ s' t, Tk s s' → Q (.int (a + b) t) s') : W p w A (inplaceOp .Add (.int a t) (.int b u)) Q s := iadd_int (h _ _ tk_of)

set_option maxHeartbeats 1000000 in
theorem rc_spec {k : Nat} {l : Lx} {x dx pb : Addr} {e : LD} {kk : Nat} {n : Int} {vs : List Value} {nn : Nat} {cs : List Nat} {R : Result → Shared → Prop} {B0 : Heap} (hKB : (KH w).In B0) (nlB : B0.NoLimit) (kB : ∀ b o, B0.get? b = some o → s.heap.get? b = some o) (nB1 : B0.get? dx = none) (nB2 : B0.get? l.d = none) (lv : Liv s X) (hA : Rm A (k + 3)) (hx : s.heap.get? x = some (instObj 66 dx)) (xX : x ∉ X) (hL : LexF s.heap X l)
    (dxX : dx ∈ X) (ddX : l.d ∈ X) (hne : dx ≠ l.d) (hdx : s.heap.get? dx = some (dictOf (e.es n l.f pb) kk)) (hd : s.heap.get? l.d = some (lst vs nn)) (hv : All2 Sgn vs cs) (hz : vs.length ≤ 1000)
    (h : ∀ s' e' kk' vs' n' t, KB [dx, l.d] s s' → s'.heap.get? dx = some (dictOf (LD.es e' (n + lnUp cs) l.f pb) kk') → s'.heap.get? l.d = some (lst vs' n') → All2 Sgn vs' cs.tail → R (.ok (.ret (.str (hdS cs) t))) s') :
    codeAny (model p w) A (.call (.ref 49) ⟨[.ref x], []⟩) R s := by
  have hK := hKB.keeps kB
  have nl := nlB.keeps kB
  have kH : ∀ b o, B0.get? b = some o → (hideAll s.heap ([(dx, dictOf (e.es n l.f pb) kk), (l.d, lst vs nn)].map (·.1))).get? b = some o := fun b o e => hideAll_get _ (kB b o e) fun q => by
    simp at q; rcases q with q | q
    · rw [q, nB1] at e; cases e
    · rw [q, nB2] at e; cases e
  refine enterMc (k := k + 2) (mv := [(dx, dictOf (e.es n l.f pb) kk), (l.d, lst vs nn)]) (binds := [("self", .ref x)]) nl lv ?_ ?_ ?_ hA (hK 49 (objAt 49) rfl) rfl rfl (codeRec_of hK (by rfl)) (.of_eq rfl) (by show ∀ x ∈ (fd 49).scope.names, _; decide) (locs rfl) rfl rfl rfl ?_
  · intro q hq; simp at hq; rcases hq with h | h <;> subst h <;> assumption
  · intro q hq; simp at hq; rcases hq with h | h <;> subst h <;> assumption
  · simpa using hne
  intro s1 L hLX g1 k1 hA1 F1
  have hK1 : (KH w).In s1.heap := hK.keeps fun b o e => k1.get e
  have hL1 := hL.go g1
  have hx1 := k1.get hx
  obtain ⟨hsr, tr, hfd⟩ := hL1.fd
  obtain ⟨fdat, hf⟩ := hL1.f
  refine wpAny_execs_cons (wpAny_Assign_Name ?_)
  refine MC ?_
  refine Attribute_any_ (r_loc F1 rfl ?_)
  refine r_iget hK1 hx1 (F1.at (k := 0) rfl) (es_i ..) rfl fun s2 k2 => ?_
  refine fn_getMethod (by rw [k2.1]; exact hf) ⟨_, rfl⟩ (by rw [k2.1]; exact hfd) rfl rfl fun s3 k3 => ?_
  have F3 := (F1.tk k2).tk k3
  have hL3 : LexF s3.heap (L :: X) l := by rw [k3.1, k2.1]; exact hL1
  obtain ⟨doc, pm, ctv, hrd⟩ := hL3.rd
  refine CDA hrd rfl ?_
  refine AC ?_
  refine r_int fun s4 t4 k4 => args_nil ?_
  have F4 := F3.tk k4
  have hL4 : LexF s4.heap (L :: X) l := by rw [k4.1]; exact hL3
  refine ⟨by rw [k4.1]; exact hrd, ?_⟩
  have nl4 : s4.heap.NoLimit := by rw [k4.1, k3.1, k2.1]; exact nl.keeps fun b o e => k1.get e
  refine read_spec (k := k) nl4 F4.live hA1 hL4 (by simp [ddX]) (F4.at (k := 1) rfl) hv hz ?_
  intro s5 vs5 n5 t5 kb5 hd5 hv5
  obtain ⟨F5, g5⟩ := F4.kb1 (k := 1) rfl kb5 hd5
  refine r_store F5 fun s6 g6 F6 => ?_
  refine wpAny_execs_cons (wpAny_If (wpAny_isTrue_Compare1 (r_loc F6 upd_same (r_strC o10 fun s7 t7 k7 => r_eqS (wpAny_truthy_bool ?_)))))
  have F7 := F6.tk k7
  have gA : Go X s (L :: X) s7 := g1.trans ((k2.go _).trans ((k3.go _).trans ((k4.go _).trans (g5.trans (g6.trans (k7.go _))))))
  have g47 : Go (L :: X) s1 (L :: X) s7 := (k2.go _).trans ((k3.go _).trans ((k4.go _).trans (g5.trans (g6.trans (k7.go _)))))
  have hx7 : s7.heap.get? x = some (instObj 66 dx) := (gA.2 _ _ xX hx).2
  have kp : ∀ {s'} {F' : List (Addr × Obj)} {m'}, Go (L :: X) s7 (L :: X) s' → Fra (hideAll s.heap ([(dx, dictOf (e.es n l.f pb) kk), (l.d, lst vs nn)].map (·.1))) s' (L :: X) ⟨L, []⟩ m' F' → KB [dx, l.d] s s' := fun g F' => ⟨(gA.trans g).1, fun b o hb e => F'.keep b o (hideAll_get _ e (by simpa using hb))⟩
  have hup : decide (hdS cs = ⟨#[10]⟩) = decide (cs.head? = some 10) := by
    cases cs with
    | nil => rfl
    | cons c r => simp [hdS]
  rw [hup]
  by_cases hc : cs.head? = some 10
  · rw [decide_eq_true hc]
    simp only [if_true]
    refine wpAny_execs_cons (wpAny_AugAssign_AttributeAny (r_loc F7 ((upd_ne (sne (by decide))).trans rfl) ?_))
    have hK7 : (KH w).In s7.heap := hKB.keeps fun b o e => F7.keep b o (kH b o e)
    refine r_iget hK7 hx7 (F7.at (k := 0) rfl) (es_l ..) rfl fun s8 k8 => ?_
    refine r_int fun s9 t9 k9 => r_iadd fun s10 t10 k10 => ?_
    have k70 : Tk s7 s10 := ⟨k10.1.trans (k9.1.trans k8.1), k10.2.1.trans (k9.2.1.trans k8.2.1), k10.2.2.trans (k9.2.2.trans k8.2.2)⟩
    have F10 := F7.tk k70
    refine r_iset (by rw [k70.1]; exact hK7) (by rw [k70.1]; exact hx7) (F10.at (k := 0) rfl) rfl (by show 4 ≤ 100; decide) fun s11 hs11 t11 sg11 sb11 hd11 => ?_
    obtain ⟨F11, g11⟩ := F10.setO (k := 0) rfl sb11 hd11 sg11
    refine wpAny_execs_nil ?_
    refine wpAny_execs_cons (wpAny_Return_some (r_loc F11 (by walk_at "lkp") ?_))
    have : lnUp cs = 1 := if_pos hc
    refine h s11 { e with y := t10 } (putN "lineno" (e.es n l.f pb) kk) vs5 n5 t5 (kp ((k70.go _).trans g11) F11) ?_ (F11.at (k := 1) rfl) hv5
    rw [this]; exact hd11
  · rw [decide_eq_false hc]
    simp only [Bool.false_eq_true, if_false]
    refine wpAny_execs_nil ?_
    refine wpAny_execs_cons (wpAny_Return_some (r_loc F7 (by walk_at "lkp") ?_))
    have : lnUp cs = 0 := if_neg hc
    refine h s7 e kk vs5 n5 t5 (kp (Go.refl _ _) F7) ?_ (F7.at (k := 1) rfl) hv5
    rw [this, Int.add_zero]; exact F7.at (k := 0) rfl

/-- a call whose callee stands in the head -/
theorem CK {f : Value} {h₀ : Heap} {pos : Pos} {first : List Value} {e : Expr} {rest : List Expr} {Q : Value → Shared → Prop} (hK : (KH w).In h₀) (h : W p w A (spliced (backTo pos (starEach (e :: rest) env))) (fun vs s₁ => (KH w).In s₁.heap ∧ W p w A (call f (first ++ vs)) Q s₁) s)
    (hk : keepIn (KH w) f = true := by rfl) (hs : notStar e = true := by rfl) (hplain : (backTo pos (starEach rest env)).any (·.1) = false := by rfl) : W p w A (callWith pos f first (backTo pos (starEach (e :: rest) env)) []) Q s :=
  callWith_K hK hk h (se_cons _ _ _ hs) hplain
theorem CK0 {f : Value} {pos : Pos} {first : List Value} {Q : Value → Shared → Prop} (hK : (KH w).In s.heap) (h : W p w A (call f (first ++ [])) Q s)
    (hk : keepIn (KH w) f = true := by rfl) : W p w A (callWith pos f first (backTo pos (starEach [] env)) []) Q s := callWith_K0 hK hk h
theorem own_all {h : Heap} {l : List (Addr × Obj)} (H : ∀ q ∈ l, h.get? q.1 = some q.2) : ∀ q ∈ l, h.get? q.1 = some q.2 := H

set_option maxHeartbeats 1000000 in
theorem init_spec {k : Nat} {x dx f : Addr} {R : Result → Shared → Prop} {B0 : Heap} (hKB : (KH w).In B0) (nlB : B0.NoLimit) (kB : ∀ b o, B0.get? b = some o → s.heap.get? b = some o) (nB1 : B0.get? dx = none) (lv : Liv s X) (hA : Rm A (k + 1))
    (hx : s.heap.get? x = some (instObj 66 dx)) (xX : x ∉ X) (dxX : dx ∈ X) (hdx : s.heap.get? dx = some (dictOf [] 0))
    (h : ∀ s' e kk pb n, KB [dx] s s' → s.heap.get? pb = none → s'.heap.get? dx = some (dictOf (LD.es e 1 f pb) kk) → s'.heap.get? pb = some (lst [] n) → R (.ok (.ret .none)) s') :
    codeAny (model p w) A (.call (.ref 42) ⟨[.ref x, .ref f], []⟩) R s := by
  have hK := hKB.keeps kB
  have nl := nlB.keeps kB
  have kH : ∀ b o, B0.get? b = some o → (hideAll s.heap ([(dx, dictOf [] 0)].map (·.1))).get? b = some o := fun b o e => hideAll_get _ (kB b o e) fun q => by
    simp at q; rw [q, nB1] at e; cases e
  refine enterMc (k := k) (mv := [(dx, dictOf [] 0)]) (binds := [("self", .ref x), ("fp", .ref f)]) nl lv (by simpa using hdx) (by simpa using dxX) (by simp) hA (hK 42 (objAt 42) rfl) rfl rfl (codeRec_of hK (by rfl)) (.of_eq rfl) (by show ∀ x ∈ (fd 42).scope.names, _; decide) (locs rfl) rfl rfl rfl ?_
  intro s1 L hLX g1 k1 hA1 F1
  have hx1 := k1.get hx
  have Kat : ∀ {s' own' m' X'}, Fra (hideAll s.heap ([(dx, dictOf [] 0)].map (·.1))) s' X' ⟨L, []⟩ m' own' → (KH w).In s'.heap := fun F => hKB.keeps fun b o e => F.keep b o (kH b o e)
  -- lineno
  refine wpAny_execs_cons (plainObj_wpAny_Assign_Attribute (r_int fun s2 t2 k2 => ?_))
  have F2 := F1.tk k2
  refine r_loc F2 rfl (r_iset (Kat F2) (by rw [k2.1]; exact hx1) (F2.at (k := 0) rfl) rfl (by show 0 ≤ 100; decide) fun s3 h3 t3 sg3 sb3 hd3 => ?_)
  obtain ⟨F3, g3⟩ := F2.setO (k := 0) rfl sb3 hd3 sg3
  have xL := (g1.2 _ _ xX hx).1
  have G3 := (k2.go (L :: X)).trans g3
  -- instream
  refine wpAny_execs_cons (plainObj_wpAny_Assign_Attribute (r_loc F3 rfl ?_))
  refine r_loc F3 rfl (r_iset (Kat F3) (G3.2 x _ xL hx1).2 (F3.at (k := 0) rfl) rfl (by show 1 ≤ 100; decide) fun s4 h4 t4 sg4 sb4 hd4 => ?_)
  obtain ⟨F4, g4⟩ := F3.setO (k := 0) rfl sb4 hd4 sg4
  have G4 := G3.trans g4
  -- whitespace
  refine wpAny_execs_cons (plainObj_wpAny_Assign_Attribute (r_strC oWs fun s5 t5 k5 => ?_))
  have F5 := F4.tk k5
  have G5 := G4.trans (k5.go _)
  refine r_loc F5 rfl (r_iset (Kat F5) (G5.2 x _ xL hx1).2 (F5.at (k := 0) rfl) rfl (by show 2 ≤ 100; decide) fun s6 h6 t6 sg6 sb6 hd6 => ?_)
  obtain ⟨F6, g6⟩ := F5.setO (k := 0) rfl sb6 hd6 sg6
  have G6 := G5.trans g6
  -- pushback
  refine wpAny_execs_cons (plainObj_wpAny_Assign_Attribute (List_ (args_nil (r_newListO F6 fun s7 pb pbX g7 F7 => ?_))))
  have G7 := G6.trans g7
  refine r_loc F7 rfl (r_iset (Kat F7) (G7.2 x _ xL hx1).2 (F7.at (k := 0) rfl) rfl (by show 3 ≤ 100; decide) fun s8 h8 t8 sg8 sb8 hd8 => ?_)
  obtain ⟨F8, g8⟩ := F7.setO (k := 0) rfl sb8 hd8 sg8
  have G8 := G7.trans g8
  refine wpAny_execs_nil ?_
  refine h s8 ⟨h3, h4, h6, h8, t3, t4, t6, t8, t2, t5⟩ _ pb _ ⟨(g1.trans G8).1, fun b o hb e => F8.keep b o (hideAll_get _ e (by simpa using hb))⟩ ?_ hd8 (F8.at (k := 1) rfl)
  cases q : s.heap.get? pb with
  | none => rfl
  | some o => exact absurd (List.mem_cons_self ..) (G7.2 pb o pbX (k1.get q)).1

/-- new objects, however made, that the frame owns -/
theorem Fra.newGs {s' : Shared} (F : Fra B s X φ m own) (k : Kept s s') (Y : List (Addr × Obj)) (hn : ∀ q ∈ Y, s.heap.get? q.1 = none) (hY : ∀ q ∈ Y, s'.heap.get? q.1 = some q.2) (nd : (Y.map (·.1)).Nodup) :
    Fra B s' (Y.map (·.1) ++ X) φ m (own ++ Y) ∧ Go X s (Y.map (·.1) ++ X) s' ∧ ∀ q ∈ Y, q.1 ∉ X := by
  have lX : ∀ x ∈ X, ∀ q ∈ Y, x ≠ q.1 := fun x hx q hq e => by
    obtain ⟨o, h⟩ := F.live x hx
    rw [e, hn q hq] at h; cases h
  have F1 := F.kept k
  have sp : ∀ x ∈ φ.adr ++ (own ++ Y).map (·.1), x ∈ φ.adr ++ own.map (·.1) ∨ x ∈ Y.map (·.1) := fun x hx => by
    rw [List.map_append, ← List.append_assoc] at hx; exact List.mem_append.mp hx
  refine ⟨⟨F1.keep, fun x hx => ?_, F1.ns, F1.cell, fun q hq => ?_, ?_, fun x hx => ?_, fun x hx => ?_⟩, ⟨k.1, fun b o hb e => ⟨fun z => ?_, k.get e⟩⟩, fun q hq h => lX _ h q hq rfl⟩
  · rcases sp x hx with h | h
    · exact F.fresh x h
    · obtain ⟨q, hq, rfl⟩ := List.mem_map.mp h
      cases e : B.get? q.1 with
      | none => rfl
      | some o => have := F.keep _ _ e; rw [hn q hq] at this; cases this
  · rcases List.mem_append.mp hq with h | h
    · exact F1.has q h
    · exact hY q h
  · rw [List.map_append, ← List.append_assoc]
    refine List.nodup_append.mpr ⟨F.nd, nd, fun x hx y hy e => ?_⟩
    obtain ⟨q, hq, rfl⟩ := List.mem_map.mp hy
    exact lX x (F.inX x hx) q hq e
  · rcases sp x hx with h | h
    · exact List.mem_append_right _ (F.inX x h)
    · exact List.mem_append_left _ h
  · rcases List.mem_append.mp hx with h | h
    · obtain ⟨q, hq, rfl⟩ := List.mem_map.mp h
      exact ⟨_, hY q hq⟩
    · exact F1.live x h
  · rcases List.mem_append.mp z with h | h
    · obtain ⟨q, hq, rfl⟩ := List.mem_map.mp h
      rw [hn q hq] at e; cases e
    · exact hb h

theorem make_lexer {k : Nat} {f : Addr} {Q : Value → Shared → Prop} {B0 : Heap} (hKB : (KH w).In B0) (nlB : B0.NoLimit) (kB : ∀ b o, B0.get? b = some o → s.heap.get? b = some o) (lv : Liv s X) (hA : Rm A (k + 2))
    (h : ∀ s' x dx e kk pb n, Kept s s' → s.heap.get? x = none → s.heap.get? dx = none → s.heap.get? pb = none → [x, dx, pb].Nodup → s'.heap.get? x = some (instObj 66 dx) → s'.heap.get? dx = some (dictOf (LD.es e 1 f pb) kk) → s'.heap.get? pb = some (lst [] n) → Q (.ref x) s') :
    W p w A (call (.ref 66) [.ref f]) Q s := by
  have hK := hKB.keeps kB
  have nl := nlB.keeps kB
  refine wpAny_call ?_
  obtain ⟨hh, g, d, t, os⟩ := s
  refine make_core (makes_of hK (by rfl)) (looks_findIn (r := some (.ref 42)) hK (by rfl)) (fun self => bind_fn hK self (by rfl)) (.inl rfl) ?_
  have hA2 : Rm (A.under (.builtin "type.__call__" ⟨[.ref 66, .ref f], []⟩)) (k + 1) := by
    have e1 : Code.weight (.builtin "type.__call__" ⟨[.ref 66, .ref f], []⟩) = 1 := by kernel_rfl
    have e2 : Code.cUnits (.builtin "type.__call__" ⟨[.ref 66, .ref f], []⟩) = 1 := by kernel_rfl
    refine ⟨hA.handled, ?_, ?_⟩
    · have := hA.depth; show A.depth + Code.weight _ + _ < _; rw [e1]; omega
    · have := hA.units; show A.units + Code.cUnits _ + _ < _; rw [e2]; omega
  have lt : ∀ {b o}, hh.get? b = some o → b ≠ hh.objs.size := fun e => Nat.ne_of_lt (Heap.lt_size e)
  have k1 : ∀ b o, hh.get? b = some o → ((hh.push emptyDict).push (instObj 66 hh.objs.size)).get? b = some o := fun b o e => Heap.get?_push_of_some _ (Heap.get?_push_of_some _ e)
  have hn0 : hh.get? hh.objs.size = none := Heap.get?_none_of_le (Nat.le_refl _)
  have hn1 : hh.get? (hh.objs.size + 1) = none := Heap.get?_none_of_le (Nat.le_succ _)
  have hx : ((hh.push emptyDict).push (instObj 66 hh.objs.size)).get? (hh.objs.size + 1) = some (instObj 66 hh.objs.size) := by heap_get
  have hd : ((hh.push emptyDict).push (instObj 66 hh.objs.size)).get? hh.objs.size = some (dictOf [] 0) := by heap_get
  refine init_spec (k := k) (X := hh.objs.size :: X) (dx := hh.objs.size) hKB nlB (fun b o e => k1 b o (kB b o e)) ?_ ?_ hA2 hx ?_ (by simp) hd ?_
  · cases q : B0.get? hh.objs.size with
    | none => rfl
    | some o => exact absurd rfl (lt (kB _ _ q))
  · intro y hy
    rcases List.mem_cons.mp hy with h | h
    · subst h; exact ⟨_, hd⟩
    · obtain ⟨o, e⟩ := lv y h; exact ⟨o, k1 _ _ e⟩
  · intro q
    rcases List.mem_cons.mp q with h | h
    · exact absurd h (Nat.ne_of_gt (Nat.lt_succ_self _))
    · obtain ⟨o, e⟩ := lv _ h
      have e' : hh.get? (hh.objs.size + 1) = some o := e
      rw [hn1] at e'; cases e'
  · intro s' e kk pb n kb hpn hde hpe
    refine ⟨rfl, ?_⟩
    have pne : ∀ {b o}, ((hh.push emptyDict).push (instObj 66 hh.objs.size)).get? b = some o → b ≠ pb := fun e q => by
      have hpn' : ((hh.push emptyDict).push (instObj 66 hh.objs.size)).get? pb = none := hpn
      rw [q, hpn'] at e; cases e
    refine h s' (hh.objs.size + 1) hh.objs.size e kk pb n ⟨kb.1, fun b o _ e => ⟨by simp, kb.get (by simpa using lt e) (k1 b o e)⟩⟩ hn1 hn0 ?_ ?_ (kb.get (by simp) hx) hde hpe
    · cases q : hh.get? pb with
      | none => rfl
      | some o => exact absurd rfl (pne (k1 _ _ q))
    · simp only [List.nodup_cons, List.mem_cons, List.not_mem_nil, or_false, not_or, List.nodup_nil, not_false_eq_true, and_true]
      exact ⟨⟨Nat.ne_of_gt (Nat.lt_succ_self _), pne hx⟩, pne hd⟩
end
end Mine
end

-- GetTok
section
open PySem PySem.W PyProof.Rows PySem.Builtin.ObjectAttr
set_option maxRecDepth 100000
set_option linter.all false
namespace Mine
local macro_rules | `(tactic| walk_at "lkp") => `(tactic| first | assumption | exact upd_same | (refine lks (sne (by decide)) ?_; walk_at "lkp"))

/-! what a token is -/
def white : List Nat := [10, 9, 13, 32]
def quo : List Nat → Option (List Nat × List Nat)
  | [] => none
  | c :: r => if c = 34 then some ([], r) else if c = 92 then (match r with | [] => none | d :: r' => (quo r').map fun q => (d :: q.1, q.2)) else (quo r).map fun q => (c :: q.1, q.2)
def unq : List Nat → Option (List Nat × List Nat)
  | [] => none
  | c :: r => if c ∈ white then some ([], r) else if c = 92 then (match r with | [] => none | d :: r' => (unq r').map fun q => (d :: q.1, q.2)) else (unq r).map fun q => (c :: q.1, q.2)
def outT : List Nat → Option (List Nat × List Nat)
  | [] => some ([], [])
  | c :: r => if c ∈ white then outT r else if c = 34 then quo r else if c = 92 then (match r with | [] => none | d :: r' => (unq r').map fun q => (d :: q.1, q.2)) else (unq r).map fun q => (c :: q.1, q.2)

theorem entry_ci_iter : entryFor table "callable_iterator.__iter__" = some Builtin.«dict_keyiterator.__iter__» := entryFor_alias (id' := "dict_keyiterator.__iter__") (by kernel_rfl) (by first | rfl | decide +kernel | (unfold String.splitOn; simp +decide [String.splitOnAux])) (by decide +kernel) (by kernel_rfl)
theorem args_ci_iter (a : Value) : argsOk "callable_iterator.__iter__" ⟨[a], []⟩ := by unfold argsOk; kernel_rfl
theorem slot_ci_iter' : Slot "callable_iterator" "__iter__" "callable_iterator.__iter__" :=
  Slot.of (T := "callable_iterator") (name := "__iter__") (owner := "callable_iterator") (n := "__iter__") (by rw [typeLookup_type, builtinLookup_eq_fast]; kernel_rfl) (by decide +kernel) (by decide +kernel) (by decide +kernel)
    (.inl (by decide +kernel)) (by rw [isSubtype_type]; kernel_rfl)
section
variable {p : Program} {w : World} {A : Around} {s : Shared} {env : Env} {B : Heap} {X : List Addr} {φ : Fm} {m : Str → Option Value} {own : List (Addr × Obj)} {mg mb : Str → Option Value}
theorem ci_iter {it : Addr} {o : Obj} {Q : Value → Shared → Prop} (hit : s.heap.get? it = some o) (hc : o.cls = .type "callable_iterator") (h : Q (.ref it) s) : W p w A (pyIter (.ref it)) Q s := by
  have hT : s.TypeIs (.ref it) "callable_iterator" := ⟨_, hit, hc⟩
  refine wpAny_pyIter_slot hT slot_ci_iter' (wpAny_call_entry slot_ci_iter' hT entry_ci_iter ?_ (args_ci_iter _))
  show wpAny _ _ (ret (.ref it)) _ _ s
  exact wpAny_pure ⟨_, rfl, "callable_iterator", _, hT, slot_ci_next.lookup, h⟩

theorem Fra.kb2 {s' : Shared} {a b : Addr} {o o2 o' o2' : Obj} {rest : List (Addr × Obj)} (F : Fra B s X φ m ((a, o) :: (b, o2) :: rest)) (k : KB [a, b] s s') (h1 : s'.heap.get? a = some o') (h2 : s'.heap.get? b = some o2') :
    Fra B s' X φ m ((a, o') :: (b, o2') :: rest) ∧ Go X s X s' := by
  have nd := (List.nodup_append.mp F.nd).2.1
  simp only [List.map_cons, List.nodup_cons, List.mem_cons, not_or] at nd
  refine ⟨F.kb k (by simp) (by simp) fun q hq => ?_, k.go fun x hx => ?_⟩
  · rcases List.mem_cons.mp hq with h | h
    · subst h; exact h1
    · rcases List.mem_cons.mp h with h | h
      · subst h; exact h2
      · refine k.get (fun e => ?_) (F.has q (by simp [h]))
        have qm : q.1 ∈ rest.map (·.1) := List.mem_map_of_mem h
        simp only [List.mem_cons, List.not_mem_nil, or_false] at e
        rcases e with e | e
        · exact nd.1.2 (e ▸ qm)
        · exact nd.2.1 (e ▸ qm)
  · exact F.inX x (List.mem_append_right _ (by simp at hx; rcases hx with h | h <;> simp [h]))

/-- the lexer that a frame walks -/
structure Lz (w : World) (B0 : Heap) (h : Heap) (Y : List Addr) (l : Lx) (x dx : Addr) : Prop where
  K : (KH w).In B0
  nl : B0.NoLimit
  n1 : B0.get? dx = none
  n2 : B0.get? l.d = none
  kB : ∀ b o, B0.get? b = some o → h.get? b = some o
  hx : h.get? x = some (instObj 66 dx)
  xY : x ∉ Y
  L : LexF h Y l
theorem Lz.go {B0 : Heap} {Y Y' : List Addr} {l : Lx} {x dx : Addr} {s' : Shared} (Z : Lz w B0 s.heap Y l x dx) (g : Go Y s Y' s') (kB : ∀ b o, B0.get? b = some o → s'.heap.get? b = some o) : Lz w B0 s'.heap Y' l x dx :=
  ⟨Z.K, Z.nl, Z.n1, Z.n2, kB, (g.2 _ _ Z.xY Z.hx).2, (g.2 _ _ Z.xY Z.hx).1, Z.L.go g⟩

/-- self._read_char() as a step of a frame -/
theorem rc_step {k : Nat} {B0 : Heap} {l : Lx} {x dx pb : Addr} {e : LD} {kk : Nat} {n : Int} {vs : List Value} {nn : Nat} {cs : List Nat} {rest : List (Addr × Obj)} {Q : Value → Shared → Prop} (hA : Rm A (k + 3)) (Z : Lz w B0 s.heap X l x dx)
    (F : Fra B s X φ m ((dx, dictOf (e.es n l.f pb) kk) :: (l.d, lst vs nn) :: rest)) (hv : All2 Sgn vs cs) (hz : vs.length ≤ 1000)
    (h : ∀ s' e' kk' vs' nn' t, KB [dx, l.d] s s' → Go X s X s' → Fra B s' X φ m ((dx, dictOf (LD.es e' (n + lnUp cs) l.f pb) kk') :: (l.d, lst vs' nn') :: rest) → All2 Sgn vs' cs.tail → Q (.str (hdS cs) t) s') :
    codeAny (model p w) A (.call (.ref 49) ⟨[.ref x], []⟩) (RQ Q) s := by
  have nd := (List.nodup_append.mp F.nd).2.1
  simp only [List.map_cons, List.nodup_cons, List.mem_cons, not_or] at nd
  refine rc_spec (k := k) Z.K Z.nl Z.kB Z.n1 Z.n2 F.live hA Z.hx Z.xY Z.L (F.inX _ (by simp)) (F.inX _ (by simp)) nd.1.1 (F.at (k := 0) rfl) (F.at (k := 1) rfl) hv hz ?_
  intro s' e' kk' vs' nn' t kb h1 h2 hv'
  obtain ⟨F', g⟩ := F.kb2 kb h1 h2
  exact h s' e' kk' vs' nn' t kb g F' hv'

theorem get_set_last {α : Type} (l : List α) (a b c d : α) : (a :: b :: (l ++ [c])).set (l.length + 2) d = a :: b :: (l ++ [d]) := by simp

/-- next sign -/
theorem nextC {k : Nat} {B0 : Heap} {l : Lx} {x dx pb it q : Addr} {e : LD} {kk : Nat} {n : Int} {vs : List Value} {nn : Nat} {cs : List Nat} {rest : List (Addr × Obj)} {tz : Tok} {Q : Option Value → Shared → Prop} (hA : Rm A (k + 4)) (Z : Lz w B0 s.heap X l x dx)
    (F : Fra B s X φ m ((dx, dictOf (e.es n l.f pb) kk) :: (l.d, lst vs nn) :: (rest ++ [(it, ciObj q (.str ⟨#[]⟩ tz))]))) (hq : s.heap.get? q = some (methodObj (.ref 49) (.ref x))) (qX : q ∉ X) (hv : All2 Sgn vs cs) (hz : vs.length ≤ 1000)
    (hsome : ∀ c r, cs = c :: r → ∀ s' e' kk' vs' nn' t, Go X s X s' → Fra B s' X φ m ((dx, dictOf (LD.es e' (n + lnUp cs) l.f pb) kk') :: (l.d, lst vs' nn') :: (rest ++ [(it, ciObj q (.str ⟨#[]⟩ tz))])) → All2 Sgn vs' r → Q (some (.str ⟨#[c]⟩ t)) s')
    (hnone : cs = [] → ∀ s' e' kk' vs' nn', Go X s X s' → Fra B s' X φ m ((dx, dictOf (LD.es e' n l.f pb) kk') :: (l.d, lst vs' nn') :: (rest ++ [(it, ciEnd)])) → All2 Sgn vs' [] → Q none s') :
    W p w A (pyNext (.ref it)) Q s := by
  have h49 : s.heap.get? 49 = some (objAt 49) := Z.kB _ _ (Z.K 49 (objAt 49) rfl)
  have iF : (it, ciObj q (.str ⟨#[]⟩ tz)) ∈ ((dx, dictOf (e.es n l.f pb) kk) :: (l.d, lst vs nn) :: (rest ++ [(it, ciObj q (.str ⟨#[]⟩ tz))])) := by simp
  refine ci_next hA.handled (F.has _ iF) hq h49 rfl (rc_step (k := k) hA.in1 Z F hv hz ?_)
  intro s' e' kk' vs' nn' t kb g F' hv'
  have hq' := (g.2 _ _ qX hq).2
  have iF' : (it, ciObj q (.str ⟨#[]⟩ tz)) ∈ ((dx, dictOf (LD.es e' (n + lnUp cs) l.f pb) kk') :: (l.d, lst vs' nn') :: (rest ++ [(it, ciObj q (.str ⟨#[]⟩ tz))])) := by simp
  have n49 : ∀ a ∈ [dx, l.d], (49 : Addr) ≠ a := fun a ha e => by
    have h0 := Z.K 49 (objAt 49) rfl
    simp at ha
    rcases ha with h | h <;> subst h
    · rw [e, Z.n1] at h0; cases h0
    · rw [e, Z.n2] at h0; cases h0
  refine ⟨F'.has _ iF', hq', kb.get (fun h => n49 49 h rfl) h49, hdS cs, t, rfl, fun hne s'' k'' => ?_, fun he s'' sg hx hend => ?_⟩
  · cases cs with
    | nil => exact absurd rfl hne
    | cons c r => exact hsome c r rfl s'' e' kk' vs' nn' t (g.trans (k''.go _)) (F'.tk k'') hv'
  · cases cs with
    | cons c r => cases he
    | nil =>
      have kb2 : KB [it] s' s'' := ⟨sg, fun b o hb e => hx b o (by simpa using hb) e⟩
      obtain ⟨F'', g''⟩ := F'.kb1 (k := rest.length + 2) (a := it) (o := ciObj q (.str ⟨#[]⟩ tz)) (by simp) kb2 hend
      rw [get_set_last] at F''
      refine hnone rfl s'' e' kk' vs' nn' (g.trans g'') ?_ hv'
      have : n + lnUp [] = n := by simp [lnUp]
      rw [this] at F''; exact F''
end
end Mine
end

-- GetTok2
section
open PySem PySem.W PyProof.Rows PySem.Builtin.ObjectAttr
set_option maxRecDepth 100000
set_option linter.all false
namespace Mine
local macro_rules | `(tactic| walk_at "lkp") => `(tactic| first | assumption | exact upd_same | (refine lks (sne (by decide)) ?_; walk_at "lkp"))
theorem o34' : Str.ofString "\"" = ⟨#[34]⟩ := by decide +kernel
theorem o92' : Str.ofString "\\" = ⟨#[92]⟩ := by decide +kernel
/-- what get_token walks with -/
structure GC where
  L : Addr
  Y : List Addr
  x : Addr
  dx : Addr
  pb : Addr
  it : Addr
  q : Addr
  l : Lx
  tz : Tok
  pbo : Obj
  N : Int
inductive GS (w : World) (B0 B : Heap) (G : GC) (s0 s : Shared) (m : Str → Option Value) (cs tk : List Nat) : Prop
  | mk (e : LD) (kk : Nat) (n : Int) (vs : List Value) (nn : Nat) (F : Fra B s G.Y ⟨G.L, []⟩ m ((G.dx, dictOf (LD.es e n G.l.f G.pb) kk) :: (G.l.d, lst vs nn) :: ([(G.pb, G.pbo)] ++ [(G.it, ciObj G.q (.str ⟨#[]⟩ G.tz))]))) (hv : All2 Sgn vs cs) (hz : cs.length + tk.length ≤ 1000) (hn : n + (cs.count 10 : Nat) = G.N) (lz : Lz w B0 s.heap G.Y G.l G.x G.dx) (sg : SG s0 s)
    (hq : s.heap.get? G.q = some (methodObj (.ref 49) (.ref G.x))) (qY : G.q ∉ G.Y) (m1 : m "self" = some (.ref G.x)) (m2 : ∃ t, m "token" = some (.str ⟨tk.toArray⟩ t)) (m3 : m "fiter" = some (.ref G.it)) (kB : ∀ b o, B0.get? b = some o → B.get? b = some o)
theorem ln_count (cs : List Nat) : lnUp cs + (cs.tail.count 10 : Nat) = (cs.count 10 : Nat) := by
  cases cs with
  | nil => simp [lnUp]
  | cons c r =>
    by_cases h : c = 10
    · subst h; simp [lnUp]; omega
    · have h2 : ¬ (c == 10) = true := by simpa using h
      simp [lnUp, h, List.count_cons]
section
variable {p : Program} {w : World} {A : Around} {s s0 : Shared} {B0 B : Heap} {G : GC} {m : Str → Option Value} {cs tk : List Nat} {k : Nat}
noncomputable abbrev E56 (L : Addr) : Env := callEnv (fd 56) L 56

/-- a step of the frame that leaves the lexer be -/
theorem GS.step {s' : Shared} {m' : Str → Option Value} {tk' : List Nat} (g : GS w B0 B G s0 s m cs tk) (hF : ∀ {own}, Fra B s G.Y ⟨G.L, []⟩ m own → Fra B s' G.Y ⟨G.L, []⟩ m' own) (hgo : Go G.Y s G.Y s') (hs : m' "self" = m "self") (hf : m' "fiter" = m "fiter") (ht : ∃ t, m' "token" = some (.str ⟨tk'.toArray⟩ t)) (hl : tk'.length ≤ tk.length ∨ cs.length + tk'.length ≤ 1000) : GS w B0 B G s0 s' m' cs tk' := by
  obtain ⟨e, kk, n, vs, nn, F, hv, hz, hn, Z, sg, hq, qY, hs', ht', hf', kB⟩ := g
  have F' := hF F
  exact ⟨e, kk, n, vs, nn, F', hv, by omega, hn, Z.go hgo fun b o e => F'.keep b o (kB b o e), ⟨hgo.1.1.trans sg.1, hgo.1.2.trans sg.2⟩, (hgo.2 _ _ qY hq).2, qY, hs.trans hs', ht, hf.trans hf', kB⟩

theorem GS.tkn {s' : Shared} (g : GS w B0 B G s0 s m cs tk) (h : Tk s s') : GS w B0 B G s0 s' m cs tk :=
  g.step (fun F => F.tk h) (h.go _) rfl rfl (by obtain ⟨_, _, _, _, _, _, _, _, _, _, _, _, _, _, ht, _⟩ := g; exact ht) (.inl (Nat.le_refl _))
theorem GS.loc {x : Str} {pos : Pos} {v : Value} {Q : Value → Shared → Prop} (g : GS w B0 B G s0 s m cs tk) (hv : m x = some v) (h : Q v s) (hl : (E56 G.L).kindOf x = some .local := by rfl) (hd : (x == ("__debug__" : Str)) = false := by rfl) : W p w A (eval (.Name x pos) (E56 G.L)) Q s := by
  obtain ⟨_, _, _, _, _, F, _⟩ := g
  exact r_loc F hv h rfl hl rfl rfl hd
/-- ch = v -/
theorem GS.setCh {v : Value} {Q : Unit → Shared → Prop} (g : GS w B0 B G s0 s m cs tk) (h : ∀ s', GS w B0 B G s0 s' (upd m "ch" v) cs tk → Q () s') : W p w A (storeName (E56 G.L) "ch" v) Q s := by
  have g0 := g
  obtain ⟨e, kk, n, vs, nn, F, hv, hz, hn, Z, sg, hq, qY, hs', ht', hf', kB⟩ := g0
  refine r_store F fun s' g' F' => h s' ?_
  exact ⟨e, kk, n, vs, nn, F', hv, hz, hn, Z.go g' fun b o e => F'.keep b o (kB b o e), ⟨g'.1.1.trans sg.1, g'.1.2.trans sg.2⟩, (g'.2 _ _ qY hq).2, qY, (upd_ne (sne (by decide))).trans hs', by rw [upd_ne (sne (by decide))]; exact ht', (upd_ne (sne (by decide))).trans hf', kB⟩
/-- token += c -/
theorem GS.add {p1 p2 pos : Pos} {c : Nat} {t : Tok} {Q : Flow → Shared → Prop} (g : GS w B0 B G s0 s m cs tk) (hc : m "ch" = some (.str ⟨#[c]⟩ t)) (hz : cs.length + tk.length < 1000) (h : ∀ s', ∀ u, GS w B0 B G s0 s' (upd m "token" (.str ⟨(tk ++ [c]).toArray⟩ u)) cs (tk ++ [c]) → Q .next s') :
    W p w A (exec (.AugAssign (.Name "token" p1) .Add (.Name "ch" p2) pos) (E56 G.L)) Q s := by
  have g0 := g
  obtain ⟨e, kk, n, vs, nn, F, hv, hz', hn, Z, sg, hq, qY, hs', ⟨t0, ht'⟩, hf', kB⟩ := g0
  have F0 := F
  obtain ⟨ml, n1, n2⟩ := F0.ns
  refine wpAny_AugAssign_Name (wpAny_loadName_local rfl rfl n1 ((n2 _ rfl).trans ht') ?_)
  refine r_loc F hc ?_
  have hx : (⟨tk.toArray⟩ : Str) ++ ⟨#[c]⟩ = ⟨(tk ++ [c]).toArray⟩ := by
    show (⟨tk.toArray ++ #[c]⟩ : Str) = _
    simp
  refine SB.iadd (fun t' k' => ?_) (Nat.le_trans (show (⟨tk.toArray⟩ : Str).length + (⟨#[c]⟩ : Str).length ≤ 1001 by simp [Str.length]; omega) (by decide))
  rw [hx]
  have F1 := F.tk (tk_of (s := s) (t := k'))
  have k1 : Tk s { s with toks := k' } := tk_of
  refine r_store F1 fun s' g' F' => h s' t' ?_
  have gg := (k1.go _).trans g'
  exact ⟨e, kk, n, vs, nn, F', hv, by simp; omega, hn, Z.go gg fun b o e => F'.keep b o (kB b o e), ⟨gg.1.1.trans sg.1, gg.1.2.trans sg.2⟩, (gg.2 _ _ qY hq).2, qY, (upd_ne (sne (by decide))).trans hs', ⟨_, upd_same⟩, (upd_ne (sne (by decide))).trans hf', kB⟩

/-- next(fiter) -/
theorem GS.next {Q : Option Value → Shared → Prop} (g : GS w B0 B G s0 s m cs tk) (hA : Rm A (k + 4))
    (hsome : ∀ c r, cs = c :: r → ∀ s' t, GS w B0 B G s0 s' m r tk → Q (some (.str ⟨#[c]⟩ t)) s')
    (hnone : cs = [] → ∀ s' e kk n vs nn, Fra B s' G.Y ⟨G.L, []⟩ m ((G.dx, dictOf (LD.es e n G.l.f G.pb) kk) :: (G.l.d, lst vs nn) :: ([(G.pb, G.pbo)] ++ [(G.it, ciEnd)])) → All2 Sgn vs [] → n = G.N → SG s0 s' → Q none s') :
    W p w A (pyNext (.ref G.it)) Q s := by
  obtain ⟨e, kk, n, vs, nn, F, hv, hz', hn, Z, sg, hq, qY, hs', ht', hf', kB⟩ := g
  refine nextC (k := k) (rest := [(G.pb, G.pbo)]) hA Z F hq qY hv (by rw [hv.len]; omega) ?_ ?_
  · intro c r e1 s' e' kk' vs' nn' t g' F' hv'
    subst e1
    refine hsome c r rfl s' t ⟨e', kk', _, vs', nn', F', hv', by simp at hz'; omega, ?_, Z.go g' fun b o e => F'.keep b o (kB b o e), ⟨g'.1.1.trans sg.1, g'.1.2.trans sg.2⟩, (g'.2 _ _ qY hq).2, qY, hs', ht', hf', kB⟩
    have := ln_count (c :: r)
    simp only [List.tail_cons] at this
    omega
  · intro e1 s' e' kk' vs' nn' g' F' hv'
    subst e1
    refine hnone rfl s' e' kk' n vs' nn' F' hv' ?_ ⟨g'.1.1.trans sg.1, g'.1.2.trans sg.2⟩
    simpa using hn
/-- self._read_char() -/
theorem GS.read {Q : Value → Shared → Prop} {p1 apos pos : Pos} (g : GS w B0 B G s0 s m cs tk) (hA : Rm A (k + 3)) (hcs : cs ≠ []) (h : ∀ d r, cs = d :: r → ∀ s' t, GS w B0 B G s0 s' m r tk → Q (.str ⟨#[d]⟩ t) s') (hp : (apos.endLine == pos.line) = true := by rfl) :
    W p w A (eval (.Call (.Attribute (.Name "self" p1) "_read_char" apos) [] [] pos) (E56 G.L)) Q s := by
  have g0 := g
  obtain ⟨e, kk, n, vs, nn, F, hv, hz', hn, Z, sg, hq, qY, hs', ht', hf', kB⟩ := g0
  refine MC ?_ rfl rfl hp
  refine g.loc hs' ?_
  refine r_imeth (f := 49) (Z.K.keeps Z.kB) Z.hx (F.at (k := 0) rfl) (es_r ..) ?_
  refine CK0 (Z.K.keeps Z.kB) ?_
  refine wpAny_call (rc_step (k := k) hA Z F hv (by rw [hv.len]; omega) ?_)
  intro s' e' kk' vs' nn' t kb g' F' hv'
  cases cs with
  | nil => exact absurd rfl hcs
  | cons d r =>
    refine h d r rfl s' t ⟨e', kk', _, vs', nn', F', hv', by simp at hz'; omega, ?_, Z.go g' fun b o e => F'.keep b o (kB b o e), ⟨g'.1.1.trans sg.1, g'.1.2.trans sg.2⟩, (g'.2 _ _ qY hq).2, qY, hs', ht', hf', kB⟩
    have := ln_count (d :: r)
    simp only [List.tail_cons] at this
    omega
/-- ch == a sign -/
theorem GS.eqC {Q : Bool → Shared → Prop} {x : Str} {d c j : Nat} {p1 p2 p3 : Pos} {t : Tok} (g : GS w B0 B G s0 s m cs tk) (hx : x = ⟨#[d]⟩) (hc : m "ch" = some (.str ⟨#[c]⟩ t)) (h : ∀ s', GS w B0 B G s0 s' m cs tk → Q (decide (c = d)) s') :
    W p w A (PySem.isTrue (.Compare (.Name "ch" p1) [.Eq] [.Constant (.str x) j p2] p3) (E56 G.L) (eval (.Compare (.Name "ch" p1) [.Eq] [.Constant (.str x) j p2] p3) (E56 G.L))) Q s := by
  refine wpAny_isTrue_Compare1 (g.loc hc (r_strC hx fun s1 t1 k1 => r_eqS (wpAny_truthy_bool ?_)))
  have : decide ((⟨#[c]⟩ : Str) = ⟨#[d]⟩) = decide (c = d) := by simp
  rw [this]
  exact h s1 (g.tkn k1)
/-- ch in self.whitespace -/
theorem GS.inW {Q : Bool → Shared → Prop} {c : Nat} {p1 p2 p3 p4 : Pos} {t : Tok} (g : GS w B0 B G s0 s m cs tk) (hc : m "ch" = some (.str ⟨#[c]⟩ t)) (h : ∀ s', GS w B0 B G s0 s' m cs tk → Q (decide (c ∈ white)) s') :
    W p w A (PySem.isTrue (.Compare (.Name "ch" p1) [.In] [.Attribute (.Name "self" p2) "whitespace" p3] p4) (E56 G.L) (eval (.Compare (.Name "ch" p1) [.In] [.Attribute (.Name "self" p2) "whitespace" p3] p4) (E56 G.L))) Q s := by
  have g0 := g
  obtain ⟨e, kk, n, vs, nn, F, hv, hz', hn, Z, sg, hq, qY, hs', ht', hf', kB⟩ := g0
  refine wpAny_isTrue_Compare1 (g.loc hc (Attribute_any_ (g.loc hs' (r_iget (Z.K.keeps Z.kB) Z.hx (F.at (k := 0) rfl) (es_w ..) rfl fun s1 k1 => r_in_sign (wpAny_truthy_bool ?_)))))
  exact h s1 (g.tkn k1)
/-- if ch == '\\': ch = self._read_char() -/
theorem GS.esc {Q : Flow → Shared → Prop} {x : Str} {c j : Nat} {p1 p2 p3 p4 p5 p6 p7 p8 p9 : Pos} {t : Tok} (g : GS w B0 B G s0 s m cs tk) (hx : x = ⟨#[92]⟩) (hA : Rm A (k + 3)) (hc : m "ch" = some (.str ⟨#[c]⟩ t)) (hne : c = 92 → cs ≠ [])
    (hno : c ≠ 92 → ∀ s', GS w B0 B G s0 s' m cs tk → Q .next s') (hyes : c = 92 → ∀ d r, cs = d :: r → ∀ s' t, GS w B0 B G s0 s' (upd m "ch" (.str ⟨#[d]⟩ t)) r tk → Q .next s') (hp : (p6.endLine == p7.line) = true := by rfl) :
    W p w A (exec (.If (.Compare (.Name "ch" p1) [.Eq] [.Constant (.str x) j p2] p3) [.Assign [.Name "ch" p4] (.Call (.Attribute (.Name "self" p5) "_read_char" p6) [] [] p7) p8] [] p9) (E56 G.L)) Q s := by
  refine wpAny_If (g.eqC hx hc fun s1 g1 => ?_)
  by_cases h : c = 92
  · rw [decide_eq_true h]
    simp only [if_true]
    refine wpAny_execs_cons (wpAny_Assign_Name (g1.read hA (hne h) (fun d r e s2 t2 g2 => ?_) hp))
    exact g2.setCh fun s3 g3 => wpAny_execs_nil (hyes h d r e s3 t2 g3)
  · rw [decide_eq_false h]
    simp only [Bool.false_eq_true, if_false]
    exact wpAny_execs_nil (hno h s1 g1)
end
end Mine
end

-- GetTok3
section
open PySem PySem.W PyProof.Rows PySem.Builtin.ObjectAttr
set_option maxRecDepth 100000
set_option linter.all false
namespace Mine
local macro_rules | `(tactic| walk_at "lkp") => `(tactic| first | assumption | exact upd_same | (refine lks (sne (by decide)) ?_; walk_at "lkp"))
noncomputable def quoB : List Stmt := match bd 56 with | [_, _, _, .For _ _ [_, .If _ [.For _ _ b _ _] _ _] _ _, _] => b | _ => []
noncomputable def unqB : List Stmt := match bd 56 with | [_, _, _, .For _ _ [_, .If _ _ [_, _, .For _ _ b _ _] _] _ _, _] => b | _ => []
noncomputable def outB : List Stmt := match bd 56 with | [_, _, _, .For _ _ b _ _, _] => b | _ => []
section
variable {p : Program} {w : World} {A : Around} {s s0 : Shared} {env : Env} {B0 B : Heap} {G : GC} {m : Str → Option Value} {cs tk : List Nat} {k : Nat}
/-- a loop whose target is a name -/
theorem for_name {x : Str} {pos : Pos} {it : Value} {body : List Stmt} {R : Result → Shared → Prop} (I : Nat → Shared → Prop)
    (turn : ∀ n s, I n s → W p w A (pyNext it) (fun r s1 => match r with
      | none => R (.ok .next) s1
      | some v => W p w A (storeName env x v) (fun _ s2 => W p w A (execs body env) (fun f s3 => match f with
        | .next | .cont => ∃ m, m < n ∧ I m s3
        | .brk => R (.ok .next) s3
        | .ret v => R (.ok (.ret v)) s3) s2) s1) s) (n : Nat) (h : I n s) : codeAny (model p w) A (.forLoop (.Name x pos) it body [] env) R s := by
  refine codeAny_forLoop_any I (fun n s hI => ?_) n h
  refine wpAny_mono (turn n s hI) (fun r s1 h1 => ?_) (fun _ _ h => h.elim)
  cases r with
  | none => exact wpAny_execs_nil h1
  | some v =>
    refine wpAny_pure ?_
    refine wpAny_mono (wpAny_assign_Name h1) (fun _ s2 h2 => wpAny_mono h2 (fun f s3 h3 => ?_) fun _ _ h => h.elim) fun _ _ h => h.elim
    cases f <;> exact h3

theorem quo_loop {p0 : Pos} {t2 cs2 : List Nat} {R : Result → Shared → Prop} (g : GS w B0 B G s0 s m cs tk) (hA : Rm A (k + 4)) (hq : quo cs = some (t2, cs2))
    (h : ∀ s' m' t, GS w B0 B G s0 s' m' cs2 (tk ++ t2) → R (.ok (.ret (.str ⟨(tk ++ t2).toArray⟩ t))) s') : codeAny (model p w) A (.forLoop (.Name "ch" p0) (.ref G.it) quoB [] (E56 G.L)) R s := by
  refine for_name (fun n s => ∃ m cs tk' t', n = cs.length ∧ GS w B0 B G s0 s m cs tk' ∧ quo cs = some (t', cs2) ∧ tk' ++ t' = tk ++ t2) (fun n s hI => ?_) cs.length ⟨m, cs, tk, t2, rfl, g, hq, rfl⟩
  obtain ⟨m, cs, tk', t', rfl, g, hq, ht⟩ := hI
  have hz : cs.length + tk'.length ≤ 1000 := by obtain ⟨_, _, _, _, _, _, _, hz, _⟩ := g; exact hz
  refine g.next hA (fun c r e s1 t1 g1 => ?_) (fun e => by subst e; cases hq)
  subst e
  simp only [List.length_cons] at hz
  refine g1.setCh fun s2 g2 => ?_
  refine wpAny_execs_cons (wpAny_If (g2.eqC o34' upd_same fun s3 g3 => ?_))
  unfold quo at hq
  by_cases h34 : c = 34
  · rw [if_pos h34] at hq
    rw [decide_eq_true h34]
    simp only [if_true]
    cases hq
    rw [List.append_nil] at ht
    have g3' := g3
    obtain ⟨_, _, _, _, _, _, _, _, _, _, _, _, _, _, ⟨t4, ht4⟩, _⟩ := g3'
    refine wpAny_execs_cons (wpAny_Return_some (g3.loc ht4 ?_))
    subst ht
    exact h s3 _ t4 g3
  · rw [if_neg h34] at hq
    rw [decide_eq_false h34]
    simp only [Bool.false_eq_true, if_false]
    refine wpAny_execs_cons (g3.esc (k := k) o92' (hA.le (by omega)) upd_same (fun e q => ?_) (fun hne s4 g4 => ?_) (fun he d r' e s4 t4 g4 => ?_))
    · subst e q; cases hq
    · rw [if_neg hne] at hq
      refine wpAny_execs_nil ?_
      cases hq' : quo r with
      | none => rw [hq'] at hq; cases hq
      | some z =>
        rw [hq'] at hq
        simp only [Option.map_some, Option.some.injEq, Prod.mk.injEq] at hq
        refine wpAny_execs_cons (g4.add upd_same (by omega) fun s5 t5 g5 => wpAny_execs_nil ?_)
        exact ⟨r.length, by simp, _, r, tk' ++ [c], z.1, rfl, g5, by rw [hq']; rw [← hq.2], by rw [← ht, ← hq.1]; simp⟩
    · subst he e
      refine wpAny_execs_nil ?_
      rw [if_pos rfl] at hq
      dsimp only at hq
      cases hq' : quo r' with
      | none => rw [hq'] at hq; cases hq
      | some z =>
        rw [hq'] at hq
        simp only [Option.map_some, Option.some.injEq, Prod.mk.injEq] at hq
        simp only [List.length_cons] at hz
        refine wpAny_execs_cons (g4.add upd_same (by omega) fun s5 t5 g5 => wpAny_execs_nil ?_)
        exact ⟨r'.length, by simp; omega, _, r', tk' ++ [d], z.1, rfl, g5, by rw [hq']; rw [← hq.2], by rw [← ht, ← hq.1]; simp⟩
theorem unq_loop {p0 : Pos} {t2 cs2 : List Nat} {R : Result → Shared → Prop} (g : GS w B0 B G s0 s m cs tk) (hA : Rm A (k + 4)) (hq : unq cs = some (t2, cs2))
    (h : ∀ s' m' t, GS w B0 B G s0 s' m' cs2 (tk ++ t2) → R (.ok (.ret (.str ⟨(tk ++ t2).toArray⟩ t))) s') : codeAny (model p w) A (.forLoop (.Name "ch" p0) (.ref G.it) unqB [] (E56 G.L)) R s := by
  refine for_name (fun n s => ∃ m cs tk' t', n = cs.length ∧ GS w B0 B G s0 s m cs tk' ∧ unq cs = some (t', cs2) ∧ tk' ++ t' = tk ++ t2) (fun n s hI => ?_) cs.length ⟨m, cs, tk, t2, rfl, g, hq, rfl⟩
  obtain ⟨m, cs, tk', t', rfl, g, hq, ht⟩ := hI
  have hz : cs.length + tk'.length ≤ 1000 := by obtain ⟨_, _, _, _, _, _, _, hz, _⟩ := g; exact hz
  refine g.next hA (fun c r e s1 t1 g1 => ?_) (fun e => by subst e; cases hq)
  subst e
  simp only [List.length_cons] at hz
  refine g1.setCh fun s2 g2 => ?_
  refine wpAny_execs_cons (wpAny_If (g2.inW upd_same fun s3 g3 => ?_))
  unfold unq at hq
  by_cases h34 : c ∈ white
  · rw [if_pos h34] at hq
    rw [decide_eq_true h34]
    simp only [if_true]
    cases hq
    rw [List.append_nil] at ht
    have g3' := g3
    obtain ⟨_, _, _, _, _, _, _, _, _, _, _, _, _, _, ⟨t4, ht4⟩, _⟩ := g3'
    refine wpAny_execs_cons (wpAny_Return_some (g3.loc ht4 ?_))
    subst ht
    exact h s3 _ t4 g3
  · rw [if_neg h34] at hq
    rw [decide_eq_false h34]
    simp only [Bool.false_eq_true, if_false]
    refine wpAny_execs_cons (g3.esc (k := k) o92' (hA.le (by omega)) upd_same (fun e q => ?_) (fun hne s4 g4 => ?_) (fun he d r' e s4 t4 g4 => ?_))
    · subst e q; cases hq
    · rw [if_neg hne] at hq
      refine wpAny_execs_nil ?_
      cases hq' : unq r with
      | none => rw [hq'] at hq; cases hq
      | some z =>
        rw [hq'] at hq
        simp only [Option.map_some, Option.some.injEq, Prod.mk.injEq] at hq
        refine wpAny_execs_cons (g4.add upd_same (by omega) fun s5 t5 g5 => wpAny_execs_nil ?_)
        exact ⟨r.length, by simp, _, r, tk' ++ [c], z.1, rfl, g5, by rw [hq']; rw [← hq.2], by rw [← ht, ← hq.1]; simp⟩
    · subst he e
      refine wpAny_execs_nil ?_
      rw [if_pos rfl] at hq
      dsimp only at hq
      cases hq' : unq r' with
      | none => rw [hq'] at hq; cases hq
      | some z =>
        rw [hq'] at hq
        simp only [Option.map_some, Option.some.injEq, Prod.mk.injEq] at hq
        simp only [List.length_cons] at hz
        refine wpAny_execs_cons (g4.add upd_same (by omega) fun s5 t5 g5 => wpAny_execs_nil ?_)
        exact ⟨r'.length, by simp; omega, _, r', tk' ++ [d], z.1, rfl, g5, by rw [hq']; rw [← hq.2], by rw [← ht, ← hq.1]; simp⟩
end
end Mine
end

-- GetTok4
section
open PySem PySem.W PyProof.Rows PySem.Builtin.ObjectAttr
set_option maxRecDepth 100000
set_option linter.all false
namespace Mine
local macro_rules | `(tactic| walk_at "lkp") => `(tactic| first | assumption | exact upd_same | (refine lks (sne (by decide)) ?_; walk_at "lkp"))
section
variable {p : Program} {w : World} {A : Around} {s s0 : Shared} {env : Env} {B0 B : Heap} {G : GC} {m : Str → Option Value} {cs tk : List Nat} {k : Nat}
theorem GS.self (g : GS w B0 B G s0 s m cs tk) : m "self" = some (.ref G.x) := by obtain ⟨_, _, _, _, _, _, _, _, _, _, _, _, _, h, _⟩ := g; exact h
theorem GS.tok (g : GS w B0 B G s0 s m cs tk) : ∃ t, m "token" = some (.str ⟨tk.toArray⟩ t) := by obtain ⟨_, _, _, _, _, _, _, _, _, _, _, _, _, _, h, _⟩ := g; exact h
theorem GS.fit (g : GS w B0 B G s0 s m cs tk) : m "fiter" = some (.ref G.it) := by obtain ⟨_, _, _, _, _, _, _, _, _, _, _, _, _, _, _, h, _⟩ := g; exact h
theorem GS.size (g : GS w B0 B G s0 s m cs tk) : cs.length + tk.length ≤ 1000 := by obtain ⟨_, _, _, _, _, _, _, h, _⟩ := g; exact h
theorem GS.has (g : GS w B0 B G s0 s m cs tk) : s.heap.get? G.it = some (ciObj G.q (.str ⟨#[]⟩ G.tz)) := by
  obtain ⟨_, _, _, _, _, F, _⟩ := g; exact F.has (G.it, _) (by simp)
/-- for ch in fiter -/
theorem GS.for_ {p0 p1 pos : Pos} {body : List Stmt} {Q : Flow → Shared → Prop} (g : GS w B0 B G s0 s m cs tk) (h : codeAny (model p w) A (.forLoop (.Name "ch" p0) (.ref G.it) body [] (E56 G.L)) (ForR p w A (E56 G.L) Q) s) : W p w A (exec (.For (.Name "ch" p0) (.Name "fiter" p1) body [] pos) (E56 G.L)) Q s :=
  wpAny_For (g.loc g.fit (ci_iter g.has rfl h))

theorem out_loop {p0 : Pos} {t2 cs2 : List Nat} {R : Result → Shared → Prop} (g : GS w B0 B G s0 s m cs []) (hA : Rm A (k + 4)) (hq : outT cs = some (t2, cs2))
    (h : ∀ s' m' t, GS w B0 B G s0 s' m' cs2 t2 → R (.ok (.ret (.str ⟨t2.toArray⟩ t))) s')
    (h2 : t2 = [] → cs2 = [] → ∀ s' m' e kk n vs nn, Fra B s' G.Y ⟨G.L, []⟩ m' ((G.dx, dictOf (LD.es e n G.l.f G.pb) kk) :: (G.l.d, lst vs nn) :: ([(G.pb, G.pbo)] ++ [(G.it, ciEnd)])) → All2 Sgn vs [] → n = G.N → SG s0 s' → (∃ t, m' "token" = some (.str ⟨#[]⟩ t)) → R (.ok .next) s') :
    codeAny (model p w) A (.forLoop (.Name "ch" p0) (.ref G.it) outB [] (E56 G.L)) R s := by
  refine for_name (fun n s => ∃ m cs, n = cs.length ∧ GS w B0 B G s0 s m cs [] ∧ outT cs = some (t2, cs2)) (fun n s hI => ?_) cs.length ⟨m, cs, rfl, g, hq⟩
  obtain ⟨m, cs, rfl, g, hq⟩ := hI
  have hz := g.size
  refine g.next hA (fun c r e s1 t1 g1 => ?_) (fun e s' e' kk n vs nn F hv hn sg => ?_)
  · subst e
    simp only [List.length_cons, List.length_nil] at hz
    refine g1.setCh fun s2 g2 => ?_
    refine wpAny_execs_cons (wpAny_If (g2.inW upd_same fun s3 g3 => ?_))
    unfold outT at hq
    by_cases hw : c ∈ white
    · rw [if_pos hw] at hq
      rw [decide_eq_true hw]
      simp only [if_true]
      exact wpAny_execs_cons (wpAny_Continue ⟨r.length, by simp, _, r, rfl, g3, hq⟩)
    · rw [if_neg hw] at hq
      rw [decide_eq_false hw]
      simp only [Bool.false_eq_true, if_false]
      refine wpAny_execs_nil ?_
      refine wpAny_execs_cons (wpAny_If (g3.eqC o34' upd_same fun s4 g4 => ?_))
      by_cases h34 : c = 34
      · rw [if_pos h34] at hq
        rw [decide_eq_true h34]
        simp only [if_true]
        refine wpAny_execs_cons (g4.for_ (quo_loop (k := k) g4 hA hq fun s' m' t g' => ?_))
        exact h s' m' t g'
      · rw [if_neg h34] at hq
        rw [decide_eq_false h34]
        simp only [Bool.false_eq_true, if_false]
        refine wpAny_execs_cons (g4.esc (k := k) o92' (hA.le (by omega)) upd_same (fun e q => ?_) (fun hne s5 g5 => ?_) (fun he d r' e s5 t5 g5 => ?_))
        · subst e q; cases hq
        · rw [if_neg hne] at hq
          cases hq' : unq r with
          | none => rw [hq'] at hq; cases hq
          | some z =>
            rw [hq'] at hq
            simp only [Option.map_some, Option.some.injEq, Prod.mk.injEq] at hq
            refine wpAny_execs_cons (g5.add upd_same (by simp; omega) fun s6 t6 g6 => ?_)
            refine wpAny_execs_cons (g6.for_ (unq_loop (k := k) g6 hA hq' fun s' m' t g' => ?_))
            obtain ⟨z1, z2⟩ := hq
            subst z1 z2
            exact h s' m' t g'
        · subst he e
          rw [if_pos rfl] at hq
          dsimp only at hq
          cases hq' : unq r' with
          | none => rw [hq'] at hq; cases hq
          | some z =>
            rw [hq'] at hq
            simp only [Option.map_some, Option.some.injEq, Prod.mk.injEq] at hq
            simp only [List.length_cons] at hz
            refine wpAny_execs_cons (g5.add upd_same (by simp; omega) fun s6 t6 g6 => ?_)
            refine wpAny_execs_cons (g6.for_ (unq_loop (k := k) g6 hA hq' fun s' m' t g' => ?_))
            obtain ⟨z1, z2⟩ := hq
            subst z1 z2
            exact h s' m' t g'
  · subst e
    cases hq
    obtain ⟨t, ht⟩ := g.tok
    exact h2 rfl rfl s' m e' kk n vs nn F hv hn sg ⟨t, ht⟩
end
end Mine
end

-- GetTok5
section
open PySem PySem.W PyProof.Rows PySem.Builtin.ObjectAttr
set_option maxRecDepth 100000
set_option linter.all false
namespace Mine
local macro_rules | `(tactic| walk_at "lkp") => `(tactic| first | assumption | exact upd_same | (refine lks (sne (by decide)) ?_; walk_at "lkp"))
theorem boot_iter : bootBuiltins "iter" = some (.builtin "iter") := by first | rfl | decide +kernel
section
variable {p : Program} {w : World} {A : Around} {s s0 : Shared} {env : Env} {B0 B : Heap} {X : List Addr} {mg mb : Str → Option Value} {cs tk : List Nat} {k : Nat}
/-- a lexer, at rest -/
structure LexAt (w : World) (B0 : Heap) (h : Heap) (X : List Addr) (l : Lx) (x dx pb : Addr) (n : Int) (cs : List Nat) (q : List Value) : Prop where
  n1 : B0.get? dx = none
  n2 : B0.get? l.d = none
  n3 : B0.get? pb = none
  hx : h.get? x = some (instObj 66 dx)
  xX : x ∉ X
  L : LexF h X l
  i1 : dx ∈ X
  i2 : l.d ∈ X
  i3 : pb ∈ X
  nd : [dx, l.d, pb].Nodup
  dict : ∃ e kk, h.get? dx = some (dictOf (LD.es e n l.f pb) kk)
  text : ∃ vs nn, h.get? l.d = some (lst vs nn) ∧ All2 Sgn vs cs
  size : cs.length ≤ 1000
  push : ∃ nn, h.get? pb = some (lst q nn)

set_option maxHeartbeats 1000000 in
theorem gt_spec {l : Lx} {x dx pb : Addr} {n : Int} {t2 cs2 : List Nat} {R : Result → Shared → Prop} (G0 : Gd w mg mb B0) (kB : ∀ b o, B0.get? b = some o → s.heap.get? b = some o) (lv : Liv s X) (hA : Rm A (k + 5)) (I : LexAt w B0 s.heap X l x dx pb n cs [])
    (ho : outT cs = some (t2, cs2))
    (h : ∀ s' e kk n' vs nn t, KB [dx, l.d] s s' → s'.heap.get? dx = some (dictOf (LD.es e n' l.f pb) kk) → s'.heap.get? l.d = some (lst vs nn) → All2 Sgn vs cs2 → n' + (cs2.count 10 : Nat) = n + (cs.count 10 : Nat) → R (.ok (.ret (.str ⟨t2.toArray⟩ t))) s') :
    codeAny (model p w) A (.call (.ref 56) ⟨[.ref x], []⟩) R s := by
  obtain ⟨n1, n2, n3, hx, xX, hL, i1, i2, i3, nd, ⟨e, kk, hdx⟩, ⟨vs, nn, hd, hv⟩, hz, ⟨pn, hpb⟩⟩ := I
  have hK := G0.K.keeps kB
  have kH : ∀ b o, B0.get? b = some o → (hideAll s.heap ([(dx, dictOf (e.es n l.f pb) kk), (l.d, lst vs nn), (pb, lst [] pn)].map (·.1))).get? b = some o := fun b o e => hideAll_get _ (kB b o e) fun q => by
    simp at q; rcases q with q | q | q
    · rw [q, n1] at e; cases e
    · rw [q, n2] at e; cases e
    · rw [q, n3] at e; cases e
  have GH := G0.keeps kH
  refine enterMc (k := k + 4) (mv := [(dx, dictOf (e.es n l.f pb) kk), (l.d, lst vs nn), (pb, lst [] pn)]) (binds := [("self", .ref x)]) (G0.nolimit.keeps kB) lv ?_ ?_ nd hA (hK 56 (objAt 56) rfl) rfl rfl (codeRec_of hK (by rfl)) (.of_eq rfl) (by show ∀ x ∈ (fd 56).scope.names, _; decide) (locs rfl) rfl rfl rfl ?_
  · intro q hq; simp at hq; rcases hq with h | h | h <;> subst h <;> assumption
  · intro q hq; simp at hq; rcases hq with h | h | h <;> subst h <;> assumption
  intro s1 L hLX g1 k1 hA1 F0
  obtain ⟨m, F1, m1⟩ : ∃ m, Fra (hideAll s.heap ([(dx, dictOf (e.es n l.f pb) kk), (l.d, lst vs nn), (pb, lst [] pn)].map (·.1))) s1 (L :: X) ⟨L, []⟩ m [(dx, dictOf (e.es n l.f pb) kk), (l.d, lst vs nn), (pb, lst [] pn)] ∧ m "self" = some (.ref x) := ⟨_, F0, rfl⟩
  clear F0
  have hx1 := k1.get hx
  have Kat : ∀ {s' own' m' X'}, Fra (hideAll s.heap ([(dx, dictOf (e.es n l.f pb) kk), (l.d, lst vs nn), (pb, lst [] pn)].map (·.1))) s' X' ⟨L, []⟩ m' own' → (KH w).In s'.heap := fun F => G0.K.keeps fun b o e => F.keep b o (kH b o e)
  refine wpAny_execs_cons (wpAny_If (isTrue_plain (Attribute_any_ (r_loc F1 m1 (r_iget (Kat F1) hx1 (F1.at (k := 0) rfl) (es_p ..) rfl fun s2 k2 => ?_)))))
  have F2 := F1.tk k2
  refine r_truthy_list (F2.at (k := 2) rfl) (by decide) fun s3 k3 => ?_
  have F3 := F2.tk k3
  simp only [List.isEmpty_nil, Bool.not_true, Bool.false_eq_true, if_false]
  refine wpAny_execs_nil ?_
  refine wpAny_execs_cons (wpAny_Assign_Name (r_strC oNil fun s4 t4 k4 => ?_))
  have F4 := F3.tk k4
  refine r_store F4 fun s5 g5 F5 => ?_
  have gA := ((k2.go (L :: X)).trans (k3.go _)).trans ((k4.go _).trans g5)
  have xL := (g1.2 _ _ xX hx).1
  refine wpAny_execs_cons (wpAny_Assign_Name ?_)
  refine cb2 GH F5 boot_iter ?_
  refine Attribute_any_ (r_loc F5 (by walk_at "lkp") ?_)
  refine r_ibound (f := 49) F5 (Kat F5) (gA.2 _ _ xL hx1).2 (F5.at (k := 0) rfl) (es_r ..) fun s6 q k6 F6 qX hq => ?_
  refine r_strC oNil fun s7 t7 k7 => ?_
  have F7 := F6.tk k7
  refine r_iter2 F7 (k7.kept.get hq) fun s8 it itX g8 F8 => ?_
  refine r_store F8 fun s9 g9 F9 => ?_
  have gB := ((gA.trans (k6.go _)).trans (k7.go _)).trans (g8.trans g9)
  have gC := (k7.go (L :: X)).trans (g8.trans g9)
  have kB9 : ∀ b o, B0.get? b = some o → s9.heap.get? b = some o := fun b o e => F9.keep b o (kH b o e)
  have hcs : vs.length = cs.length := hv.len
  have g : GS w B0 (hideAll s.heap ([(dx, dictOf (e.es n l.f pb) kk), (l.d, lst vs nn), (pb, lst [] pn)].map (·.1))) ⟨L, it :: L :: X, x, dx, pb, it, q, l, t7, lst [] pn, n + (cs.count 10 : Nat)⟩ s s9 (upd (upd m "token" (.str ⟨#[]⟩ t4)) "fiter" (.ref it)) cs [] :=
    ⟨e, kk, n, vs, nn, F9, hv, by simpa using hz, rfl, ⟨G0.K, G0.nolimit, n1, n2, kB9, (gB.2 _ _ xL hx1).2, (gB.2 _ _ xL hx1).1, (hL.go g1).go gB⟩, (g1.trans gB).1, (gC.2 _ _ qX hq).2, (gC.2 _ _ qX hq).1, by walk_at "lkp", ⟨t4, by walk_at "lkp"⟩, by walk_at "lkp", kH⟩
  have kbOf : ∀ {s' own' m' X'}, Fra (hideAll s.heap ([(dx, dictOf (e.es n l.f pb) kk), (l.d, lst vs nn), (pb, lst [] pn)].map (·.1))) s' X' ⟨L, []⟩ m' own' → SG s s' → (pb, lst [] pn) ∈ own' → KB [dx, l.d] s s' := fun F sg hm => ⟨sg, fun b o hb e => by
    by_cases q : b = pb
    · subst q; rw [hpb] at e; cases e; exact F.has _ hm
    · exact F.keep b o (hideAll_get _ e (by simp at hb ⊢; exact ⟨hb.1, hb.2, q⟩))⟩
  refine wpAny_execs_cons (g.for_ (out_loop (k := k) g hA1 ho (fun s' m' t g' => ?_) fun e1 e2 s' m' e' kk' n' vs' nn' F' hv' hn' sg ⟨t, ht⟩ => ?_))
  · obtain ⟨e', kk', n', vs', nn', F', hv', hz', hn', Z, sg, _⟩ := g'
    exact h s' e' kk' n' vs' nn' t (kbOf F' sg (by simp)) (F'.at (k := 0) rfl) (F'.at (k := 1) rfl) hv' hn'
  · subst e1 e2
    refine wpAny_execs_cons (wpAny_Return_some (r_loc F' ht ?_))
    exact h s' e' kk' n' vs' nn' t (kbOf F' sg (by simp)) (F'.at (k := 0) rfl) (F'.at (k := 1) rfl) hv' (by simpa using hn')

theorem gt_pop {l : Lx} {x dx pb : Addr} {n : Int} {v : Value} {q : List Value} {R : Result → Shared → Prop} (G0 : Gd w mg mb B0) (kB : ∀ b o, B0.get? b = some o → s.heap.get? b = some o) (lv : Liv s X) (hA : Rm A (k + 5)) (I : LexAt w B0 s.heap X l x dx pb n cs (v :: q)) (hq : q.length ≤ 1000)
    (h : ∀ s' nn, KB [pb] s s' → s'.heap.get? pb = some (lst q nn) → R (.ok (.ret v)) s') : codeAny (model p w) A (.call (.ref 56) ⟨[.ref x], []⟩) R s := by
  obtain ⟨n1, n2, n3, hx, xX, hL, i1, i2, i3, nd, ⟨e, kk, hdx⟩, ⟨vs, nn, hd, hv⟩, hz, ⟨pn, hpb⟩⟩ := I
  have hK := G0.K.keeps kB
  have kH : ∀ b o, B0.get? b = some o → (hideAll s.heap ([(pb, lst (v :: q) pn)].map (·.1))).get? b = some o := fun b o e => hideAll_get _ (kB b o e) fun q => by
    simp at q
    rw [q, n3] at e; cases e
  have dp : dx ≠ pb := by have := nd; simp at this; exact this.1.2
  refine enterMc (k := k + 4) (mv := [(pb, lst (v :: q) pn)]) (binds := [("self", .ref x)]) (G0.nolimit.keeps kB) lv ?_ ?_ (by simp) hA (hK 56 (objAt 56) rfl) rfl rfl (codeRec_of hK (by rfl)) (.of_eq rfl) (by show ∀ x ∈ (fd 56).scope.names, _; decide) (locs rfl) rfl rfl rfl ?_
  · intro q hq; simp at hq; subst hq; assumption
  · intro q hq; simp at hq; subst hq; assumption
  intro s1 L hLX g1 k1 hA1 F1
  have hx1 := k1.get hx
  have hd1 := k1.get hdx
  have Kat : ∀ {s' own' m' X'}, Fra (hideAll s.heap ([(pb, lst (v :: q) pn)].map (·.1))) s' X' ⟨L, []⟩ m' own' → (KH w).In s'.heap := fun F => G0.K.keeps fun b o e => F.keep b o (kH b o e)
  refine wpAny_execs_cons (wpAny_If (isTrue_plain (Attribute_any_ (r_loc F1 rfl (r_iget (Kat F1) hx1 hd1 (es_p ..) rfl fun s2 k2 => ?_)))))
  have F2 := F1.tk k2
  refine r_truthy_list (F2.at (k := 0) rfl) (by simp only [List.length_cons]; omega) fun s3 k3 => ?_
  have F3 := F2.tk k3
  simp only [List.isEmpty_cons, Bool.not_false, if_true]
  refine wpAny_execs_cons (wpAny_Return_some (MC ?_))
  refine Attribute_any_ (r_loc F3 rfl (r_iget (Kat F3) (by rw [k3.1, k2.1]; exact hx1) (by rw [k3.1, k2.1]; exact hd1) (es_p ..) rfl fun s4 k4 => ?_))
  have F4 := F3.tk k4
  refine r_method_pop (F4.at (k := 0) rfl) ?_
  refine CM1 (AC (r_int fun s5 t5 k5 => args_nil ?_))
  have F5 := F4.tk k5
  refine r_pop0 F5 0 rfl (fun s6 n6 g6 F6 => ?_) (Nat.lt_of_le_of_lt hq (by decide))
  refine h s6 n6 ⟨?_, fun b o hb e => F6.keep b o (hideAll_get _ e (by simpa using hb))⟩ (F6.at (k := 0) rfl)
  exact (g1.trans ((k2.go _).trans ((k3.go _).trans ((k4.go _).trans ((k5.go _).trans g6))))).1

theorem pt_spec {l : Lx} {x dx pb : Addr} {n : Int} {v : Value} {q : List Value} {R : Result → Shared → Prop} (G0 : Gd w mg mb B0) (kB : ∀ b o, B0.get? b = some o → s.heap.get? b = some o) (lv : Liv s X) (hA : Rm A (k + 5)) (I : LexAt w B0 s.heap X l x dx pb n cs q) (hq : q.length ≤ 1000)
    (h : ∀ s' nn, KB [pb] s s' → s'.heap.get? pb = some (lst (q ++ [v]) nn) → R (.ok (.ret .none)) s') : codeAny (model p w) A (.call (.ref 63) ⟨[.ref x, v], []⟩) R s := by
  obtain ⟨n1, n2, n3, hx, xX, hL, i1, i2, i3, nd, ⟨e, kk, hdx⟩, ⟨vs, nn, hd, hv⟩, hz, ⟨pn, hpb⟩⟩ := I
  have hK := G0.K.keeps kB
  have kH : ∀ b o, B0.get? b = some o → (hideAll s.heap ([(pb, lst q pn)].map (·.1))).get? b = some o := fun b o e => hideAll_get _ (kB b o e) fun q => by
    simp at q
    rw [q, n3] at e; cases e
  have dp : dx ≠ pb := by have := nd; simp at this; exact this.1.2
  refine enterMc (k := k + 4) (mv := [(pb, lst q pn)]) (binds := [("self", .ref x), ("token", v)]) (G0.nolimit.keeps kB) lv ?_ ?_ (by simp) hA (hK 63 (objAt 63) rfl) rfl rfl (codeRec_of hK (by rfl)) (.of_eq rfl) (by show ∀ x ∈ (fd 63).scope.names, _; decide) (locs rfl) rfl rfl rfl ?_
  · intro q hq; simp at hq; subst hq; assumption
  · intro q hq; simp at hq; subst hq; assumption
  intro s1 L hLX g1 k1 hA1 F1
  have hx1 := k1.get hx
  have hd1 := k1.get hdx
  have Kat : ∀ {s' own' m' X'}, Fra (hideAll s.heap ([(pb, lst q pn)].map (·.1))) s' X' ⟨L, []⟩ m' own' → (KH w).In s'.heap := fun F => G0.K.keeps fun b o e => F.keep b o (kH b o e)
  refine wpAny_execs_cons (wpAny_Expr_any (MC ?_))
  refine Attribute_any_ (r_loc F1 rfl (r_iget (Kat F1) hx1 hd1 (es_p ..) rfl fun s2 k2 => ?_))
  have F2 := F1.tk k2
  refine r_method_append (F2.at (k := 0) rfl) ?_
  refine CM1 (AC (r_loc F2 rfl (args_nil (r_append F2 0 rfl (fun s3 g3 F3 => ?_) (Nat.le_trans (show q.length ≤ 1000 by omega) (by decide))))))
  refine wpAny_execs_nil ?_
  refine h s3 _ ⟨?_, fun b o hb e => F3.keep b o (hideAll_get _ e (by simpa using hb))⟩ (F3.at (k := 0) rfl)
  exact (g1.trans ((k2.go _).trans g3)).1
end
end Mine
end

-- SetS
section
open PySem PySem.W PyProof.Rows PySem.Builtin.ObjectAttr
set_option maxRecDepth 100000
set_option linter.all false
namespace Mine
/-! sets of texts -/
abbrev SK (p : Program) (w : World) : PySem.KeyKind (model p w).prog w Str := PySem.strKind _ w
def strOf : Value → Str
  | .str x _ => x
  | _ => ⟨#[]⟩
def ledOf (w : World) : Bool := !w.params.followText "set-order"
theorem layNew_led (t : SetTable) (es : Array (Int × Value)) (h : Int) (x : Value) : (layNew t es h x).2.1.led = t.led := by
  unfold layNew
  split
  · show (SetTable.orStandIn _ _).led = _
    unfold SetTable.orStandIn
    split <;> rfl
  · rfl
theorem laid_led {mask finger moves : Nat} {led plain : Bool} {hs : Array Int} {t : SetTable} {o : Array Nat} (h : SetTable.laid mask finger moves led plain hs = some (t, o)) : t.led = led ∧ t.plain = plain := by
  unfold SetTable.laid at h
  cases q : SetTable.layClean mask hs with
  | none => rw [q] at h; cases h
  | some z => rw [q] at h; cases h; exact ⟨rfl, rfl⟩
theorem relayAll_led (t : SetTable) (es : Array (Int × Value)) (wanted : Nat) : (relayAll t es wanted).2.1.led = t.led ∧ (t.plain = false → (relayAll t es wanted).2.1.plain = false) := by
  unfold relayAll
  split
  · rename_i t' order h
    have := laid_led h
    dsimp only
    split
    · exact ⟨this.1, fun e => this.2.trans e⟩
    · exact ⟨rfl, fun _ => rfl⟩
  · exact ⟨rfl, fun _ => rfl⟩
section
variable {p : Program} {w : World} {A : Around} {s : Shared}
def TEl (p : Program) (w : World) (es : List (Int × Value)) : Prop := ElemsOf (SK p w) es
inductive SetK (p : Program) (w : World) (h : Heap) (a : Addr) (ks : List Str) : Prop
  | mk (es : Array (Int × Value)) (ep : Nat) (t : SetTable) (e1 : h.get? a = some { cls := .type "set", dict := none, data := .set es ep t }) (e2 : ElemsOf (SK p w) es.toList) (e3 : es.size < scanBound) (e4 : t.fits es.size = true) (e5 : t.led = ledOf w) (e6 : es.size = 0 ∨ t.plain = false) (e7 : (es.toList.map fun e => strOf e.2).Perm ks)
theorem sk_shape {k : Str} {v : Value} (h : (SK p w).is k v = true) : ∃ t, v = .str k t := Value.isStrOf_shape h
theorem elems_str {es : List (Int × Value)} (h : ElemsOf (SK p w) es) : ∀ e ∈ es, ∃ t, e.2 = .str (strOf e.2) t ∧ (SK p w).is (strOf e.2) e.2 = true := fun e he => by
  obtain ⟨⟨k, hk, _⟩, _⟩ := h e he
  obtain ⟨t, ht⟩ := sk_shape hk
  have : strOf e.2 = k := by rw [ht]; rfl
  exact ⟨t, by rw [this]; exact ht, by rw [this]; exact hk⟩
/-- a text added -/
theorem set_add {a : Addr} {ks : List Str} {x : Str} {tx : Tok} {Q : Bool → Shared → Prop} (hS : SetK p w s.heap a ks) (hroom : ks.length + 1 < scanBound)
    (h : ∀ h', Heap.SameBut a s.heap h' → SetK p w h' a (if x ∈ ks then ks else ks ++ [x]) → ∀ b, Q b { s with heap := h' }) :
    wpAny (model p w) A (setAddHashed a (.str x tx) ((SK p w).hash x)) Q NoE s := by
  obtain ⟨es, ep, t, ho, hel, hb, hf, hled, hpl, hp⟩ := hS
  have hkey : (SK p w).is x (.str x tx) = true := by show Value.isStrOf x (.str x tx) = true; simp [Value.isStrOf]
  have hsz : es.size = ks.length := by have := hp.length_eq; simpa using this
  have hb1 : es.size + 1 < scanBound := by rw [hsz]; exact hroom
  have mem : x ∈ ks ↔ ∃ e ∈ es.toList, (SK p w).is x e.2 = true := by
    rw [← hp.mem_iff, List.mem_map]
    constructor
    · rintro ⟨e, he, rfl⟩; exact ⟨e, he, (elems_str hel e he).choose_spec.2⟩
    · rintro ⟨e, he, hk⟩
      obtain ⟨t, ht⟩ := sk_shape hk
      exact ⟨e, he, by rw [ht]; rfl⟩
  unfold setAddHashed setAddHashedIn
  refine wpAny_holding (wpAny_bind (wpAny_setState_of ho rfl hf ?_))
  dsimp only
  rw [byScan_of rfl hb hel]
  simp only [↓reduceIte]
  unfold setAddByScan
  refine wpAny_bind ?_
  refine wpAny_bind (wpAny_rule ?_)
  refine wpAny_bind (wpAny_setScan_of hkey ho rfl hf hel ?_)
  cases hr : List.findIdx? (fun e => (SK p w).is x e.2) es.toList with
  | some j =>
    dsimp only
    obtain ⟨hj, hpj, _⟩ := List.findIdx?_eq_some_iff_getElem.mp hr
    have hx : x ∈ ks := mem.mpr ⟨es.toList[j], List.getElem_mem hj, hpj⟩
    rw [if_pos hx] at h
    refine wpAny_pure (wpAny_pure ?_)
    exact h s.heap (Heap.SameBut.refl a s.heap) ⟨es, ep, t, ho, hel, hb, hf, hled, hpl, hp⟩ false
  | none =>
    dsimp only
    have hx : x ∉ ks := fun q => by
      obtain ⟨e, he, hk⟩ := mem.mp q
      have := List.findIdx?_eq_none_iff.mp hr e he
      rw [hk] at this; cases this
    rw [if_neg hx] at h
    have hgw : ∀ (b : Bool) {s₁ : Shared} {Q' : Unit → Shared → Prop}, Q' () s₁ → wpAny (model p w) A (match b with | true => rule "set.scan.the-table-gave-way" | false => pure ()) Q' NoE s₁ :=
      fun b s₁ Q' hq => by cases b <;> first | exact wpAny_pure hq | exact wpAny_rule hq
    have hperm := layNew_perm t es ((SK p w).hash x) (.str x tx)
    have hfits := layNew_fits t es ((SK p w).hash x) (.str x tx)
    have hl := layNew_led t es ((SK p w).hash x) (.str x tx)
    generalize hL : layNew t es ((SK p w).hash x) (.str x tx) = Lz at hperm hfits hl ⊢
    obtain ⟨es1, t1, wasDummy, gave⟩ := Lz
    dsimp only at hperm hfits hl ⊢
    rw [Array.toList_push] at hperm
    have hel1 : ElemsOf (SK p w) es1.toList := (hel.push hkey rfl).perm hperm
    have hsz1 : es1.size = es.size + 1 := by rw [← Array.length_toList, hperm.length_eq, List.length_append, Array.length_toList]; rfl
    have hb1' : es1.size < scanBound := by rw [hsz1]; exact hb1
    have hp1 : (es1.toList.map fun e => strOf e.2).Perm (ks ++ [x]) := (hperm.map _).trans (by rw [List.map_append]; exact hp.append_right _)
    refine wpAny_bind (hgw _ ?_)
    have fin : ∀ t2 : SetTable, t2.fits es1.size = true → t2.led = ledOf w → t2.plain = false → wpAny (model p w) A (do
        storeSet a es1 t2
        if (!wasDummy && t2.tooFull) = true then do
            (match (relayAll t2 es1 (SetTable.grown es1.size)).2.2 with | true => rule "set.scan.the-table-gave-way" | false => pure ())
            storeSet a (relayAll t2 es1 (SetTable.grown es1.size)).1 (relayAll t2 es1 (SetTable.grown es1.size)).2.1
            pure (some true)
          else pure (some true)) (fun r s' => wpAny (model p w) A (match r with | some added => pure added | none => setAddHashedIn a (.str x tx) ((SK p w).hash x) 99999) Q NoE s') NoE s := by
      intro t2 hf2 hl2 hp2
      refine wpAny_bind (wpAny_storeSet_of ho rfl ?_ (fits_of_scanBound hb1'))
      have ho1 : (s.heap.update a (Obj.putSet es1 t2)).get? a = some { cls := .type "set", dict := none, data := .set es1 (ep + 1) t2 } := by rw [Heap.get?_update_self _ ho rfl]; rfl
      split
      · have hq := relayAll_perm t2 es1 (SetTable.grown es1.size)
        have hfr := relayAll_fits t2 es1 (SetTable.grown es1.size)
        have hlr := relayAll_led t2 es1 (SetTable.grown es1.size)
        generalize hRl : relayAll t2 es1 (SetTable.grown es1.size) = Rl at hq hfr hlr ⊢
        obtain ⟨es2, t3, gave2⟩ := Rl
        dsimp only at hq hfr hlr ⊢
        have hsz2 : es2.size = es1.size := by rw [← Array.length_toList, hq.length_eq, Array.length_toList]
        have hb2 : es2.size < scanBound := by rw [hsz2]; exact hb1'
        refine wpAny_bind (hgw _ ?_)
        refine wpAny_bind (wpAny_storeSet_of ho1 rfl ?_ (fits_of_scanBound hb2))
        have ho2 : ((s.heap.update a (Obj.putSet es1 t2)).update a (Obj.putSet es2 t3)).get? a = some { cls := .type "set", dict := none, data := .set es2 (ep + 1 + 1) t3 } := by rw [Heap.get?_update_self _ ho1 rfl]; rfl
        refine wpAny_pure (wpAny_pure ?_)
        exact h _ ((Heap.SameBut.update s.heap a (Obj.putSet es1 t2)).trans (Heap.SameBut.update _ a _)) ⟨es2, _, t3, ho2, hel1.perm hq, hb2, hfr, hlr.1.trans hl2, .inr (hlr.2 hp2), (hq.map _).trans hp1⟩ true
      · refine wpAny_pure (wpAny_pure ?_)
        exact h _ (Heap.SameBut.update s.heap a (Obj.putSet es1 t2)) ⟨es1, _, t2, ho1, hel1, hb1', hf2, hl2, .inr hp2, hp1⟩ true
    by_cases hq : t1.plain = true
    · rw [if_pos hq]
      refine wpAny_bind ?_
      rw [hashByValue_scannable 8 rfl]
      refine wpAny_pure ?_
      exact fin { t1 with plain := false } (SetTable.fits_plain_off hfits) (hl.trans hled) rfl
    · rw [if_neg hq]
      refine wpAny_bind (wpAny_pure ?_)
      simp only [↓reduceIte]
      exact fin t1 hfits (hl.trans hled) (by simpa using hq)
end
end Mine
end

-- SetT
section
open PySem PySem.W PyProof.Rows PySem.Builtin.ObjectAttr
set_option maxRecDepth 100000
set_option linter.all false
namespace Mine
def dd1 (ks : List Str) (x : Str) : List Str := if x ∈ ks then ks else ks ++ [x]
def dd (xs : List Str) : List Str := xs.foldl dd1 []
theorem dd_snoc (xs : List Str) (x : Str) : dd (xs ++ [x]) = dd1 (dd xs) x := by simp [dd]
theorem dd_len (xs : List Str) : (dd xs).length ≤ xs.length := by
  have : ∀ (xs : List Str) (a : List Str), (xs.foldl dd1 a).length ≤ a.length + xs.length := by
    intro xs
    induction xs with
    | nil => intro a; exact Nat.le_refl _
    | cons x r ih =>
      intro a
      have := ih (dd1 a x)
      have h2 : (dd1 a x).length ≤ a.length + 1 := by unfold dd1; split <;> simp
      simp only [List.foldl_cons, List.length_cons]; omega
  have h := this xs []
  unfold dd; simpa using h
theorem dd_ok (xs : List Str) : (dd xs).Nodup ∧ ∀ x, x ∈ dd xs ↔ x ∈ xs := by
  have : ∀ (xs : List Str) (a : List Str), a.Nodup → (xs.foldl dd1 a).Nodup ∧ ∀ x, x ∈ xs.foldl dd1 a ↔ x ∈ a ∨ x ∈ xs := by
    intro xs
    induction xs with
    | nil => intro a h; exact ⟨h, by simp⟩
    | cons y r ih =>
      intro a h
      have h1 : (dd1 a y).Nodup := by
        unfold dd1; split
        · exact h
        · rename_i q; exact List.nodup_append.mpr ⟨h, by simp, fun z hz w hw e => by simp at hw; subst hw; subst e; exact q hz⟩
      have h2 : ∀ x, x ∈ dd1 a y ↔ x ∈ a ∨ x = y := by
        intro x; unfold dd1; split
        · rename_i q; exact ⟨.inl, fun z => z.elim id fun e => e ▸ q⟩
        · simp
      obtain ⟨i1, i2⟩ := ih _ h1
      refine ⟨i1, fun x => ?_⟩
      rw [List.foldl_cons, i2, h2, List.mem_cons, or_assoc]
  obtain ⟨h1, h2⟩ := this xs [] .nil
  exact ⟨h1, fun x => by rw [dd, h2]; simp⟩
def RS (v : Value) (x : Str) : Prop := ∃ t, v = .str x t
section
variable {p : Program} {w : World} {A : Around} {s : Shared}
theorem SetK.keep {h h' : Heap} {a : Addr} {ks : List Str} (S : SetK p w h a ks) (k : ∀ o, h.get? a = some o → h'.get? a = some o) : SetK p w h' a ks := by
  obtain ⟨es, ep, t, ho, r1, r2, r3, r4, r5, r6⟩ := S; exact ⟨es, ep, t, k _ ho, r1, r2, r3, r4, r5, r6⟩
theorem upd_loop {S I l : Addr} {vs : List Value} {n : Nat} {xs : List Str} {R : Result → Shared → Prop} (hh : A.handled = none) (hSI : S ≠ I) (hlI : l ≠ I) (hlS : l ≠ S) (hv : All2 RS vs xs) (hb : xs.length + 1 < scanBound) :
    ∀ (k i : Nat) (s : Shared), vs.length - i = k → i ≤ vs.length → s.heap.IsListIter I l i → s.heap.get? l = some (lst vs n) → SetK p w s.heap S (dd (xs.take i)) →
      (∀ s', SG s s' → (∀ b o, b ≠ S → b ≠ I → s.heap.get? b = some o → s'.heap.get? b = some o) → SetK p w s'.heap S (dd xs) → R (.ok (.ret .none)) s') →
      codeAny (model p w) A (.builtin "set.update.loop" ⟨[.ref S, .ref I], []⟩) R s := by
  intro k
  induction k with
  | zero =>
    intro i s hk hi hI hl hS hR
    have hin : i = vs.length := by omega
    refine codeAny_builtin F.entry_set_update_loop ?_
    rw [Around.under_plainId F.plain_set_update_loop _]
    show wpAny _ A.in1 (pyNext (.ref I) >>= _) _ _ s
    refine wpAny_bind (wpAny_pyNext_list_end (by exact hh) hI (isList_of hl) (by simp [hin]) fun h' hx => ?_)
    show wpAny _ A.in1 (ret Value.none) _ _ _
    refine wpAny_pure (hR _ ⟨rfl, rfl⟩ (fun b o h1 h2 e => hx b o h2 e) ?_)
    have : xs.take i = xs := by rw [hin, hv.len]; simp
    rw [this] at hS
    exact hS.keep fun o e => hx _ _ hSI e
  | succ k ih =>
    intro i s hk hi hI hl hS hR
    have hlt : i < vs.length := by omega
    obtain ⟨x, hx, ⟨tx, hxv⟩⟩ := hv.get (List.getElem?_eq_getElem hlt)
    refine codeAny_builtin F.entry_set_update_loop ?_
    rw [Around.under_plainId F.plain_set_update_loop _]
    show wpAny _ A.in1 (pyNext (.ref I) >>= _) _ _ s
    refine wpAny_bind (wpAny_pyNext_list_item hI (isList_of hl) (x := vs[i]) (by simp [hlt]) fun h1 hI1 hs1 => ?_)
    rw [hxv]
    show wpAny _ A.in1 (holding [Value.str x tx] (setAdd S (.str x tx)) >>= _) _ _ _
    refine wpAny_bind (wpAny_holding ?_)
    unfold setAdd
    refine wpAny_holding ?_
    refine wpAny_bind ((SK p w).pyHash (k := x) (by show Value.isStrOf x (.str x tx) = true; simp [Value.isStrOf]) ?_)
    have hS1 : SetK p w h1 S (dd (xs.take i)) := hS.keep fun o e => hs1.extBut _ _ hSI e
    have hlen : (dd (xs.take i)).length + 1 < scanBound := by
      have := dd_len (xs.take i)
      have h3 : (xs.take i).length ≤ xs.length := by simp; omega
      omega
    refine wpAny_mono (E := NoE) (set_add (s := { s with heap := h1, toks := s.toks + 1 }) hS1 hlen (Q := fun b s' => ∃ h', s' = { s with heap := h', toks := s.toks + 1 } ∧ Heap.SameBut S h1 h' ∧ SetK p w h' S (dd (xs.take (i + 1)))) fun h' hsb hS2 b => ⟨h', rfl, hsb, ?_⟩) (fun b s' ⟨h', e, hsb, hS2⟩ => ?_) fun _ _ h => h.elim
    · have : xs.take (i + 1) = xs.take i ++ [x] := by
        rw [List.take_add_one, hx]; rfl
      rw [this, dd_snoc]; exact hS2
    · subst e
      refine wpAny_pure ⟨plainId_quiet F.plain_set_update_loop _, ih (i + 1) _ (by omega) hlt ?_ ?_ hS2 fun s'' sg kp hS3 => ?_⟩
      · obtain ⟨o, a, b⟩ := hI1
        exact ⟨o, (hsb.2 _ (Ne.symm hSI)).trans a, b⟩
      · exact (hsb.2 _ hlS).trans (hs1.extBut _ _ hlI hl)
      · refine hR s'' sg (fun b o h1' h2' e => kp b o h1' h2' ?_) hS3
        exact (hsb.2 _ h1').trans (hs1.extBut _ _ h2' e)

theorem code_set_new (a : Value) {Q₁ : Value → Shared → Prop}
    (h : Q₁ (.ref s.heap.objs.size) { s with heap := s.heap.push { cls := .type "set", dict := none, data := .set #[] 0 (.fresh 0 0 (ledOf w)) } }) :
    codeAny (model p w) A (.call (.builtin "set.__new__") ⟨[.type "set", a], []⟩) (wants Q₁ NoE) s := by
  refine codeAny_of_tree ?_
  show wpAny _ A.in1 (do checkBuiltinCall "set.__new__" ⟨[.type "set", a], []⟩; again (.builtin "set.__new__" ⟨[.type "set", a], []⟩)) _ _ s
  refine wpAny_bind (wpAny_of_eq (F.newCall_set_1 a) (wpAny_pure ⟨plainId_quiet F.plain_set_new _, codeAny_builtin F.entry_set_new ?_⟩))
  rw [Around.under_plainId F.plain_set_new _]
  unfold Builtin.«set.__new__» Builtin.Frozenset.newClass
  have hsub := sub_set_self
  obtain ⟨hp, g, d, tk, os⟩ := s
  dsimp only
  wp_walk
  refine wpAny_askSetting (wpAny_pure ?_)
  dsimp only
  simp only [newObj]
  refine wpAny_bind (wpAny_alloc (wpAny_pure ?_))
  exact wpAny_pure h

set_option maxHeartbeats 3200000 in
theorem call_set {l : Addr} {vs : List Value} {n : Nat} {xs : List Str} {Q : Value → Shared → Prop} (hh : A.handled = none) (hl : s.heap.get? l = some (lst vs n)) (hv : All2 RS vs xs) (hb : xs.length + 1 < scanBound)
    (h : ∀ s' S, Kept s s' → s.heap.get? S = none → SetK p w s'.heap S (dd xs) → Q (.ref S) s') : W p w A (call (.type "set") [.ref l]) Q s := by
  obtain ⟨c, tl, hmro⟩ := F.called_set.mro
  have hmade := F.called_set.made
  have hsub := F.called_set.sub
  refine wpAny_call (codeAny_of_tree ?_)
  show wpAny _ _ (callAny (.type "set") _) _ _ _
  refine wpAny_pure ⟨Code.quiet_builtin _ (by decide +kernel), codeAny_builtin F.entry_type_call ?_⟩
  rw [Around.under_plain (weight_type_call_type "set" [.ref l] []) rfl]
  have h1 := F.called_set.notType
  have h2 := F.called_set.canCreate
  have hct := F.typeCall_set_1 (.ref l)
  repeat (any_goals (first | assumption | wp_step))
  refine codeAny_mono (code_set_new (.ref l) (Q₁ := fun obj s₁ => obj = .ref s.heap.objs.size ∧ s₁ = { s with heap := s.heap.push { cls := .type "set", dict := none, data := .set #[] 0 (.fresh 0 0 (ledOf w)) } }) ⟨rfl, rfl⟩) fun r s₁ hr => ?_
  cases r with
  | error e => exact hr
  | ok fl =>
    cases fl with
    | ret obj =>
      obtain ⟨rfl, rfl⟩ := hr
      have hS : (s.heap.push { cls := .type "set", dict := none, data := .set #[] 0 (.fresh 0 0 (ledOf w)) }).get? s.heap.objs.size = some { cls := .type "set", dict := none, data := .set #[] 0 (.fresh 0 0 (ledOf w)) } := Heap.get?_push_size _ rfl
      have hT : Shared.TypeIs { s with heap := s.heap.push { cls := .type "set", dict := none, data := .set #[] 0 (.fresh 0 0 (ledOf w)) } } (.ref s.heap.objs.size) "set" := ⟨_, hS, rfl⟩
      have hli := F.called_set.init.lookup
      have hbi := F.called_set.init.bind (.ref s.heap.objs.size)
      repeat (any_goals (first | assumption | wp_step))
      refine codeAny_mono (codeAny_call_builtin (R := wants (fun r s₂ => r = .none ∧ Kept s s₂ ∧ SetK p w s₂.heap s.heap.objs.size (dd xs)) NoE) F.called_set.init.plain F.entry_set_init (check_set_init_1 hT ?_)) fun r₂ s₂ hr₂ => ?_
      · have hol' : (s.heap.push { cls := .type "set", dict := none, data := .set #[] 0 (.fresh 0 0 (ledOf w)) }).get? l = some { cls := .type "list", dict := none, data := .seq vs.toArray n, slots := #[] } := Heap.get?_push_of_some _ hl
        have hsls := F.sub_list_set
        have hslf := F.sub_list_frozenset
        have hne : (Value.type "list" == Value.type "dict") = false := by decide
        have hl1 : (s.heap.push { cls := .type "set", dict := none, data := .set #[] 0 (.fresh 0 0 (ledOf w)) }).IsList l vs.toArray := ⟨_, hol', rfl, n, rfl⟩
        unfold Builtin.«set.__init__» noKeywords Builtin.Frozenset.updateFrom
        generalize hPI : pyIter = PI
        wp_walk
        subst hPI
        refine wpAny_pyIter_list hl1 ?_
        refine wpAny_bind (wpAny_runValue ?_)
        have hlS : l < s.heap.objs.size := Heap.lt_size hl
        have e1 : (s.heap.push { cls := .type "set", dict := none, data := .set #[] 0 (.fresh 0 0 (ledOf w)) }).objs.size = s.heap.objs.size + 1 := by rw [Heap.size_push]
        refine upd_loop (n := n) (by simp [hh]) ?_ ?_ (Nat.ne_of_lt hlS) hv hb (vs.length - 0) 0 _ (by omega) (Nat.zero_le _) ⟨_, Heap.get?_push_size _ rfl, rfl, rfl⟩ (Heap.get?_push_of_some _ hol') ?_ ?_
        · rw [e1]; exact Nat.ne_of_lt (Nat.lt_succ_self _)
        · rw [e1]; exact Nat.ne_of_lt (Nat.lt_succ_of_lt hlS)
        · exact ⟨#[], 0, .fresh 0 0 (ledOf w), Heap.get?_push_of_some _ hS, fun _ h => by simp at h, by show 0 < 4096; decide, rfl, rfl, .inl rfl, by simp [dd]⟩
        · intro s' sg kp hS'
          refine wpAny_pure ?_
          show wpAny _ _ (ret Value.none) _ _ _
          refine wpAny_pure ⟨rfl, ⟨sg, fun b o _ e => ⟨by simp, kp b o ?_ ?_ (Heap.get?_push_of_some _ (Heap.get?_push_of_some _ e))⟩⟩, hS'⟩
          · exact Nat.ne_of_lt (Heap.lt_size e)
          · rw [e1]; exact Nat.ne_of_lt (Nat.lt_succ_of_lt (Heap.lt_size e))
      · cases r₂ with
        | error e => exact hr₂
        | ok fl₂ =>
          cases fl₂ with
          | ret r =>
            obtain ⟨rfl, hk', hS'⟩ := hr₂
            repeat (any_goals (first | assumption | wp_step))
            exact h _ _ hk' (Heap.get?_none_of_le (Nat.le_refl _)) hS'
          | _ => exact hr₂.elim
    | _ => exact hr.elim
end
end Mine
end

-- SetU
section
open PySem PySem.W PyProof.Rows PySem.Builtin.ObjectAttr
set_option maxRecDepth 100000
set_option linter.all false
namespace Mine
theorem erase_perm {α : Type} : ∀ {l : List α} {i : Nat} (h : i < l.length), (l[i] :: l.eraseIdx i).Perm l
  | a :: l, 0, _ => .rfl
  | a :: l, i + 1, h => by
    simp only [List.getElem_cons_succ, List.eraseIdx_cons_succ]
    exact (List.Perm.swap _ _ _).trans ((erase_perm (l := l) (by simpa using h)).cons a)
theorem pick_perm {α : Type} (next : Nat → Nat) : ∀ (f k : Nat) (left : List α) (out : Array α), f = left.length → (pickOrder.go next f k left out).toList.Perm (out.toList ++ left)
  | 0, k, left, out, h => by
    have : left = [] := List.length_eq_zero_iff.mp h.symm
    subst this; rw [List.append_nil]; unfold pickOrder.go; exact .rfl
  | f + 1, k, left, out, h => by
    unfold pickOrder.go
    have hl : next k % left.length < left.length := Nat.mod_lt _ (by omega)
    rw [List.getElem?_eq_getElem hl]
    dsimp only
    refine (pick_perm next f (k + 1) _ _ (by rw [List.length_eraseIdx, if_pos hl]; omega)).trans ?_
    rw [Array.toList_push, List.append_assoc]
    refine List.Perm.append_left _ ?_
    exact erase_perm hl
theorem pickOrder_perm {α : Type} (next : Nat → Nat) (xs : Array α) : (pickOrder next xs).toList.Perm xs.toList := by
  have := pick_perm next xs.size 0 xs.toList #[] (by simp)
  simpa [pickOrder] using this
theorem entry_set_iter : entryFor table "set.__iter__" = some Builtin.«frozenset.__iter__» := entryFor_alias (id' := "frozenset.__iter__") (by kernel_rfl) (by first | rfl | decide +kernel | (unfold String.splitOn; simp +decide [String.splitOnAux])) (by decide +kernel) (by kernel_rfl)
theorem slot_si_next : Slot "set_iterator" "__next__" "set_iterator.__next__" :=
  Slot.of (T := "set_iterator") (name := "__next__") (owner := "set_iterator") (n := "__next__") (by rw [typeLookup_type, builtinLookup_eq_fast]; kernel_rfl) (by decide +kernel) (by decide +kernel) (by decide +kernel)
    (.inl (by decide +kernel)) (by rw [isSubtype_type]; kernel_rfl)
theorem entry_si_next : entryFor table "set_iterator.__next__" = some Builtin.«set_iterator.__next__» := entryFor_of_tree (by kernel_rfl)
theorem args_si_next (a : Value) : argsOk "set_iterator.__next__" ⟨[a], []⟩ := by unfold argsOk; kernel_rfl
section
variable {p : Program} {w : World} {A : Around} {s : Shared}
theorem wpAny_choose {src : Source} {n : Nat} {Q : Nat → Shared → Prop} (hn : n ≠ 0) (h : ∀ i s', i < n → SG s s' → s'.heap = s.heap → Q i s') : W p w A (choose src n) Q s := fun Γ q hΓ => by
  unfold choose
  rw [Sem.wp_choose]
  refine ⟨hn, ?_⟩
  rw [Sem.wp_pure]
  exact h _ _ (Nat.mod_lt _ (Nat.pos_of_ne_zero hn)) ⟨rfl, rfl⟩ rfl
theorem draw_order {α : Type} (n : Nat) : ∀ (xs : List α) (s : Shared) (Q : List α → Shared → Prop), n = xs.length → (∀ ys s', ys.Perm xs → SG s s' → s'.heap = s.heap → Q ys s') → W p w A (drawOrder n xs) Q s := by
  induction n with
  | zero =>
    intro xs s Q e h
    cases xs with
    | nil => exact wpAny_pure (h [] s .rfl ⟨rfl, rfl⟩ rfl)
    | cons x r => cases e
  | succ n ih =>
    intro xs s Q e h
    cases xs with
    | nil => cases e
    | cons x r =>
      unfold drawOrder
      refine wpAny_bind (wpAny_choose (Nat.succ_ne_zero _) fun i s' hi sg hh => ?_)
      rw [List.getElem?_eq_getElem hi]
      dsimp only
      refine wpAny_bind (ih _ s' _ (by rw [List.length_eraseIdx, if_pos hi]; exact Nat.succ.inj e) fun ys s'' hp sg' hh' => ?_)
      refine wpAny_pure (h _ s'' ?_ ⟨sg'.1.trans sg.1, sg'.2.trans sg.2⟩ (hh'.trans hh))
      exact (List.Perm.cons _ hp).trans (erase_perm hi)
end
end Mine
end

-- SetV
section
open PySem PySem.W PyProof.Rows PySem.Builtin.ObjectAttr
set_option maxRecDepth 100000
set_option linter.all false
namespace Mine
section
variable {p : Program} {w : World} {A : Around} {s : Shared}
abbrev siObj (S : Addr) (f : Value) (i n ep : Nat) : Obj := { cls := .type "set_iterator", data := .fields #[f, rawInt i, .ref S, rawInt n, rawInt ep] }
section
variable {it S T : Addr} {f : Value} {i n ep slot nx : Nat} {es : Array (Int × Value)} {t : SetTable} {x : Value} {Q : Option Value → Shared → Prop}
theorem si_int_some (hA : A.handled = none) (hit : s.heap.get? it = some (siObj S (rawInt slot) i n ep)) (hS : s.heap.get? S = some { cls := .type "set", dict := none, data := .set es ep t }) (hf : t.fits es.size = true) (hn : es.size = n)
    (hx : ∀ (A' : Around) (Q' : Option (Value × Nat) → Shared → Prop) (E' : Value → Shared → Prop), Q' (some (x, nx)) s → wpAny (model p w) A' (setNext S slot i ep) Q' E' s)
    (h : ∀ s', SG s s' → Heap.SameBut it s.heap s'.heap → s'.heap.get? it = some (siObj S (rawInt nx) (i + 1) n ep) → Q (some x) s') : W p w A (pyNext (.ref it)) Q s := by
  have hT : Shared.TypeIs s (.ref it) "set_iterator" := ⟨_, hit, rfl⟩
  unfold W pyNext
  refine wpAny_bind (wpAny_attempt (wpAny_callSpecial?_slot (name := Str.ofString "__next__") hT slot_si_next
    (wpAny_call_entry slot_si_next hT entry_si_next ?_ (args_si_next _))))
  unfold Builtin.«set_iterator.__next__»
  refine wpAny_bind (wpAny_pure ?_)
  dsimp only
  refine wpAny_bind (wpAny_fieldsOf hit rfl ?_)
  dsimp only [rawInt]
  refine wpAny_bind (wpAny_setEntries_of hS rfl hf ?_)
  rw [if_neg (by rw [hn]; simp)]
  dsimp only [Int.toNat_natCast]
  refine wpAny_bind (hx _ _ _ ?_)
  dsimp only
  refine wpAny_bind (wpAny_setField_rec hit (by simp) fun h1 e1 s1 => ?_)
  refine wpAny_bind (wpAny_setField_rec (s := { s with heap := h1 }) e1 (by simp) fun h2 e2 s2 => ?_)
  refine wpAny_pure ⟨_, rfl, wpAny_pure (h { s with heap := h2 } ⟨rfl, rfl⟩ (s1.trans s2) ?_)⟩
  rw [e2]; rfl
theorem si_int_none (hA : A.handled = none) (hit : s.heap.get? it = some (siObj S (rawInt slot) i n ep)) (hS : s.heap.get? S = some { cls := .type "set", dict := none, data := .set es ep t }) (hf : t.fits es.size = true) (hn : es.size = n)
    (hx : ∀ (A' : Around) (Q' : Option (Value × Nat) → Shared → Prop) (E' : Value → Shared → Prop), Q' none s → wpAny (model p w) A' (setNext S slot i ep) Q' E' s)
    (h : ∀ s', SG s s' → Heap.ExtBut it s.heap s'.heap → Q none s') : W p w A (pyNext (.ref it)) Q s := by
  have hT : Shared.TypeIs s (.ref it) "set_iterator" := ⟨_, hit, rfl⟩
  unfold W pyNext
  refine wpAny_bind (wpAny_attempt (wpAny_callSpecial?_slot (name := Str.ofString "__next__") hT slot_si_next
    (wpAny_call_entry slot_si_next hT entry_si_next ?_ (args_si_next _))))
  unfold Builtin.«set_iterator.__next__»
  refine wpAny_bind (wpAny_pure ?_)
  dsimp only
  refine wpAny_bind (wpAny_fieldsOf hit rfl ?_)
  dsimp only [rawInt]
  refine wpAny_bind (wpAny_setEntries_of hS rfl hf ?_)
  rw [if_neg (by rw [hn]; simp)]
  dsimp only [Int.toNat_natCast]
  refine wpAny_bind (hx _ _ _ ?_)
  dsimp only
  refine wpAny_bind (wpAny_setField_rec hit (by simp) fun h1 e1 s1 => ?_)
  refine wpAny_bind ?_
  simp only [newExc, newTuple]
  refine wpAny_bind (wpAny_newObj_type ?_ (by size_fits))
  refine wpAny_bind (m := firstArgMember _ _) (wpAny_of_eq (a := Value.none) (by first | rfl | (simp only [firstArgMember]; rfl)) ?_)
  refine wpAny_newObj_type ?_ (by size_fits)
  simp only [raiseNew]
  refine wpAny_bind (wpAny_handled ?_)
  rw [show A.in1.handled = none from hA]
  refine wpAny_bind (wpAny_pure (wpAny_throw ?_))
  refine wpAny_bind (wpAny_isInstance (T := "StopIteration") (b := true) ⟨_, Heap.get?_push_size _ rfl, rfl⟩ isSubtype_stop ?_)
  exact wpAny_pure (h _ ⟨rfl, rfl⟩ ((s1.extBut.push _).push _))

theorem si_ref_some {places : List Value} {nn pl : Nat} {hh : Int} (hA : A.handled = none) (hit : s.heap.get? it = some (siObj S (.ref T) i n ep)) (hS : s.heap.get? S = some { cls := .type "set", dict := none, data := .set es ep t }) (hf : t.fits es.size = true) (hn : es.size = n)
    (hTp : s.heap.get? T = some (tup places nn)) (hp : places[i]? = some (rawInt pl)) (he : es[pl]? = some (hh, x))
    (h : ∀ s', SG s s' → Heap.SameBut it s.heap s'.heap → s'.heap.get? it = some (siObj S (.ref T) (i + 1) n ep) → Q (some x) s') : W p w A (pyNext (.ref it)) Q s := by
  have hT : Shared.TypeIs s (.ref it) "set_iterator" := ⟨_, hit, rfl⟩
  unfold W pyNext
  refine wpAny_bind (wpAny_attempt (wpAny_callSpecial?_slot (name := Str.ofString "__next__") hT slot_si_next
    (wpAny_call_entry slot_si_next hT entry_si_next ?_ (args_si_next _))))
  unfold Builtin.«set_iterator.__next__»
  refine wpAny_bind (wpAny_pure ?_)
  dsimp only
  refine wpAny_bind (wpAny_fieldsOf hit rfl ?_)
  dsimp only [rawInt]
  refine wpAny_bind (wpAny_setEntries_of hS rfl hf ?_)
  rw [if_neg (by rw [hn]; simp)]
  refine wpAny_bind (wpAny_seqItems hTp rfl ?_)
  dsimp only [Int.toNat_natCast]
  rw [List.getElem?_toArray, hp]
  dsimp only [rawInt]
  unfold setNextDrawn
  refine wpAny_bind (wpAny_bind (wpAny_setState_of hS rfl hf ?_))
  dsimp only [Int.toNat_natCast]
  rw [if_neg (by simp), he]
  refine wpAny_pure ?_
  refine wpAny_bind (wpAny_setField_rec hit (by simp) fun h1 e1 s1 => ?_)
  refine wpAny_pure ⟨_, rfl, wpAny_pure (h { s with heap := h1 } ⟨rfl, rfl⟩ s1 ?_)⟩
  rw [e1]; rfl
theorem si_ref_none {places : List Value} {nn : Nat} (hA : A.handled = none) (hit : s.heap.get? it = some (siObj S (.ref T) i n ep)) (hS : s.heap.get? S = some { cls := .type "set", dict := none, data := .set es ep t }) (hf : t.fits es.size = true) (hn : es.size = n)
    (hTp : s.heap.get? T = some (tup places nn)) (hp : places[i]? = none)
    (h : ∀ s', SG s s' → Heap.ExtBut it s.heap s'.heap → Q none s') : W p w A (pyNext (.ref it)) Q s := by
  have hT : Shared.TypeIs s (.ref it) "set_iterator" := ⟨_, hit, rfl⟩
  unfold W pyNext
  refine wpAny_bind (wpAny_attempt (wpAny_callSpecial?_slot (name := Str.ofString "__next__") hT slot_si_next
    (wpAny_call_entry slot_si_next hT entry_si_next ?_ (args_si_next _))))
  unfold Builtin.«set_iterator.__next__»
  refine wpAny_bind (wpAny_pure ?_)
  dsimp only
  refine wpAny_bind (wpAny_fieldsOf hit rfl ?_)
  dsimp only [rawInt]
  refine wpAny_bind (wpAny_setEntries_of hS rfl hf ?_)
  rw [if_neg (by rw [hn]; simp)]
  refine wpAny_bind (wpAny_seqItems hTp rfl ?_)
  dsimp only [Int.toNat_natCast]
  rw [List.getElem?_toArray, hp]
  dsimp only
  refine wpAny_bind (wpAny_setField_rec hit (by simp) fun h0 e0 s0 => ?_)
  refine wpAny_bind (wpAny_setField_rec (s := { s with heap := h0 }) e0 (by simp) fun h1 e1 s1 => ?_)
  refine wpAny_bind ?_
  simp only [newExc, newTuple]
  refine wpAny_bind (wpAny_newObj_type ?_ (by size_fits))
  refine wpAny_bind (m := firstArgMember _ _) (wpAny_of_eq (a := Value.none) (by first | rfl | (simp only [firstArgMember]; rfl)) ?_)
  refine wpAny_newObj_type ?_ (by size_fits)
  simp only [raiseNew]
  refine wpAny_bind (wpAny_handled ?_)
  rw [show A.in1.handled = none from hA]
  refine wpAny_bind (wpAny_pure (wpAny_throw ?_))
  refine wpAny_bind (wpAny_isInstance (T := "StopIteration") (b := true) ⟨_, Heap.get?_push_size _ rfl, rfl⟩ isSubtype_stop ?_)
  exact wpAny_pure (h _ ⟨rfl, rfl⟩ (((s0.extBut.trans s1.extBut).push _).push _))

end

/-- an iterator of n items, without a frame -/
structure Nx (p : Program) (w : World) (A : Around) (s₂ : Shared) (it : Addr) (X : List Addr) (n : Nat) (IO : Nat → Obj → Prop) (V : Nat → Value → Prop) : Prop where
  nxt : ∀ i s₁ o, i < n → Kp (it :: X) s₂ s₁ → s₁.heap.get? it = some o → IO i o → ∀ Q : Option Value → Shared → Prop, (∀ v s₃ o', V i v → Heap.SameBut it s₁.heap s₃.heap → s₃.heap.get? it = some o' → IO (i + 1) o' → SG s₁ s₃ → Q (some v) s₃) → W p w A (pyNext (.ref it)) Q s₁
  fin : ∀ s₁ o, Kp (it :: X) s₂ s₁ → s₁.heap.get? it = some o → IO n o → ∀ Q : Option Value → Shared → Prop, (∀ s₃, Heap.ExtBut it s₁.heap s₃.heap → SG s₁ s₃ → Q none s₃) → W p w A (pyNext (.ref it)) Q s₁

theorem iter_set {S : Addr} {ks : List Str} {K : Value → Shared → Prop} (hS : SetK p w s.heap S ks)
    (h : ∀ s₂ it o IO (os : List Str), Kept s s₂ → s.heap.get? it = none → s₂.heap.get? it = some o → IO 0 o → os.Perm ks →
      (∀ A' X, A'.handled = none → S ∉ X → (∀ x ∈ X, ∃ o, s.heap.get? x = some o) → Nx p w A' s₂ it X ks.length IO (fun i v => ∃ x t, os[i]? = some x ∧ v = .str x t)) → K (.ref it) s₂) : W p w A (pyIter (.ref S)) K s := by
  obtain ⟨es, ep, t, ho, hel, hb, hf, hled, hpl, hp⟩ := hS
  have hlen : es.size = ks.length := by have := hp.length_eq; simpa using this
  have hT : s.TypeIs (.ref S) "set" := ⟨_, ho, rfl⟩
  refine wpAny_pyIter_slot hT F.slot_set_iter (wpAny_call_entry F.slot_set_iter hT entry_set_iter ?_ (F.args_set_iter_1 _))
  unfold Builtin.«frozenset.__iter__» Builtin.Frozenset.slot0 Builtin.Frozenset.sizeOf
  refine wpAny_bind (wpAny_pure ?_)
  refine wpAny_bind (wpAny_bind (wpAny_setEntries_of ho rfl hf (wpAny_pure ?_)))
  unfold setDrawn setsByText
  refine wpAny_bind (wpAny_bind (wpAny_setState_of ho rfl hf ?_))
  dsimp only
  refine wpAny_bind (wpAny_bind (wpAny_askSetting (wpAny_pure ?_)))
  refine wpAny_pure ?_
  have strAt : ∀ (e : Int × Value), e ∈ es.toList → ∃ tx, e.2 = .str (strOf e.2) tx := fun e he => let ⟨tx, h1, _⟩ := elems_str hel e he; ⟨tx, h1⟩
  have fresh : s.heap.get? s.heap.objs.size = none := Heap.get?_none_of_le (Nat.le_refl _)
  have epOf : ∀ {s' : Shared} {Q : Nat → Shared → Prop} {A' : Around}, s'.heap.get? S = some { cls := .type "set", dict := none, data := .set es ep t } → Q ep s' → wpAny (model p w) A' (setEpoch S) Q NoE s' := fun h1 h2 => wpAny_setEpoch_of h1 rfl hf h2
  have hfit : t.place.size = es.size := by
    have := hf
    simp only [SetTable.fits, Bool.and_eq_true, beq_iff_eq] at this
    exact this.1
  show wpAny _ _ (if (!w.params.followText "set-order" && (!t.plain && decide (es.size > 1))) = true then _ else _) _ _ _
  -- what the counted iterator does
  have plainCase : ∀ (os : List (Int × Value)) (slot : Nat → Nat), os.Perm es.toList → slot 0 = 0 →
      (∀ s₁, s₁.heap.get? S = some { cls := .type "set", dict := none, data := .set es ep t } → ∀ i (A' : Around) (Q' : Option (Value × Nat) → Shared → Prop) (E' : Value → Shared → Prop), (Q' ((os[i]?).map fun e => (e.2, slot (i + 1))) s₁) → i ≤ os.length → wpAny (model p w) A' (setNext S (slot i) i ep) Q' E' s₁) →
      wpAny (model p w) A.in1 (do
        let first ← pure (rawInt 0)
        let __do_lift ← setEpoch S
        let __do_lift ← newFields "set_iterator" [first, rawInt 0, Value.ref S, rawInt (es.size : Nat), rawInt (__do_lift : Nat)]
        ret __do_lift) (fun fin s' => ∃ v, fin = Fin.done (Flow.ret v) ∧ ∃ T' r, s'.TypeIs v T' ∧ typeLookup (Value.type T') (Str.ofString "__next__") = pure (some r) ∧ K v s') NoE s := by
    intro os slot hos h0 hnx
    refine wpAny_bind (wpAny_pure ?_)
    refine wpAny_bind (epOf ho ?_)
    unfold newFields
    refine wpAny_bind (wpAny_newObj_type (wpAny_pure ?_) (by size_fits))
    have k1 : Kept s { s with heap := s.heap.push (siObj S (rawInt 0) 0 es.size ep) } := push_kept rfl ⟨rfl, rfl⟩
    have hit : (s.heap.push (siObj S (rawInt 0) 0 es.size ep)).get? s.heap.objs.size = some (siObj S (rawInt 0) 0 es.size ep) := Heap.get?_push_size _ rfl
    refine ⟨_, rfl, "set_iterator", _, ⟨_, hit, rfl⟩, slot_si_next.lookup, ?_⟩
    refine h { s with heap := s.heap.push (siObj S (rawInt 0) 0 es.size ep) } s.heap.objs.size _ (fun i o => o = siObj S (rawInt (slot i : Nat)) i es.size ep) (os.map fun e => strOf e.2) k1 fresh hit (by rw [h0]; rfl) ((hos.map _).trans hp) fun A' X hA' hSX hX => ⟨?_, ?_⟩
    · intro i s₁ o hi hk hio hO Q hQ
      subst hO
      have hS₁ : s₁.heap.get? S = some { cls := .type "set", dict := none, data := .set es ep t } := hk S _ (by
        simp only [List.mem_cons, not_or]
        exact ⟨fun q => (by rw [q, fresh] at ho; cases ho), hSX⟩) (k1.get ho)
      have hi' : i < os.length := by rw [hos.length_eq]; simp; omega
      refine si_int_some (x := os[i].2) (nx := slot (i + 1)) hA' hio hS₁ hf rfl (fun A'' Q' E' hq => hnx s₁ hS₁ i A'' Q' E' (by rw [List.getElem?_eq_getElem hi']; exact hq) (Nat.le_of_lt hi')) fun s' sg hsb hit' => ?_
      obtain ⟨tx, htx⟩ := strAt os[i] (hos.mem_iff.mp (List.getElem_mem hi'))
      exact hQ _ s' _ ⟨strOf os[i].2, tx, by rw [List.getElem?_map, List.getElem?_eq_getElem hi']; rfl, htx⟩ hsb hit' rfl sg
    · intro s₁ o hk hio hO Q hQ
      subst hO
      have hS₁ : s₁.heap.get? S = some { cls := .type "set", dict := none, data := .set es ep t } := hk S _ (by
        simp only [List.mem_cons, not_or]
        exact ⟨fun q => (by rw [q, fresh] at ho; cases ho), hSX⟩) (k1.get ho)
      have hl : os.length = ks.length := by rw [hos.length_eq]; simpa using hlen
      refine si_int_none hA' hio hS₁ hf rfl (fun A'' Q' E' hq => hnx s₁ hS₁ ks.length A'' Q' E' (by rw [← hl, List.getElem?_eq_none (Nat.le_refl _)]; exact hq) (by omega)) fun s' sg hx => hQ s' hx sg
  cases hby : w.params.followText "set-order" with
  | true =>
    simp only [Bool.not_true, Bool.false_and, Bool.false_eq_true, if_false]
    refine plainCase (pickOrder (w.params.setOrder S ep) es).toList (fun _ => 0) (pickOrder_perm _ _) rfl fun s₁ hS₁ i A' Q' E' hq hi => ?_
    unfold setNext setsByText
    refine wpAny_bind (wpAny_setState_of hS₁ rfl hf ?_)
    dsimp only
    refine wpAny_bind (wpAny_bind (wpAny_askSetting (wpAny_pure ?_)))
    dsimp only
    rw [if_pos (show (model p w).w.params.followText "set-order" = true from hby)]
    rw [if_neg (by simp)]
    unfold setWalk setsByText
    refine wpAny_bind (wpAny_bind (wpAny_setState_of hS₁ rfl hf ?_))
    dsimp only
    refine wpAny_bind (wpAny_bind (wpAny_askSetting (wpAny_pure ?_)))
    dsimp only
    rw [if_pos (show (model p w).w.params.followText "set-order" = true from hby)]
    refine wpAny_bind (wpAny_askSetting (wpAny_pure (wpAny_pure ?_)))
    rw [Array.getElem?_toList] at hq
    exact hq
  | false =>
    have hled' : t.led = true := by rw [hled, ledOf, hby]; rfl
    by_cases h1 : es.size ≤ 1
    · have hc : decide (es.size > 1) = false := by simp; omega
      rw [hc]
      simp only [Bool.and_false, Bool.false_eq_true, if_false]
      refine plainCase es.toList (fun i => if i = 0 then 0 else t.place.getD 0 0 + 1) .rfl rfl fun s₁ hS₁ i A' Q' E' hq hi => ?_
      unfold setNext setsByText
      refine wpAny_bind (wpAny_setState_of hS₁ rfl hf ?_)
      dsimp only
      refine wpAny_bind (wpAny_bind (wpAny_askSetting (wpAny_pure ?_)))
      dsimp only
      rw [if_neg (show ¬ (model p w).w.params.followText "set-order" = true from by show ¬ w.params.followText "set-order" = true; rw [hby]; decide)]
      show wpAny _ _ (if (!t.plain && decide (es.size > 1)) = true then _ else _) _ _ _
      rw [hc, if_neg (by simp)]
      refine wpAny_bind ?_
      show wpAny _ _ (if (!t.led && !es.isEmpty) = true then _ else _) _ _ _
      rw [hled', if_neg (by simp)]
      refine wpAny_pure (wpAny_pure ?_)
      have e : (match es[SetTable.below t.place (if i = 0 then 0 else t.place.getD 0 0 + 1)]?, t.place[SetTable.below t.place (if i = 0 then 0 else t.place.getD 0 0 + 1)]? with
            | some (_, x), some j => some (x, j + 1)
            | _, _ => none) = (es.toList[i]?).map fun e => (e.2, if i + 1 = 0 then 0 else t.place.getD 0 0 + 1) := by
        clear hq
        generalize t.place = pl at hfit
        obtain ⟨l⟩ := es
        obtain ⟨pl⟩ := pl
        match l, pl, hfit, h1, hi with
        | [], [], _, _, hi =>
          have : i = 0 := by simpa using hi
          subst this; simp [SetTable.below, SetTable.below.go]
        | [a], [j], _, _, hi =>
          have : i = 0 ∨ i = 1 := by simp at hi; omega
          rcases this with q | q <;> subst q <;> simp [SetTable.below, SetTable.below.go]
        | [], _ :: _, h, _, _ => simp at h
        | [_], [], h, _, _ => simp at h
        | [_], _ :: _ :: _, h, _, _ => simp at h
        | _ :: _ :: _, _, _, h, _ => simp at h
      exact Eq.mpr (congrArg (fun z => Q' z s₁) e) hq
    · have hpl' : t.plain = false := by rcases hpl with q | q; omega; exact q
      have hc : decide (es.size > 1) = true := by simp; omega
      rw [hc, hpl']
      simp only [Bool.not_false, Bool.and_true, if_true]
      refine wpAny_bind (draw_order _ _ _ _ (by simp) fun ys s' hys sg hh => ?_)
      simp only [newTuple]
      have ysz : ys.length = es.size := by rw [hys.length_eq]; simp
      refine wpAny_bind (wpAny_newObj_type ?_ (by
        have h9 : es.size ≤ sizeLine := fits_of_scanBound hb
        simp [sizeOk]; omega))
      have k0 : Kept s { s' with heap := s'.heap.push (tup (ys.map fun (i : Nat) => rawInt i) 0) } := push_kept (by rw [hh]) sg
      refine wpAny_bind (epOf (s' := { s' with heap := s'.heap.push (tup (ys.map fun (i : Nat) => rawInt i) 0) }) (k0.get ho) ?_)
      unfold newFields
      refine wpAny_bind (wpAny_newObj_type (wpAny_pure ?_) (by size_fits))
      generalize hT0 : s'.heap.objs.size = T0
      have eT : s.heap.objs.size = T0 := by rw [← hT0, hh]
      generalize hs1 : ({ s' with heap := s'.heap.push (tup (ys.map fun (i : Nat) => rawInt i) 0) } : Shared) = s1 at k0
      have hs1h : s1.heap = s'.heap.push (tup (ys.map fun (i : Nat) => rawInt i) 0) := by rw [← hs1]
      have hTp : s1.heap.get? T0 = some (tup (ys.map fun (i : Nat) => rawInt i) 0) := by rw [hs1h, ← hT0]; exact Heap.get?_push_size _ rfl
      have hnT : s.heap.get? T0 = none := eT ▸ fresh
      have k2 : Kept s1 { s1 with heap := s1.heap.push (siObj S (.ref T0) 0 es.size ep) } := push_kept rfl ⟨rfl, rfl⟩
      have hnI : s1.heap.get? s1.heap.objs.size = none := Heap.get?_none_of_le (Nat.le_refl _)
      have hit : (s1.heap.push (siObj S (.ref T0) 0 es.size ep)).get? s1.heap.objs.size = some (siObj S (.ref T0) 0 es.size ep) := Heap.get?_push_size _ rfl
      generalize hI0 : s1.heap.objs.size = I0 at hnI hit
      generalize hs2 : ({ s1 with heap := s1.heap.push (siObj S (.ref T0) 0 es.size ep) } : Shared) = s2 at k2
      have hs2h : s2.heap = s1.heap.push (siObj S (.ref T0) 0 es.size ep) := by rw [← hs2]
      rw [← hs2h] at hit
      have hTI : T0 ≠ I0 := fun q => by rw [q, hnI] at hTp; cases hTp
      have hperm : (ys.map fun i => strOf (es.toList.getD i default).2).Perm ks := by
        refine ((hys.map _).trans ?_).trans hp
        have : (List.range es.size).map (fun i => strOf (es.toList.getD i default).2) = es.toList.map fun e => strOf e.2 := by
          apply List.ext_getElem
          · simp
          · intro i h1 h2
            simp at h1 h2
            simp [h1]
        rw [this]
      have yin : ∀ y ∈ ys, y < es.size := fun y hy => by simpa using hys.mem_iff.mp hy
      have goal : K (.ref I0) s2 := by
        refine h s2 I0 _ (fun i o => o = siObj S (.ref T0) i es.size ep) _ (k0.trans k2) ?_ hit rfl hperm fun A' X hA' hSX hX => ⟨?_, ?_⟩
        · cases q : s.heap.get? I0 with
          | none => rfl
          | some o => rw [k0.get q] at hnI; cases hnI
        · intro i s₁ o hi hk hio hO Q hQ
          subst hO
          have hS₁ : s₁.heap.get? S = some { cls := .type "set", dict := none, data := .set es ep t } := hk S _ (by
            simp only [List.mem_cons, not_or]
            exact ⟨fun q => (by rw [q] at ho; rw [k0.get ho] at hnI; cases hnI), hSX⟩) (k2.get (k0.get ho))
          have hT₁ : s₁.heap.get? T0 = some (tup (ys.map fun (i : Nat) => rawInt i) 0) := hk T0 _ (by
            simp only [List.mem_cons, not_or]
            exact ⟨hTI, fun q => (by obtain ⟨o, ho'⟩ := hX T0 q; rw [hnT] at ho'; cases ho')⟩) (k2.get hTp)
          have hi' : i < ys.length := by rw [ysz]; omega
          have hlt := yin ys[i] (List.getElem_mem hi')
          have he : es[ys[i]]? = some (es[ys[i]].1, es[ys[i]].2) := by simp [hlt]
          refine si_ref_some (x := es[ys[i]].2) hA' hio hS₁ hf rfl hT₁ (pl := ys[i]) (by rw [List.getElem?_map, List.getElem?_eq_getElem hi']; rfl) he fun s' sg' hsb hit' => ?_
          obtain ⟨tx, htx⟩ := strAt es[ys[i]] (by simp)
          refine hQ _ s' _ ⟨strOf es[ys[i]].2, tx, ?_, htx⟩ hsb hit' rfl sg'
          rw [List.getElem?_map, List.getElem?_eq_getElem hi']
          simp [hlt]
        · intro s₁ o hk hio hO Q hQ
          subst hO
          have hS₁ : s₁.heap.get? S = some { cls := .type "set", dict := none, data := .set es ep t } := hk S _ (by
            simp only [List.mem_cons, not_or]
            exact ⟨fun q => (by rw [q] at ho; rw [k0.get ho] at hnI; cases hnI), hSX⟩) (k2.get (k0.get ho))
          have hT₁ : s₁.heap.get? T0 = some (tup (ys.map fun (i : Nat) => rawInt i) 0) := hk T0 _ (by
            simp only [List.mem_cons, not_or]
            exact ⟨hTI, fun q => (by obtain ⟨o, ho'⟩ := hX T0 q; rw [hnT] at ho'; cases ho')⟩) (k2.get hTp)
          exact si_ref_none hA' hio hS₁ hf rfl hT₁ (by rw [List.getElem?_eq_none]; simp; omega) fun s' sg' hx => hQ s' hx sg'
      subst hs1 hs2 hI0 hT0
      exact ⟨_, rfl, "set_iterator", _, ⟨_, hit, rfl⟩, slot_si_next.lookup, goal⟩
end
end Mine
end

-- SetW
section
open PySem PySem.W PyProof.Rows PySem.Builtin.ObjectAttr
set_option maxRecDepth 100000
set_option linter.all false
namespace Mine
theorem set_len : typeLookup (.type "set") "__len__" = pure (some (.builtin "set.__len__")) := by rw [typeLookup_type, builtinLookup_eq_fast]; kernel_rfl
section
variable {p : Program} {w : World} {A : Around} {s : Shared}
/-- what the iterator gives, put behind the list at D -/
theorem ext_loop {s₂ : Shared} {it D : Addr} {n : Nat} {IO : Nat → Obj → Prop} {V : Nat → Value → Prop} {res : Value} {R : Result → Shared → Prop} (N : Nx p w A.in1 s₂ it [D] n IO V) (hD : D ≠ it) (hn : n ≤ 1000) :
    ∀ (k i : Nat) (s : Shared) (o : Obj) (acc : List Value) (c : Nat), n - i = k → i ≤ n → Kp [it, D] s₂ s → s.heap.get? it = some o → IO i o → s.heap.get? D = some (lst acc c) → acc.length = i → (∀ j v, acc[j]? = some v → V j v) →
      (∀ s' acc' c', SG s s' → Kp [it, D] s₂ s' → s'.heap.get? D = some (lst acc' c') → acc'.length = n → (∀ j v, acc'[j]? = some v → V j v) → R (.ok (.ret res)) s') →
      codeAny (model p w) A (.builtin "list.extend.loop" ⟨[.ref D, .ref it, res], []⟩) R s := by
  intro k
  induction k with
  | zero =>
    intro i s o acc c hk hi hkp hio hIO hDo hl hV hR
    have : i = n := by omega
    subst this
    refine codeAny_builtin F.entry_extend_loop ?_
    rw [Around.under_plainId F.plain_extend_loop _]
    show wpAny _ A.in1 (pyNext (.ref it) >>= _) _ _ s
    refine wpAny_bind (wpAny_mono (N.fin s o hkp hio hIO (fun r s' => r = none ∧ Heap.ExtBut it s.heap s'.heap ∧ SG s s') fun s' hx sg => ⟨rfl, hx, sg⟩) (fun r s' h' => ?_) fun _ _ h => h.elim)
    obtain ⟨rfl, hx, sg⟩ := h'
    exact wpAny_pure (hR s' acc c sg (fun b o' hb e => hx b o' (fun q => hb (by simp [q])) (hkp b o' hb e)) (hx D _ hD hDo) hl hV)
  | succ k ih =>
    intro i s o acc c hk hi hkp hio hIO hDo hl hV hR
    have hlt : i < n := by omega
    refine codeAny_builtin F.entry_extend_loop ?_
    rw [Around.under_plainId F.plain_extend_loop _]
    show wpAny _ A.in1 (pyNext (.ref it) >>= _) _ _ s
    refine wpAny_bind (wpAny_mono (N.nxt i s o hlt hkp hio hIO (fun r s' => ∃ v o', r = some v ∧ V i v ∧ Heap.SameBut it s.heap s'.heap ∧ s'.heap.get? it = some o' ∧ IO (i + 1) o' ∧ SG s s') fun v s' o' hv hsb ho' hIO' sg => ⟨v, o', rfl, hv, hsb, ho', hIO', sg⟩) (fun r s' h' => ?_) fun _ _ h => h.elim)
    obtain ⟨v, o', rfl, hv, hsb, ho', hIO', sg⟩ := h'
    have hD' : s'.heap.get? D = some (lst acc c) := (hsb.2 D hD).trans hDo
    show wpAny _ A.in1 (updateSeq D (·.push v) >>= _) _ _ _
    refine wpAny_bind ?_
    refine wpAny_updateSeq hD' rfl (wpAny_pure ⟨plainId_quiet F.plain_extend_loop _, ?_⟩) (by simp; rw [sizeLine_eq]; omega) (by simp; rw [sizeLine_eq]; omega)
    obtain ⟨c', hc'⟩ : ∃ c', (s'.heap.update D (Obj.mapSeq (·.push v))).get? D = some (lst (acc ++ [v]) c') := by
      have e0 : s'.heap.get? D = some (seqObj "list" acc.toArray c) := hD'
      have e1 := get?_update_seq e0 (·.push v)
      generalize (if ((acc.toArray.push v).size == acc.toArray.size) = true then c else c + 1) = c2 at e1
      refine ⟨c2, e1.trans ?_⟩
      simp only [List.push_toArray]
      rfl
    refine ih (i + 1) _ o' (acc ++ [v]) c' (by omega) hlt ?_ ((Heap.get?_update_other _ _ hD).trans ho') hIO' hc' (by simp [hl]) ?_ fun s'' acc' c'' sg' hkp' hD'' hl' hV' => hR s'' acc' c'' ⟨sg'.1.trans sg.1, sg'.2.trans sg.2⟩ hkp' hD'' hl' hV'
    · intro b o2 hb e
      have h1 := (hsb.2 b (fun q => hb (by simp [q]))).trans (hkp b o2 hb e)
      exact (Heap.get?_update_other _ _ (fun q => hb (by simp [q]))).trans h1
    · intro j u hj
      rw [List.getElem?_append] at hj
      split at hj
      · exact hV j u hj
      · rename_i q
        have : j = i := by
          have := List.getElem?_eq_some_iff.mp hj
          obtain ⟨h1, _⟩ := this
          simp at h1; omega
        subst this
        simp [hl] at hj
        subst hj; exact hv

/-- the elements of a set, in some order -/
theorem collect_set {S : Addr} {ks : List Str} {Q : List Value → Shared → Prop} (hA : A.handled = none) (hS : SetK p w s.heap S ks) (hn : ks.length ≤ 1000)
    (h : ∀ s' vs os, Kept s s' → All2 RS vs os → os.Perm ks → Q vs s') : W p w A (collect (.ref S)) Q s := by
  have hT : s.TypeIs (.ref S) "set" := by obtain ⟨es, ep, t, ho, _⟩ := hS; exact ⟨_, ho, rfl⟩
  unfold W collect
  refine wpAny_bind (wpAny_runValue (codeAny_builtin F.entry_proto_collect ?_))
  rw [Around.under_plainId F.plain_proto_collect _]
  show wpAny _ A.in1 (newList [] >>= fun l => again (.builtin "list.__iadd__" ⟨[l, .ref S], []⟩)) _ _ s
  refine wpAny_bind (wpAny_newObj_type ?_)
  refine wpAny_pure ⟨plainId_quiet F.plain_list_iadd _, codeAny_builtin F.entry_list_iadd ?_⟩
  rw [Around.under_plainId F.plain_list_iadd _]
  have k0 : Kept s { s with heap := s.heap.push (lst [] 0) } := push_kept rfl ⟨rfl, rfl⟩
  have hD : (s.heap.push (lst [] 0)).get? s.heap.objs.size = some (lst [] 0) := Heap.get?_push_size _ rfl
  have hDn : s.heap.get? s.heap.objs.size = none := Heap.get?_none_of_le (Nat.le_refl _)
  have hSD : S ≠ s.heap.objs.size := fun q => by obtain ⟨o, ho, _⟩ := hT; rw [q, hDn] at ho; cases ho
  have h1 : Builtin.List.listSameRef (.ref s.heap.objs.size) (.ref S) = false := by simp [Builtin.List.listSameRef, Ne.symm hSD]
  show wpAny _ A.in1 (Builtin.List.listExtendWith (.ref s.heap.objs.size) (.ref S) (.ref s.heap.objs.size)) _ _ { s with heap := s.heap.push (lst [] 0) }
  generalize s.heap.objs.size = D at *
  generalize hs1 : ({ s with heap := s.heap.push (lst [] 0) } : Shared) = s1 at *
  have hD1 : s1.heap.get? D = some (lst [] 0) := by rw [← hs1]; exact hD
  have hT1 : s1.TypeIs (.ref S) "set" := by obtain ⟨o, ho, hc⟩ := hT; exact ⟨o, k0.get ho, hc⟩
  have hS1 : SetK p w s1.heap S ks := hS.keep fun o e => k0.get e
  unfold Builtin.List.listExtendWith
  refine wpAny_bind (wpAny_typeOf hT1 ?_)
  rw [if_neg (by rw [h1]; decide)]
  refine wpAny_bind (iter_set hS1 fun s2 it o IO os k2 hitn hit hIO hos hNx => ?_)
  have hT2 : s2.TypeIs (.ref S) "set" := by obtain ⟨o, ho, hc⟩ := hT1; exact ⟨o, k2.get ho, hc⟩
  have hD2 := k2.get hD1
  have hDit : D ≠ it := fun q => by rw [← q, hD1] at hitn; cases hitn
  refine wpAny_bind (wpAny_holding ?_)
  unfold Builtin.List.listLengthHint
  refine wpAny_bind (wpAny_specialOf hT2 set_len ?_)
  dsimp only
  generalize hid : ("set.__len__" : String) = id0
  fail_if_success (clear hid id0)
  rw [show splitId id0 = some ("set", "__len__") from by subst hid; decide +kernel]
  subst hid
  refine wpAny_bind (wpAny_isInstance (b := true) hT2 (by rw [isSubtype_type]; kernel_rfl) ?_)
  simp only [Bool.not_true, Bool.false_eq_true, if_false]
  rw [if_pos (by decide +kernel)]
  refine wpAny_bind (wpAny_typeOf hT2 ?_)
  refine wpAny_pure ?_
  rw [if_pos (by decide +kernel)]
  refine wpAny_bind (wpAny_rule ?_)
  unfold Builtin.List.listTouch Builtin.List.listUpdate
  refine wpAny_bind (wpAny_bind ?_)
  have touch : ∀ {s3 : Shared} {f : Array Value → Array Value} {xs : List Value} {c : Nat} {Q' : Unit → Shared → Prop} {A' : Around}, s3.heap.get? D = some (lst xs c) → (f xs.toArray).size ≤ 1000 → xs.length ≤ 1000 → (∀ c', (s3.heap.update D (Obj.mapSeq f)).get? D = some (lst (f xs.toArray).toList c') → Q' () { s3 with heap := s3.heap.update D (Obj.mapSeq f) }) → wpAny (model p w) A' (updateSeq D f) Q' NoE s3 := by
    intro s3 f xs c Q' A' hd hz hz2 hq
    have e0 : s3.heap.get? D = some (seqObj "list" xs.toArray c) := hd
    have e1 := get?_update_seq e0 f
    generalize (if ((f xs.toArray).size == xs.toArray.size) = true then c else c + 1) = c2 at e1
    refine wpAny_updateSeq hd rfl (hq c2 (e1.trans ?_)) (by simp; rw [sizeLine_eq]; omega) (Nat.le_trans hz (by rw [sizeLine_eq]; omega))
    simp [seqObj, lst]
  have same2 : ∀ {s3 : Shared} {f : Array Value → Array Value}, Kp [it, D] s2 s3 → Kp [it, D] s2 { s3 with heap := s3.heap.update D (Obj.mapSeq f) } := fun hk b o hb e => (Heap.get?_update_other _ _ (fun q => hb (by simp [q]))).trans (hk b o hb e)
  refine touch hD2 (by simp) (by simp) fun c3 hD3 => ?_
  refine touch (s3 := { s2 with heap := s2.heap.update D (Obj.mapSeq fun x => x.push .none) }) hD3 (by simp) (by simp) fun c4 hD4 => ?_
  have hkp := same2 (f := fun x => x.pop) (same2 (s3 := s2) (f := fun x => x.push .none) fun b o _ e => e)
  generalize hs4 : ({ s2 with heap := (s2.heap.update D (Obj.mapSeq fun x => x.push .none)).update D (Obj.mapSeq fun x => x.pop) } : Shared) = s4 at hkp
  have hD4' : s4.heap.get? D = some (lst [] c4) := by rw [← hs4]; simpa using hD4
  have hit4 : s4.heap.get? it = some o := by
    rw [← hs4]
    exact (Heap.get?_update_other _ _ hDit).trans ((Heap.get?_update_other _ _ hDit).trans hit)
  have sg4 : SG s2 s4 := by rw [← hs4]; exact ⟨rfl, rfl⟩
  refine wpAny_pure ⟨plainId_quiet F.plain_extend_loop _, ?_⟩
  refine ext_loop (hNx A.in1 [D] (by exact hA) (by simpa using hSD) (by intro x hx; simp at hx; subst hx; exact ⟨_, hD1⟩)) hDit hn ks.length 0 _ o [] c4 (by omega) (Nat.zero_le _) hkp hit4 hIO hD4' rfl (by simp) fun s5 acc c5 sg5 hk5 hD5 hl5 hV5 => ?_
  show wpAny _ A (load D >>= _) _ _ s5
  refine wpAny_bind (wpAny_load hD5 ?_)
  refine wpAny_pure ?_
  have kf : Kept s s5 := ⟨⟨sg5.1.trans (sg4.1.trans (k2.1.1.trans k0.1.1)), sg5.2.trans (sg4.2.trans (k2.1.2.trans k0.1.2))⟩, fun b o' _ e => ⟨by simp, hk5 b o' (by
    simp only [List.mem_cons, List.not_mem_nil, or_false, not_or]
    exact ⟨fun q => (by rw [q] at e; rw [k0.get e] at hitn; cases hitn), fun q => (by rw [q, hDn] at e; cases e)⟩) (k2.get (k0.get e))⟩⟩
  refine h s5 acc os kf (all2_of (by rw [hl5, hos.length_eq]) fun i v x hv hx => ?_) hos
  obtain ⟨y, ty, hy, e⟩ := hV5 i v hv
  rw [hx] at hy; cases hy
  exact ⟨ty, e⟩
end
end Mine
end

-- SetX
section
open PySem PySem.W PyProof.Rows PySem.Builtin.ObjectAttr
set_option maxRecDepth 100000
set_option linter.all false
namespace Mine
theorem strsAre_of {vs : List Value} {xs : List Str} (h : All2 RS vs xs) : StrsAre vs xs := by
  induction h with
  | nil => exact .nil
  | cons a _ ih => obtain ⟨t, rfl⟩ := a; exact .cons _ t ih
theorem of_strsAre : ∀ {vs : List Value} {xs : List Str}, StrsAre vs xs → All2 RS vs xs
  | _, _, .nil => .nil
  | _, _, .cons x t h => .cons ⟨t, rfl⟩ (of_strsAre h)
theorem rising_pw : ∀ (l : List Str) (p : Str), risingS p l = true → (p :: l).Pairwise (fun a b => ¬ b.cps.toList < a.cps.toList)
  | [], p, _ => by simp
  | x :: r, p, h => by
    have h1 : (!PySem.Spec.ltCps x.cps.toList p.cps.toList && risingS x r) = true := h
    rw [Bool.and_eq_true, ltCps_eq] at h1
    have ih := rising_pw r x h1.2
    have hp : ¬ x.cps.toList < p.cps.toList := by simpa using h1.1
    refine List.pairwise_cons.mpr ⟨fun y hy => ?_, ih⟩
    rcases List.mem_cons.mp hy with q | q
    · subst q; exact hp
    · have h2 := (List.pairwise_cons.mp ih).1 y q
      intro hlt
      have a1 : p.cps.toList ≤ x.cps.toList := List.not_lt.mp hp
      have a2 : x.cps.toList ≤ y.cps.toList := List.not_lt.mp h2
      exact absurd hlt (List.not_lt.mpr (List.le_trans a1 a2))
theorem sorted_pw {l : List Str} (h : sortedS l = true) : l.Pairwise (fun a b => ¬ b.cps.toList < a.cps.toList) := by
  cases l with
  | nil => exact .nil
  | cons x r => exact rising_pw r x h
section
variable {p : Program} {w : World} {A : Around} {s : Shared}
theorem sorted_set {S : Addr} {ks : List Str} {Q : Value → Shared → Prop} (hA : A.handled = none) (hS : SetK p w s.heap S ks) (hn : ks.length < 64)
    (h : ∀ s' D vs os n, Kept s s' → s.heap.get? D = none → s'.heap.get? D = some (lst vs n) → All2 RS vs os → os.Perm ks → os.Pairwise (fun a b => ¬ b.cps.toList < a.cps.toList) → Q (.ref D) s') :
    W p w A (call (.builtin "sorted") [.ref S]) Q s := by
  refine Calls.call_function_entry kind_sorted plain_sorted entry_sorted (args_sorted1 _) ?_
  unfold Builtin.«sorted»
  refine wpAny_bind (m := checkCount "sorted" 1 1 _) (wpAny_pure ?_)
  refine wpAny_bind (wpAny_mono (collect_set (by first | exact hA | (show A.in1.handled = none; exact hA)) hS (by omega) (Q := fun vs s' => ∃ os, Kept s s' ∧ All2 RS vs os ∧ os.Perm ks) fun s' vs os k hv hp => ⟨os, k, hv, hp⟩) (fun vs s1 h1 => ?_) fun _ _ h => h.elim)
  obtain ⟨os, k1, hv, hp⟩ := h1
  have hlen : vs.length < 64 := by rw [hv.len, hp.length_eq]; exact hn
  refine wpAny_bind (wpAny_newList ?_ (by rw [sizeLine_eq]; omega))
  show wpAny _ _ _ _ _ { s1 with heap := s1.heap.push (seqObj "list" vs.toArray 0) }
  have hoL : (s1.heap.push (seqObj "list" vs.toArray 0)).get? s1.heap.objs.size = some (seqObj "list" vs.toArray 0) := Heap.get?_push_size _ rfl
  have hSA := strsAre_of hv
  refine wpAny_bind (wpAny_holding (wpAny_call_entry slot_list_sort ⟨_, hoL, rfl⟩ entry_list_sort (list_sort_treeK strKind_oneLt hoL hSA.keysOf (fun v₁ v₂ rest e => keyKind_strs (by rw [← e]; exact hSA)) hlen fun st' a1 a2 => ⟨_, rfl, ?_⟩) (args_list_sort _)))
  obtain ⟨os', b1, b2, b3⟩ := sorted_out_str hSA a1 a2
  refine wpAny_pure ⟨_, rfl, ?_⟩
  generalize (arrOf st').map (·.2) = out at *
  obtain ⟨n, hn'⟩ := sortedHeap_at (out := out) hoL
  have hfin := hn'.trans (congrArg some (show seqObj "list" out n = lst out.toList n from by cases out; rfl))
  have hDn : s1.heap.get? s1.heap.objs.size = none := Heap.get?_none_of_le (Nat.le_refl _)
  have old : ∀ b o, s1.heap.get? b = some o → (sortedHeap (s1.heap.push (seqObj "list" vs.toArray 0)) s1.heap.objs.size vs out).get? b = some o := fun b o e1 => by
    have lt := Heap.lt_size e1
    rw [sortedHeap_old (Nat.ne_of_lt lt) (by rw [size_push']; exact Nat.lt_succ_of_lt lt)]
    exact Heap.get?_push_of_some _ e1
  refine h _ s1.heap.objs.size out.toList os' n ⟨k1.1, fun b o _ e => ⟨by simp, old b o (k1.get e)⟩⟩ ?_ hfin (of_strsAre b1) (b2.trans hp) (sorted_pw b3)
  cases q : s.heap.get? s1.heap.objs.size with
  | none => rfl
  | some o => rw [k1.get q] at hDn; cases hDn
end
end Mine
end

-- Comp1
section
open PySem PySem.W PyProof.Rows
set_option maxRecDepth 100000
set_option linter.all false
namespace Mine
section
variable {p : Program} {w : World} {A : Around} {s : Shared} {env : Env} {B : Heap} {X : List Addr} {φ : Fm} {m : Str → Option Value} {own : List (Addr × Obj)}
abbrev cellObj : Obj := { cls := .type "cell", data := .cell none }
/-- the names of a comprehension with one cell -/
theorem nfe1 {scope : Scope} {cl : List (Str × Addr)} {y : Str} {Q : Env → Shared → Prop} (hcf : ∀ n acc, cellsFrom n scope.names acc = (y, n) :: acc) (hpc : ∀ h, pushCells h scope.names = h.push cellObj)
    (h : Q (newEnv scope s.heap.objs.size env.globals ((y, s.heap.objs.size + 1) :: cl) env.qual none .none (some env) builtinsNs) { s with heap := (s.heap.push { cls := .type "dict", data := .dict #[] }).push cellObj }) :
    W p w A (newFunctionEnv scope env.globals cl [] env.qual none .none (some env)) Q s := by
  unfold W
  simp only [newFunctionEnv, Option.isSome_some, if_true]
  refine wpAny_bind (wpAny_alloc ?_)
  refine wpAny_bind (wpAny_layCells _ (fun name kind cells => by cases hkc : kind == NameKind.cell <;> simp [hkc]) _ _ _ _ ?_)
  rw [hcf, hpc]
  rw [show ({ s with heap := s.heap.push { cls := .type "dict", data := .dict #[] } } : Shared).heap.objs.size = s.heap.objs.size + 1 from Heap.size_push ..]
  refine wpAny_bind ?_
  rw [List.forIn_nil]
  exact wpAny_pure (wpAny_pure h)

theorem Fra.addCell {L c : Addr} {y : Str} (F : Fra B s X ⟨L, []⟩ m own) (hc : s.heap.IsCell c (m y)) (hX : c ∉ X) (hB : B.get? c = none) : Fra B s (c :: X) ⟨L, [(y, c)]⟩ m own := by
  obtain ⟨f1, f2, ⟨ml, n1, n2⟩, f4, f5, f6, f7, f8⟩ := F
  refine ⟨f1, fun x hx => ?_, ⟨ml, n1, fun x hx => n2 x rfl⟩, fun x c' e => ?_, f5, ?_, fun x hx => ?_, fun x hx => ?_⟩
  · simp only [Fm.adr, List.map_cons, List.map_nil, List.cons_append, List.nil_append, List.mem_cons] at hx
    rcases hx with h | h | h
    · exact f2 x (by simp [Fm.adr, h])
    · exact h ▸ hB
    · exact f2 x (by simp [Fm.adr]; right; simpa using h)
  · have e' : [(y, c)].lookup x = some c' := e
    rw [List.lookup_cons] at e'
    cases q : x == y with
    | true => rw [q] at e'; cases e'; rw [beq_iff_eq.mp q]; exact hc
    | false => rw [q] at e'; cases e'
  · simp only [Fm.adr, List.map_cons, List.map_nil, List.cons_append, List.nil_append, List.nodup_cons, List.mem_cons, not_or] at f6 ⊢
    have cin : ∀ x ∈ L :: own.map (·.1), c ≠ x := fun x hx q => hX (q ▸ f7 x (by simpa [Fm.adr] using hx))
    exact ⟨⟨(cin L (by simp)).symm, f6.1⟩, fun q => cin c (by simp [q]) rfl, f6.2⟩
  · simp only [Fm.adr, List.map_cons, List.map_nil, List.cons_append, List.nil_append, List.mem_cons] at hx
    rcases hx with h | h | h
    · exact List.mem_cons_of_mem _ (f7 x (by simp [Fm.adr, h]))
    · simp [h]
    · exact List.mem_cons_of_mem _ (f7 x (by simp [Fm.adr]; right; simpa using h))
  · rcases List.mem_cons.mp hx with h | h
    · obtain ⟨o, e, _⟩ := hc; exact ⟨o, h ▸ e⟩
    · exact f8 x h
theorem Fra.dropCell {L c : Addr} {y : Str} {X1 X2 : List Addr} (F : Fra B s X1 ⟨L, [(y, c)]⟩ m own) (hX : ∀ x ∈ X1, x = c ∨ x ∈ X2) (hX2 : ∀ x ∈ X2, x ∈ X1) : ∃ m', Fra B s X2 ⟨L, []⟩ m' own := by
  obtain ⟨f1, f2, ⟨ml, n1, n2⟩, f4, f5, f6, f7, f8⟩ := F
  refine ⟨ml, f1, fun x hx => f2 x ?_, ⟨ml, n1, fun x hx => rfl⟩, (fun x c h => nomatch h), f5, ?_, fun x hx => ?_, fun x hx => f8 x (hX2 x hx)⟩
  · simp [Fm.adr] at hx ⊢; rcases hx with h | h
    · exact .inl h
    · exact .inr (.inr h)
  · simp only [Fm.adr, List.map_cons, List.map_nil, List.cons_append, List.nil_append, List.nodup_cons, List.mem_cons, not_or] at f6 ⊢
    exact ⟨f6.1.2, f6.2.2⟩
  · simp only [Fm.adr, List.map_cons, List.map_nil, List.cons_append, List.nil_append, List.nodup_cons, List.mem_cons, not_or] at f6 hx
    have hx' : x ∈ X1 := f7 x (by simp [Fm.adr]; rcases hx with h | h; exact .inl h; exact .inr (.inr (by simpa using h)))
    rcases hX x hx' with h | h
    · exfalso
      rcases hx with q | q
      · exact f6.1.1 (q.symm.trans h)
      · exact f6.2.1 (h ▸ q)
    · exact h

theorem no2 {a b : Nat} (h : a < b) : b + 1 + 1 ≠ a := by omega
theorem no3 {b : Nat} (h : b + 1 + 1 = b) : False := by omega
/-- a list comprehension with one cell, whose tests and element only make new things -/
theorem comp_pure1 {y : Str} {s₂ : Shared} {it : Addr} {o₀ : Obj} {elt target iter : Expr} {ifs : List Expr} {scope : Scope} {cl : List (Str × Addr)} {pos : Pos} {use : Option (Value → Sem Unit)} {Q : Value → Shared → Prop} {n : Nat} {IO : Nat → Obj → Prop} {V : Nat → Value → Prop}
    (F : Fra B s₂ (it :: X) φ m (own ++ [(it, o₀)])) (hio : IO 0 o₀) (hit : it ∉ X) (S : Src p w A s₂ it X n IO V) (hn : n ≤ sizeLine) (hcf : ∀ n acc, cellsFrom n scope.names acc = (y, n) :: acc) (hpc : ∀ h, pushCells h scope.names = h.push cellObj)
    (P : List Addr → Nat → Shared → List Value → Prop)
    (h0 : ∀ C c D s₄, Go (it :: X) s₂ (it :: C :: c :: D :: X) s₄ → P (it :: C :: c :: D :: X) 0 s₄ [])
    (turn : ∀ C c D i v s₀ s₁ ys k m₁ o B', i < n → V i v → Go (it :: X) s₂ (it :: C :: c :: D :: X) s₀ → P (it :: C :: c :: D :: X) i s₀ ys → Go (it :: C :: c :: D :: X) s₀ (it :: C :: c :: D :: X) s₁ → (∀ b o, b ≠ it → s₂.heap.get? b = some o → B'.get? b = some o) → (∀ b o, B.get? b = some o → B'.get? b = some o) →
      Fra B' s₁ (it :: C :: c :: D :: X) ⟨C, [(y, c)]⟩ m₁ [(D, lst ys k), (it, o)] →
      W p w A (assign target (compEnvC scope ((y, c) :: cl) C env) v) (fun _ s₂' => W p w A (tests ifs (compEnvC scope ((y, c) :: cl) C env)) (fun ok s₃ => if ok = true
        then W p w A (eval elt (compEnvC scope ((y, c) :: cl) C env)) (fun x s₄ => ∃ m₂, Fra B' s₄ (it :: C :: c :: D :: X) ⟨C, [(y, c)]⟩ m₂ [(D, lst ys k), (it, o)] ∧ Go (it :: C :: c :: D :: X) s₁ (it :: C :: c :: D :: X) s₄ ∧ ∀ s₅, Go (it :: C :: c :: D :: X) s₄ (it :: C :: c :: D :: X) s₅ → P (it :: C :: c :: D :: X) (i + 1) s₅ (ys ++ [x])) s₃
        else ∃ m₂, Fra B' s₃ (it :: C :: c :: D :: X) ⟨C, [(y, c)]⟩ m₂ [(D, lst ys k), (it, o)] ∧ Go (it :: C :: c :: D :: X) s₁ (it :: C :: c :: D :: X) s₃ ∧ P (it :: C :: c :: D :: X) (i + 1) s₃ ys) s₂') s₁)
    (done : ∀ C c D s₀ s₁ ys k oC mC, Go (it :: X) s₂ (it :: C :: c :: D :: X) s₀ → P (it :: C :: c :: D :: X) n s₀ ys → Go (it :: C :: c :: D :: X) s₀ (C :: X) s₁ → C ∉ X → D ∉ C :: X → s₁.heap.get? D = some (lst ys k) → s₁.heap.Ns C mC → Fra B s₁ (C :: X) φ m (own ++ [(C, oC)]) → compPost (model p w) A NoE use Q (.ref D) C (.ok .next) s₁) :
    CompK p w A env (.ListComp elt [⟨target, iter, ifs, 0⟩] scope pos) scope cl use Q (.ref it) s₂ := by
  have F' : Fra B s₂ (it :: X) φ m (own ++ [] ++ [(it, o₀)]) := by rw [List.append_nil]; exact F
  refine wpAny_newList ?_
  refine nfe1 hcf hpc ?_
  show codeAny _ _ (.compStart _ 0 (.ref it) (.ref s₂.heap.objs.size) (compEnvC scope ((y, (s₂.heap.push (lst [] 0)).objs.size + 1) :: cl) (s₂.heap.push (lst [] 0)).objs.size env)) (compPost _ _ _ _ _ (.ref s₂.heap.objs.size) (s₂.heap.push (lst [] 0)).objs.size) { s₂ with heap := ((s₂.heap.push (lst [] 0)).push { cls := .type "dict", data := .dict #[] }).push cellObj }
  generalize hs4 : ({ s₂ with heap := ((s₂.heap.push (lst [] 0)).push { cls := .type "dict", data := .dict #[] }).push cellObj } : Shared) = s4
  have h4 : s4.heap = ((s₂.heap.push (lst [] 0)).push { cls := .type "dict", data := .dict #[] }).push cellObj := by rw [← hs4]
  have k4 : Kept { s₂ with heap := s₂.heap.push (lst [] 0) } s4 := ⟨by rw [← hs4]; exact ⟨rfl, rfl⟩, fun b o _ e => ⟨by simp, by rw [h4]; exact Heap.get?_push_of_some _ (Heap.get?_push_of_some _ e)⟩⟩
  have hns : s4.heap.Ns (s₂.heap.push (lst [] 0)).objs.size (fun _ => none) := by
    rw [h4]
    exact (Heap.Ns.new (s₂.heap.push (lst [] 0)) (.type "dict")).keeps fun b o e => Heap.get?_push_of_some _ e
  obtain ⟨Fi, g, k, nC, nD, nCi⟩ := comp_lay (s₃ := { s₂ with heap := s₂.heap.push (lst [] 0) }) (s₄ := s4) (C := (s₂.heap.push (lst [] 0)).objs.size) F' hit rfl ⟨rfl, rfl⟩ rfl k4 hns
  have eC : (s₂.heap.push (lst [] 0)).objs.size = s₂.heap.objs.size + 1 := Heap.size_push ..
  have c4 : s4.heap.get? ((s₂.heap.push (lst [] 0)).objs.size + 1) = some cellObj := by
    rw [h4]
    have : ((s₂.heap.push (lst [] 0)).push { cls := .type "dict", data := .dict #[] }).objs.size = (s₂.heap.push (lst [] 0)).objs.size + 1 := Heap.size_push ..
    rw [← this]; exact Heap.get?_push_size _ rfl
  have lt : ∀ {b o}, s₂.heap.get? b = some o → b < s₂.heap.objs.size := fun e => Heap.lt_size e
  generalize (s₂.heap.push (lst [] 0)).objs.size = C at *
  generalize s₂.heap.objs.size = D at *
  have lX : ∀ x ∈ it :: X, x < D := fun x hx => let ⟨o, e⟩ := F.live x hx; lt e
  have far : ∀ {x : Nat}, x < D → C + 1 ≠ x := fun h => by rw [eC]; exact no2 h
  have ncell : C + 1 ∉ it :: C :: D :: X := fun q => by
    rcases List.mem_cons.mp q with q | q
    · exact far (lX it (by simp)) q
    · rcases List.mem_cons.mp q with q | q
      · exact absurd q (Nat.ne_of_gt (Nat.lt_succ_self _))
      · rcases List.mem_cons.mp q with q | q
        · exact no3 (eC ▸ q)
        · exact far (lX _ (List.mem_cons_of_mem _ q)) rfl
  have bn : (hideAll s₂.heap (it :: ([] : List (Addr × Obj)).map (·.1))).get? (C + 1) = none := by
    cases q : (hideAll s₂.heap (it :: ([] : List (Addr × Obj)).map (·.1))).get? (C + 1) with
    | none => rfl
    | some o => exact absurd rfl (far (lt (of_hideAll _ q)))
  have Fc := Fi.addCell (y := y) (c := C + 1) ⟨_, c4, rfl⟩ ncell bn
  generalize hc : C + 1 = c at *
  have perm1 : ∀ x, x ∈ c :: it :: C :: D :: X ↔ x ∈ it :: C :: c :: D :: X := fun x => by
    simp only [List.mem_cons]
    constructor <;> (rintro (h | h | h | h | h) <;> simp [h])
  have Fd : Fra (hideAll s₂.heap (it :: ([] : List (Addr × Obj)).map (·.1))) s4 (it :: C :: c :: D :: X) ⟨C, [(y, c)]⟩ (fun _ => none) ((D, lst [] 0) :: [] ++ [(it, o₀)]) :=
    ⟨Fc.keep, Fc.fresh, Fc.ns, Fc.cell, Fc.has, Fc.nd, fun x hx => (perm1 x).mp (Fc.inX x hx), fun x hx => Fc.live x ((perm1 x).mpr hx)⟩
  have g' : Go (it :: X) s₂ (it :: C :: c :: D :: X) s4 := ⟨g.1, fun b o hb e => ⟨fun q => by
    have h1 := (g.2 b o hb e).1
    rcases List.mem_cons.mp ((perm1 b).mpr q) with q | q
    · exact absurd q.symm (far (lt e))
    · exact h1 q, (g.2 b o hb e).2⟩⟩
  have hit' : it ∉ C :: c :: D :: X := fun q => by
    have nd := Fd.nd
    simp only [Fm.adr, List.map_cons, List.map_nil, List.cons_append, List.nil_append, List.nodup_cons, List.mem_cons, List.not_mem_nil, or_false, not_or] at nd
    rcases List.mem_cons.mp q with q | q
    · exact nd.1.2.2 q.symm
    · rcases List.mem_cons.mp q with q | q
      · exact nd.2.1.2 q.symm
      · rcases List.mem_cons.mp q with q | q
        · exact nd.2.2.1 q.symm
        · exact hit q
  have loop : codeAny (model p w) A (.compLoop (.ListComp elt [⟨target, iter, ifs, 0⟩] scope pos) 0 (.ref it) (.ref D) (compEnvC scope ((y, c) :: cl) C env)) (compPost (model p w) A NoE use Q (.ref D) C) s4 := by
    refine comp_gen (s₂ := s₂) (X₂ := X) Fd hio hit' hn S (fun b o _ e => k.get e) (fun x hx => by simp [hx]) (fun b o hb e q => (g'.2 b o hb e).1 (List.mem_cons_of_mem _ q)) (fun i s ys m rest => rest = [] ∧ P (it :: C :: c :: D :: X) i s ys) ⟨rfl, h0 _ _ _ _ g'⟩ ?_ ?_
    · intro i v s₀ s₁ ys k' m₁ rest₁ o hi hv g0 ⟨er, hP⟩ g1 F1
      subst er
      refine wpAny_mono (turn C c D i v s₀ s₁ ys k' m₁ o _ hi hv (g'.trans g0) hP g1 (fun b o hb e => hideAll_get _ e (by simp [hb])) (base_hide F') F1) (fun _ s' h1 => wpAny_mono h1 (fun ok s₃ h2 => ?_) fun _ _ h => h) fun _ _ h => h
      cases ok with
      | true =>
        simp only [if_true] at h2 ⊢
        refine wpAny_mono h2 (fun x s₄ ⟨m₂, F4, g4, h4⟩ => ⟨m₂, [], F4, g4, fun s₅ g5 => ⟨rfl, h4 s₅ g5⟩⟩) fun _ _ h => h
      | false =>
        simp only [Bool.false_eq_true, if_false] at h2 ⊢
        obtain ⟨m₂, F4, g4, h4⟩ := h2
        exact ⟨m₂, [], F4, g4, rfl, h4⟩
    · intro s₀ s₁ ys k' m₁ rest₁ g0 ⟨er, hP⟩ g1 F1
      subst er
      obtain ⟨m2, F1'⟩ := F1.dropCell (X2 := C :: D :: X) (fun x hx => by
        simp only [List.mem_cons] at hx ⊢
        rcases hx with h | h | h | h <;> simp [h]) (fun x hx => by
        simp only [List.mem_cons] at hx ⊢
        rcases hx with h | h | h <;> simp [h])
      obtain ⟨oC, hoC, hnsC, F2⟩ := comp_back F' hit nC F1' rfl
      rw [List.append_nil] at F2
      have fz : Go (C :: c :: D :: X) s₁ (C :: X) s₁ := ⟨⟨rfl, rfl⟩, fun b o h e => ⟨fun q => h (by
        rcases List.mem_cons.mp q with q | q
        · simp [q]
        · simp [q]), e⟩⟩
      refine done C c D s₀ s₁ ys k' oC _ (g'.trans g0) hP (g1.trans fz) (fun q => nC (List.mem_cons_of_mem _ q)) (fun q => ?_) (F1.has (_, lst ys k') (by simp)) hnsC F2
      rcases List.mem_cons.mp q with q | q
      · exact nC (q ▸ List.mem_cons_self)
      · exact nD q
  exact codeAny_compStart_list loop (wpAny_mono (S.again _ o₀ (Fd.has (it, o₀) (by simp)) hio _ loop) (fun _ _ h => h) fun _ _ h => h.elim)

theorem comp_useC {s₁ : Shared} {C D c : Addr} {oC : Obj} {ys : List Value} {k : Nat} {mC : Str → Option Value} {y : Str} {py : Pos} {Q : Value → Shared → Prop} (F : Fra B s₁ (C :: X) φ m (own ++ [(C, oC)])) (hCX : C ∉ X) (hD : D ∉ C :: X) (hl : s₁.heap.get? D = some (lst ys k)) (hns : s₁.heap.Ns C mC)
    (h : ∀ s₆, Go (C :: X) s₁ X s₆ → Fra B s₆ X φ (upd m y (.ref D)) own → D ∉ X → s₆.heap.get? D = some (lst ys k) → Q .none s₆)
    (hk : env.scope.kind = .function := by rfl) (hy : env.kindOf y = some .cell := by rfl) (hc : φ.cs.lookup y = some c := by rfl) (he : env.cells.lookup y = some c := by rfl) :
    compPost (model p w) A NoE (some (assign (.Name y py) env)) Q (.ref D) C (.ok .next) s₁ := by
  show wpAny (model p w) A (assign (.Name y py) env (.ref D)) _ _ _
  refine wpAny_assign_Name (r_storeC F ?_ hk hy hc he)
  intro s₂ g2 F2
  have hC1 : s₁.heap.get? C = some oC := F.has (C, oC) (by simp)
  have hC2 : s₂.heap.get? C = some oC := F2.has (C, oC) (by simp)
  refine ⟨mC, ns_keeps hns fun o e => by rw [hC1] at e; cases e; exact hC2, fun h' hs => ?_⟩
  obtain ⟨F3, _, _⟩ := F2.freeze
  have hl2 := g2.2 D _ hD hl
  have g : Go (C :: X) s₂ X { s₂ with heap := h' } := ⟨⟨rfl, rfl⟩, fun b o hb e => ⟨fun q => hb (by simp [q]), hs.extBut b o (fun q => hb (by simp [q])) e⟩⟩
  exact h _ (g2.trans g) (F3.ext hCX (F2.fresh C (by simp)) hs.extBut) (fun q => hD (by simp [q])) (hs.extBut D _ (fun q => hD (by simp [q])) hl2.2)
end
end Mine
end

-- CompB
section
open PySem PySem.W PyProof.Rows
set_option maxRecDepth 100000
set_option linter.all false
namespace Mine
section
variable {p : Program} {w : World} {A : Around} {s : Shared} {env : Env} {B : Heap} {X : List Addr} {φ : Fm} {m : Str → Option Value} {own : List (Addr × Obj)}
theorem comp_abs1 {y : Str} {s₂ : Shared} {it : Addr} {o₀ : Obj} {elt target iter : Expr} {ifs : List Expr} {scope : Scope} {cl : List (Str × Addr)} {pos : Pos} {use : Option (Value → Sem Unit)} {Q : Value → Shared → Prop} {n : Nat} {IO : Nat → Obj → Prop} {V : Nat → Value → Prop}
    (F : Fra B s₂ (it :: X) φ m (own ++ [(it, o₀)])) (hio : IO 0 o₀) (hit : it ∉ X) (S : Src p w A s₂ it X n IO V) (hn : n ≤ sizeLine) (hcf : ∀ n acc, cellsFrom n scope.names acc = (y, n) :: acc) (hpc : ∀ h, pushCells h scope.names = h.push cellObj)
    (P : List Addr → Nat → Shared → List Value → Prop)
    (h0 : ∀ C c D s₄, Go (it :: X) s₂ (it :: C :: c :: D :: X) s₄ → P (it :: C :: c :: D :: X) 0 s₄ [])
    (turn : ∀ C c D i v s₀ s₁ ys k m₁ o B' (Q1 : Value → Shared → Prop) (Q2 : Shared → Prop), i < n → V i v → Go (it :: X) s₂ (it :: C :: c :: D :: X) s₀ → P (it :: C :: c :: D :: X) i s₀ ys → Go (it :: C :: c :: D :: X) s₀ (it :: C :: c :: D :: X) s₁ → (∀ b o, b ≠ it → s₂.heap.get? b = some o → B'.get? b = some o) → (∀ b o, B.get? b = some o → B'.get? b = some o) →
      Fra B' s₁ (it :: C :: c :: D :: X) ⟨C, [(y, c)]⟩ m₁ [(D, lst ys k), (it, o)] →
      (∀ x s₄ m₂, Fra B' s₄ (it :: C :: c :: D :: X) ⟨C, [(y, c)]⟩ m₂ [(D, lst ys k), (it, o)] → Go (it :: C :: c :: D :: X) s₁ (it :: C :: c :: D :: X) s₄ → (∀ s₅, Go (it :: C :: c :: D :: X) s₄ (it :: C :: c :: D :: X) s₅ → P (it :: C :: c :: D :: X) (i + 1) s₅ (ys ++ [x])) → Q1 x s₄) →
      (∀ s₃ m₂, Fra B' s₃ (it :: C :: c :: D :: X) ⟨C, [(y, c)]⟩ m₂ [(D, lst ys k), (it, o)] → Go (it :: C :: c :: D :: X) s₁ (it :: C :: c :: D :: X) s₃ → P (it :: C :: c :: D :: X) (i + 1) s₃ ys → Q2 s₃) →
      W p w A (assign target (compEnvC scope ((y, c) :: cl) C env) v) (fun _ s₂' => W p w A (tests ifs (compEnvC scope ((y, c) :: cl) C env)) (fun ok s₃ => if ok = true then W p w A (eval elt (compEnvC scope ((y, c) :: cl) C env)) Q1 s₃ else Q2 s₃) s₂') s₁)
    (done : ∀ C c D s₀ s₁ ys k oC mC, Go (it :: X) s₂ (it :: C :: c :: D :: X) s₀ → P (it :: C :: c :: D :: X) n s₀ ys → Go (it :: C :: c :: D :: X) s₀ (C :: X) s₁ → C ∉ X → D ∉ C :: X → s₁.heap.get? D = some (lst ys k) → s₁.heap.Ns C mC → Fra B s₁ (C :: X) φ m (own ++ [(C, oC)]) → compPost (model p w) A NoE use Q (.ref D) C (.ok .next) s₁) :
    CompK p w A env (.ListComp elt [⟨target, iter, ifs, 0⟩] scope pos) scope cl use Q (.ref it) s₂ :=
  comp_pure1 F hio hit S hn hcf hpc P h0 (fun C c D i v s₀ s₁ ys k m₁ o B' hi hv g0 hP g1 hb hB F1 => turn C c D i v s₀ s₁ ys k m₁ o B' _ _ hi hv g0 hP g1 hb hB F1 (fun _ _ m₂ F4 g4 h4 => ⟨m₂, F4, g4, h4⟩) fun _ m₂ F4 g4 h4 => ⟨m₂, F4, g4, h4⟩) done
end
end Mine
end

-- Kinds
section
open PySem PySem.W PyProof.Rows
set_option maxRecDepth 100000
set_option linter.all false
set_option autoImplicit false
namespace Mine
local macro_rules | `(tactic| walk_at "lkp") => `(tactic| first | assumption | exact upd_same | (refine lks (sne (by decide)) ?_; walk_at "lkp"))
def tab0 (good : List Bool) : List Str := good.map fun b => if b then ⟨#[43]⟩ else ⟨#[45]⟩
def tab1 (ways : List (List Nat)) (t : List Str) : List Str := (List.range t.length).map fun i => (t.getD i ⟨#[]⟩ ++ t.getD ((ways.getD 0 []).getD i 0) ⟨#[]⟩) ++ t.getD ((ways.getD 1 []).getD i 0) ⟨#[]⟩
def kindOf1 (t : List Str) (order : List Str) : List (List Nat) := order.map fun k => (List.range t.length).filter fun i => t.getD i ⟨#[]⟩ == k
/-- the order of a turn: the texts of the table, each once, rising -/
def IsOrder (t order : List Str) : Prop := order.Nodup ∧ (∀ x, x ∈ order ↔ x ∈ t) ∧ order.Pairwise (fun a b => ¬ b.cps.toList < a.cps.toList)
def tabs (good : List Bool) (ways : List (List Nat)) : Nat → List Str
  | 0 => tab0 good
  | k + 1 => tab1 ways (tabs good ways k)
def IsKinds (good : List Bool) (ways : List (List Nat)) (ks : List (List (List Nat))) : Prop := ∀ k parts, ks[k]? = some parts → ∃ order, IsOrder (tabs good ways k) order ∧ parts = kindOf1 (tabs good ways k) order
theorem tabs_len (good : List Bool) (ways : List (List Nat)) : ∀ k, (tabs good ways k).length = good.length
  | 0 => by simp [tabs, tab0]
  | k + 1 => by simp [tabs, tab1, tabs_len good ways k]
theorem tabs_at {good : List Bool} {ways : List (List Nat)} {n k i : Nat} (hg : good.length = n) (hi : i < n) : (tabs good ways (k + 1)).getD i ⟨#[]⟩ = ((tabs good ways k).getD i ⟨#[]⟩ ++ (tabs good ways k).getD ((ways.getD 0 []).getD i 0) ⟨#[]⟩) ++ (tabs good ways k).getD ((ways.getD 1 []).getD i 0) ⟨#[]⟩ := by
  have h : (tabs good ways k).length = n := (tabs_len good ways k).trans hg
  simp [tabs, tab1, h, hi]
theorem way_at {ways : List (List Nat)} {n j i : Nat} (hwl : ways.length = 2) (hj : j < 2) (hwn : ∀ way ∈ ways, way.length = n) (hwv : ∀ way ∈ ways, ∀ x ∈ way, x < n) (hi : i < n) : (ways.getD j []).getD i 0 < n := by
  have h1 : j < ways.length := by omega
  have e : ways.getD j [] = ways[j] := by simp [h1]
  rw [e]
  have hm : ways[j] ∈ ways := List.getElem_mem h1
  have hl : i < ways[j].length := by rw [hwn _ hm]; exact hi
  have e2 : ways[j].getD i 0 = ways[j][i] := by simp [hl]
  rw [e2]
  exact hwv _ hm _ (List.getElem_mem hl)
theorem str_len_add (x y : Str) : (x ++ y).length = x.length + y.length := by
  show (x.cps ++ y.cps).size = _
  rw [Array.size_append]; rfl
theorem tabs_size {good : List Bool} {ways : List (List Nat)} {n : Nat} (hg : good.length = n) (hwl : ways.length = 2) (hwn : ∀ way ∈ ways, way.length = n) (hwv : ∀ way ∈ ways, ∀ x ∈ way, x < n) : ∀ k i, i < n → ((tabs good ways k).getD i ⟨#[]⟩).length = 3 ^ k
  | 0, i, hi => by
    have : i < good.length := by omega
    simp only [tabs, tab0]
    rw [List.getD_eq_getElem?_getD, List.getElem?_map, List.getElem?_eq_getElem this]
    simp only [Option.map_some, Option.getD_some]
    split <;> rfl
  | k + 1, i, hi => by
    rw [tabs_at hg hi, str_len_add, str_len_add, tabs_size hg hwl hwn hwv k i hi, tabs_size hg hwl hwn hwv k _ (way_at hwl (by omega) hwn hwv hi), tabs_size hg hwl hwn hwv k _ (way_at hwl (by omega) hwn hwv hi), Nat.pow_succ]
    omega
theorem cell_up {s s' : Shared} {c it : Addr} {B' : Heap} {X' : List Addr} {φ' : Fm} {m' : Str → Option Value} {own' : List (Addr × Obj)} {v : Option Value} (h : s.heap.IsCell c v) (hne : c ≠ it) (hB : ∀ b o, b ≠ it → s.heap.get? b = some o → B'.get? b = some o) (F' : Fra B' s' X' φ' m' own') : s'.heap.IsCell c v := by
  obtain ⟨o, e, d⟩ := h
  exact ⟨o, F'.keep _ _ (hB _ _ hne e), d⟩
theorem o43 : Str.ofString "+" = ⟨#[43]⟩ := by decide +kernel
theorem o45 : Str.ofString "-" = ⟨#[45]⟩ := by decide +kernel
section
variable {p : Program} {w : World} {A : Around} {s : Shared} {X : List Addr} {mg mb : Str → Option Value}

/-- what stands at a head of the loop -/
inductive K1 (good : List Bool) (ways : List (List Nat)) (X' : List Addr) (aK ag aw : Addr) (i : Nat) (s : Shared) (m : Str → Option Value) (own : List (Addr × Obj)) : Prop
  | mk (vs : List Value) (nv : Nat) (ks : List (List (List Nat))) (vt : Value) (e : own = [(aK, lst vs nv)]) (q1 : m "kinds" = some (.ref aK)) (q2 : m "table" = some vt) (q3 : m "good" = some (.ref ag)) (q4 : m "ways" = some (.ref aw)) (q5 : RList RStr s.heap X' vt (tabs good ways i)) (q6 : All2 (RPs s.heap X') vs ks) (q7 : ks.length = i) (q8 : IsKinds good ways ks)
set_option maxHeartbeats 1000000 in
theorem kinds_spec {k n : Nat} {v1 v2 : Value} {good : List Bool} {ways : List (List Nat)} {Q : Value → Shared → Prop} (G : Gd w mg mb s.heap) (lv : Liv s X) (hA : Rm A (k + 3))
    (hg : RList RBool s.heap X v1 good) (hw : RPs s.heap X v2 ways) (hgn : good.length = n) (hn2 : n ≤ 6) (hwl : ways.length = 2) (hwn : ∀ way ∈ ways, way.length = n) (hwv : ∀ way ∈ ways, ∀ x ∈ way, x < n)
    (h : ∀ s' r ks, Kept s s' → RList RPs s'.heap X r ks → ks.length = n → IsKinds good ways ks → Q r s') : W p w A (call (.ref 115) [v1, v2]) Q s := by
  refine enterC (k := k + 2) (mv := []) (binds := [("good", v1), ("ways", v2)]) G lv (fun _ h => nomatch h) (fun _ h => nomatch h) .nil hA rfl rfl rfl rfl rfl rfl (fun L x hx => ?_) (fun L => ?_) rfl rfl rfl ?_
  · simp at hx; rcases hx with h | h <;> subst h
    · exact .inr ⟨rfl, rfl⟩
    · exact .inr ⟨rfl, rfl⟩
  · show List.Nodup [("table" : Str), "ways", "good"]; decide
  intro s₁ L hLX g1 k1 hA1 F0
  refine wp_gen fun Q0 hQ0 => ?_
  have cr : cadr L 115 = [L, L + 3, L + 2, L + 1] := rfl
  rw [cr] at hLX g1 F0
  obtain ⟨m, F1, m1, m2⟩ : ∃ m, Fra s.heap s₁ ([L, L + 3, L + 2, L + 1] ++ X) ⟨L, [("table", L + 3), ("ways", L + 2), ("good", L + 1)]⟩ m [] ∧ m "good" = some v1 ∧ m "ways" = some v2 := ⟨_, F0, rfl, rfl⟩
  clear F0
  generalize hY : [L, L + 3, L + 2, L + 1] ++ X = Y at *
  obtain ⟨ag, vsg, ng, rfl, agX, hag, hagr⟩ := hg
  obtain ⟨ag1X, hag1⟩ := g1.2 ag _ agX hag
  have lgl : vsg.length = n := hagr.len.trans hgn
  refine wpAny_execs_cons (wpAny_Assign_Name (wp_gen fun Qa hQa => r_listcomp rfl rfl (by decide) (fun _ => rfl) (r_cell (c := L + 1) F1 m1 ?_)))
  refine it_list hA1.handled F1 hag1 ag1X ?_
  intro s2 it io IO hit g2 F2 hio S
  refine comp_abs (own := []) F2 hio hit S (by rw [lgl]; exact Nat.le_trans hn2 (by decide)) (by decide) rfl
    (fun X' i s ys => All2 (RStr s.heap X') ys (tab0 (good.take i))) (fun C D s₄ g => .nil) ?_ ?_
  · intro C D i v s₀ s3 zs c m₃ o B' Q1 Q2 hi hv g0 hP g3 hB1 hB2 F3 hN hE
    refine wpAny_assign_Name (r_store F3 ?_)
    intro s4 g4 F4
    refine wpAny_tests_nil ?_
    simp only [if_true]
    obtain ⟨b, hb, eb⟩ := hagr.get hv
    have eb' : v = .bool b := eb
    subst eb'
    have tk : tab0 (good.take (i + 1)) = tab0 (good.take i) ++ [if b then ⟨#[43]⟩ else ⟨#[45]⟩] := by rw [List.take_add_one, hb]; simp [tab0]
    refine wpAny_IfExp (isTrue_plain (r_loc F4 (by walk_at "lkp") (wpAny_truthy_bool ?_)))
    cases b with
    | true =>
      simp only [if_true]
      rw [if_pos rfl] at tk
      refine r_strC o43 fun s5 t5 k5 => ?_
      exact hN _ _ _ (F4.tk k5) (g4.trans (k5.go _)) fun s6 g6 => by rw [tk]; exact (hP.imp fun _ _ h => h).snoc ⟨t5, rfl⟩
    | false =>
      simp only [Bool.false_eq_true, if_false]
      rw [if_neg Bool.false_ne_true] at tk
      refine r_strC o45 fun s5 t5 k5 => ?_
      exact hN _ _ _ (F4.tk k5) (g4.trans (k5.go _)) fun s6 g6 => by rw [tk]; exact (hP.imp fun _ _ h => h).snoc ⟨t5, rfl⟩
  intro C D s₀ s3 zs c oC mC g0 hP g3 hCX hDX hD hns F3
  refine comp_val F3 hCX hDX hD hns ?_
  intro s4 g4 F4 hDX' hD'
  refine hQa _ _ ?_
  rw [lgl, ← hgn, List.take_length] at hP
  have ht4 : RList RStr s4.heap Y (.ref D) (tabs good ways 0) := ⟨D, zs, c, rfl, hDX', hD', hP.imp fun _ _ h => h⟩
  refine r_storeC (c := L + 3) F4 fun s5 g5 F5 => ?_
  have g05 := g2.trans (g0.trans (g3.trans (g4.trans g5)))
  refine wpAny_execs_cons (wpAny_Assign_Name (List_ (args_nil (r_newListO F5 ?_))))
  intro s6 aK aKX g6 F6
  refine r_store F6 fun s7 g7 F7 => ?_
  have g57 : Go Y s5 (aK :: Y) s7 := g6.trans g7
  have gs7 := g1.trans (g05.trans g57)
  have hg7 : RList RBool s7.heap (aK :: Y) (.ref ag) good := mList mBool gs7 ⟨ag, vsg, ng, rfl, agX, hag, hagr⟩
  have hw7 := mPs gs7 hw
  obtain ⟨aw, vsw, nw, rfl, awX7, haw7, hawr7⟩ := hw7
  obtain ⟨ag', vsg', ng', e, agX7, hag7, hagr7⟩ := hg7
  cases e
  have hb7 : vsg'.length = n := hagr7.len.trans hgn
  refine wpAny_execs_cons (wpAny_For ?_)
  refine ct1 G F7 boot_range ?_
  refine cb1 G F7 boot_len (r_cell (c := L + 1) F7 (by walk_at "lkp") (r_len hag7 (by rw [hb7]; omega) fun s8 t8 k8 => ?_))
  rw [hb7]
  refine r_range (F7.tk k8) ?_
  intro s9 ra tt uu vv k9 F9 raX hra
  refine it_range hA1.handled F9 hra (by omega) ?_
  intro s10 it1 io1 IO1 hit1 g10 F10 hio1 S1
  have g710 := (k8.go (aK :: Y)).trans ((k9.go _).trans g10)
  refine loop_abs _ _ _ F10 hio1 hit1 S1 (fun i s m own => K1 good ways (it1 :: aK :: Y) aK ag aw i s m own) ?_ ?_ ?_
  · exact ⟨[], _, [], .ref D, rfl, by walk_at "lkp", by walk_at "lkp", by walk_at "lkp", by walk_at "lkp", mList mStr (g5.trans (g57.trans g710)) ht4, .nil, rfl, fun k parts h => by simp at h⟩
  · intro i v s₀' s11 m₁ own₁ o Qt hi hv g0' hP g011 F11 hQt
    obtain ⟨ti, rfl⟩ := hv
    obtain ⟨vs, nv, ks, vt, rfl, q1, q2, q3, q4, q5, q6, q7, q8⟩ := hP
    refine wpAny_assign_Name (r_store F11 fun s12 g12 F12 => ?_)
    have g12' := g011.trans g12
    have len_t : (tabs good ways i).length = n := (tabs_len good ways i).trans hgn
    obtain ⟨at1, vst, nt, rfl, atX, hat, hatr⟩ := mList mStr g12' q5
    have gw : Go (aK :: Y) s7 (it1 :: aK :: Y) s12 := g710.trans (g0'.trans g12')
    -- order = sorted(set(table))
    refine wpAny_execs_cons (wpAny_Assign_Name ?_)
    refine cb1 G F12 boot_sorted ?_
    refine ct1 G F12 boot_set ?_
    refine r_cell (c := L + 3) F12 (by walk_at "lkp") ?_
    refine call_set hA1.handled hat (hatr.imp fun _ _ h => h) (by rw [len_t]; show n + 1 < 4096; omega) fun s13 S0 k13 hS0 hSK => ?_
    refine sorted_set hA1.handled hSK (by have := dd_len (tabs good ways i); omega) fun s14 O0 os ord nO k14 hO0 hO hos hperm hpw => ?_
    have F14 := (F12.kept k13).kept k14
    have OX : O0 ∉ it1 :: aK :: Y := fun q => by
      obtain ⟨o, ho⟩ := (F12.kept k13).live O0 q
      rw [hO0] at ho; cases ho
    have hord : IsOrder (tabs good ways i) ord := by
      obtain ⟨d1, d2⟩ := dd_ok (tabs good ways i)
      exact ⟨hperm.nodup_iff.mpr d1, fun x => (hperm.mem_iff).trans (d2 x), hpw⟩
    refine r_store F14 fun s15 g15 F15 => ?_
    have g1215 : Go (it1 :: aK :: Y) s12 (it1 :: aK :: Y) s15 := (k13.go _).trans ((k14.go _).trans g15)
    have hO15 := g15.2 O0 _ OX hO
    obtain ⟨atX15, hat15⟩ := g1215.2 at1 _ atX hat
    have gw15 := gw.trans g1215
    obtain ⟨agX15, hag15⟩ := gw15.2 ag _ agX7 hag7
    have lens : os.length ≤ 6 := by rw [hos.len, hperm.length_eq]; have := dd_len (tabs good ways i); omega
    -- kinds.append
    refine wpAny_execs_cons (wpAny_Expr_any (MC (r_loc F15 (by walk_at "lkp") (r_method_append (F15.at (k := 0) rfl) (CM1 (AC ?_))))))
    refine wp_gen fun Qb hQb => ?_
    refine r_listcomp rfl rfl (by decide) (fun _ => rfl) (r_loc F15 (by walk_at "lkp") ?_)
    refine it_list hA1.handled F15 hO15.2 hO15.1 ?_
    intro s16 it2 io2 IO2 hit2 g16 F16 hio2 S2
    refine comp_abs1 (y := "kind") (own := [(aK, lst vs nv), (it1, o)]) F16 hio2 hit2 S2 (Nat.le_trans lens (by decide)) (fun n acc => rfl) (fun h => rfl)
      (fun X' j s ys => All2 (RList RNat s.heap X') ys (kindOf1 (tabs good ways i) (ord.take j))) (fun C c D s₄ g => .nil) ?_ ?_
    · intro C c D j v s₀'' s17 zs c' m₃ o3 B' Q1 Q2 hj hv g0'' hP g17 hB1 hB2 F17 hN hE
      obtain ⟨kv, hkv, tkv, rfl⟩ := hos.get hv
      refine wpAny_assign_Name (r_storeC (c := c) F17 ?_)
      intro s18 g18 F18
      refine wpAny_tests_nil ?_
      simp only [if_true]
      have cG : ∀ {s' X' φ' m' own'}, Fra B' s' X' φ' m' own' → s'.heap.IsCell (L + 1) (some (.ref ag)) := fun F' => cell_in (x := "good") (own := [(aK, lst vs nv), (it1, o)]) F16 hB1 F' rfl (by walk_at "lkp")
      have cT : ∀ {s' X' φ' m' own'}, Fra B' s' X' φ' m' own' → s'.heap.IsCell (L + 3) (some (.ref at1)) := fun F' => cell_in (x := "table") (own := [(aK, lst vs nv), (it1, o)]) F16 hB1 F' rfl (by walk_at "lkp")
      have gA : Go (it1 :: aK :: Y) s15 (it2 :: C :: c :: D :: it1 :: aK :: Y) s18 := g16.trans (g0''.trans (g17.trans g18))
      obtain ⟨agX18, hag18⟩ := gA.2 ag _ agX15 hag15
      obtain ⟨atX18, hat18⟩ := gA.2 at1 _ atX15 hat15
      refine r_listcomp rfl rfl (by decide) (fun _ => rfl) ?_
      refine ct1 (G.keeps hB2) F18 boot_range ?_
      refine cb1 (G.keeps hB2) F18 boot_len (r_cellB (cG F18) (r_len hag18 (by rw [hb7]; omega) fun s19 t19 k19 => ?_))
      rw [hb7]
      refine r_range (F18.tk k19) ?_
      intro s20 ra2 tt2 uu2 vv2 k20 F20 ra2X hra2
      refine it_range hA1.handled F20 hra2 (by omega) ?_
      intro s21 it3 io3 IO3 hit3 g21 F21 hio3 S3
      have gB := (k19.go (it2 :: C :: c :: D :: it1 :: aK :: Y)).trans ((k20.go _).trans g21)
      obtain ⟨atX21, hat21⟩ := gB.2 at1 _ atX18 hat18
      have hcT := cT F21
      have hcK : s21.heap.IsCell c (some (.str kv tkv)) := by
        have := F21.cell "kind" c rfl
        rw [show upd m₃ "kind" (.str kv tkv) "kind" = some (.str kv tkv) from upd_same] at this
        exact this
      have LY : L + 3 ∈ Y := by rw [← hY]; simp
      have neT : L + 3 ≠ it3 := fun q => hit3 (by rw [← q]; simp [LY])
      have neK : c ≠ it3 := fun q => hit3 (by rw [← q]; simp)
      refine comp_abs (own := [(D, lst zs c'), (it2, o3)]) F21 hio3 hit3 S3 (Nat.le_trans hn2 (by decide)) (by decide) rfl
        (fun X' j s ys => All2 (RNat s.heap X') ys ((List.range j).filter fun st => (tabs good ways i).getD st ⟨#[]⟩ == kv)) (fun C D s₄ g => .nil) ?_ ?_
      · intro C2 D2 j2 v2 s₀3 s22 zs2 c2 m₄ o4 B2 Q3 Q4 hj2 hv2 g0_3 hP2 g22 hB3 hB4 F22 hN2 hE2
        obtain ⟨tj2, rfl⟩ := hv2
        refine wpAny_assign_Name (r_store F22 ?_)
        intro s23 g23 F23
        have gC := g0_3.trans (g22.trans g23)
        obtain ⟨atX23, hat23⟩ := gC.2 at1 _ atX21 hat21
        have hj3 : j2 < vst.length := by rw [hatr.len, len_t]; exact hj2
        obtain ⟨x, hx, tx, ex⟩ := hatr.get (List.getElem?_eq_getElem hj3)
        have hv23 : vst[j2]? = some (.str x tx) := by rw [List.getElem?_eq_getElem hj3, ex]
        have hxd : (tabs good ways i).getD j2 ⟨#[]⟩ = x := by rw [List.getD_eq_getElem?_getD, hx]; rfl
        refine wpAny_tests_one (wpAny_isTrue_Compare1 (Subscript_ (r_cellB (cell_up hcT neT hB3 F23) (r_loc F23 (by walk_at "lkp") (r_item hat23 (by omega) hv23 ?_)))))
        refine r_cellB (cell_up hcK neK hB3 F23) (r_eqS (wpAny_truthy_bool ?_))
        have tk : (List.range (j2 + 1)).filter (fun st => (tabs good ways i).getD st ⟨#[]⟩ == kv) = (List.range j2).filter (fun st => (tabs good ways i).getD st ⟨#[]⟩ == kv) ++ [j2].filter (fun st => (tabs good ways i).getD st ⟨#[]⟩ == kv) := by rw [List.range_succ, List.filter_append]
        by_cases hxk : x = kv
        · rw [decide_eq_true hxk]
          refine r_loc F23 (by walk_at "lkp") (hN2 _ _ _ F23 g23 fun s24 g24 => ?_)
          rw [tk, List.filter_cons_of_pos (by rw [hxd, hxk]; simp), List.filter_nil]
          exact (hP2.imp fun _ _ h => h).snoc ⟨tj2, rfl⟩
        · rw [decide_eq_false hxk]
          refine hE2 _ _ F23 g23 ?_
          rw [tk, List.filter_cons_of_neg (by rw [hxd]; simpa using hxk), List.filter_nil, List.append_nil]
          exact hP2.imp fun _ _ h => h
      · intro C2 D2 s₀3 s22 zs2 c2 oC2 mC2 g0_3 hP2 g22 hCX2 hDX2 hD2 hns2 F22
        refine comp_val F22 hCX2 hDX2 hD2 hns2 ?_
        intro s23 g23 F23 hDX2' hD2'
        refine hN _ _ _ F23 (g18.trans (gB.trans (g0_3.trans (g22.trans g23)))) fun s24 g24 => ?_
        obtain ⟨q1, q2⟩ := g24.2 D2 _ hDX2' hD2'
        have tk : kindOf1 (tabs good ways i) (ord.take (j + 1)) = kindOf1 (tabs good ways i) (ord.take j) ++ [(List.range n).filter fun st => (tabs good ways i).getD st ⟨#[]⟩ == kv] := by
          rw [List.take_add_one, hkv]; simp [kindOf1, len_t]
        rw [tk]
        refine (hP.imp fun _ _ h => mList mNat (g17.trans (g18.trans (gB.trans (g0_3.trans (g22.trans (g23.trans g24)))))) h).snoc ⟨D2, zs2, c2, rfl, q1, q2, hP2.imp fun _ _ h => h⟩
    · intro C c D s₀'' s17 zs c' oC mC g0'' hP g17 hCX hDX hD hns F17
      refine comp_val F17 hCX hDX hD hns ?_
      intro s18 g18 F18 hDX' hD'
      refine hQb _ _ ?_
      rw [hos.len, List.take_length] at hP
      refine args_nil (r_append F18 0 rfl ?_ ?_)
      · intro s19 g19 F19
        have gU : Go (it1 :: aK :: Y) s15 (it1 :: aK :: Y) s19 := g16.trans (g0''.trans (g17.trans (g18.trans g19)))
        have hnew : RPs s19.heap (it1 :: aK :: Y) (.ref D) (kindOf1 (tabs good ways i) ord) := by
          obtain ⟨q1, q2⟩ := g19.2 D _ hDX' hD'
          exact ⟨D, zs, c', rfl, q1, q2, hP.imp fun _ _ h => mList mNat (g17.trans (g18.trans g19)) h⟩
        obtain ⟨atX19, hat19⟩ := gU.2 at1 _ atX15 hat15
        obtain ⟨agX19, hag19⟩ := gU.2 ag _ agX15 hag15
        have gw19 := gw15.trans gU
        obtain ⟨awX19, haw19⟩ := gw19.2 aw _ awX7 haw7
        -- table = ..
        refine wpAny_execs_cons (wpAny_Assign_Name (wp_gen fun Qc hQc => r_listcomp rfl rfl (by decide) (fun _ => rfl) ?_))
        refine ct1 G F19 boot_range ?_
        refine cb1 G F19 boot_len (r_cell (c := L + 1) F19 (by walk_at "lkp") (r_len hag19 (by rw [hb7]; omega) fun s20 t20 k20 => ?_))
        rw [hb7]
        refine r_range (F19.tk k20) ?_
        intro s21 ra2 tt2 uu2 vv2 k21 F21 ra2X hra2
        refine it_range hA1.handled F21 hra2 (by omega) ?_
        intro s22 it3 io3 IO3 hit3 g22 F22 hio3 S3
        have gV := (k20.go (it1 :: aK :: Y)).trans ((k21.go _).trans g22)
        refine comp_abs (own := [(aK, lst (vs ++ [.ref D]) (nv + 1)), (it1, o)]) F22 hio3 hit3 S3 (Nat.le_trans hn2 (by decide)) (by decide) rfl
          (fun X' j s ys => All2 (RStr s.heap X') ys ((List.range j).map fun st => (tabs good ways (i + 1)).getD st ⟨#[]⟩)) (fun C D s₄ g => .nil) ?_ ?_
        · intro C2 D2 j2 v2 s₀3 s23 zs2 c2 m₄ o4 B2 Q3 Q4 hj2 hv2 g0_3 hP2 g23 hB3 hB4 F23 hN2 hE2
          obtain ⟨tj2, rfl⟩ := hv2
          refine wpAny_assign_Name (r_store F23 ?_)
          intro s24 g24 F24
          refine wpAny_tests_nil ?_
          simp only [if_true]
          have gC := gV.trans (g0_3.trans (g23.trans g24))
          obtain ⟨atX24, hat24⟩ := gC.2 at1 _ atX19 hat19
          obtain ⟨awX24, haw24⟩ := gC.2 aw _ awX19 haw19
          have cT : ∀ {s' X' φ' m' own'}, Fra B2 s' X' φ' m' own' → s'.heap.IsCell (L + 3) (some (.ref at1)) := fun F' => cell_in (x := "table") (own := [(aK, lst (vs ++ [.ref D]) (nv + 1)), (it1, o)]) F22 hB3 F' rfl (by walk_at "lkp")
          have cW : ∀ {s' X' φ' m' own'}, Fra B2 s' X' φ' m' own' → s'.heap.IsCell (L + 2) (some (.ref aw)) := fun F' => cell_in (x := "ways") (own := [(aK, lst (vs ++ [.ref D]) (nv + 1)), (it1, o)]) F22 hB3 F' rfl (by walk_at "lkp")
          -- a text of the table
          have tAt : ∀ st, st < n → ∃ tx, vst[st]? = some (.str ((tabs good ways i).getD st ⟨#[]⟩) tx) := fun st hst => by
            have h3 : st < vst.length := by rw [hatr.len, len_t]; exact hst
            obtain ⟨x, hx, tx, ex⟩ := hatr.get (List.getElem?_eq_getElem h3)
            exact ⟨tx, by rw [List.getElem?_eq_getElem h3, ex, List.getD_eq_getElem?_getD, hx]; rfl⟩
          have wAt : ∀ j, j < 2 → ∃ a vs n2, vsw[j]? = some (.ref a) ∧ s24.heap.get? a = some (lst vs n2) ∧ ∃ tx, vs[j2]? = some (.int ((ways.getD j []).getD j2 0 : Nat) tx) := fun j hj => by
            have h1 : j < ways.length := by omega
            obtain ⟨u, hu, hR⟩ := hawr7.get' (List.getElem?_eq_getElem h1)
            obtain ⟨a, us, n2, e, _, ha, har⟩ := mList mNat (gw19.trans gC) hR
            subst e
            have hl : j2 < ways[j].length := by rw [hwn _ (List.getElem_mem h1)]; exact hj2
            obtain ⟨z, hz, tz, ez⟩ := har.get' (List.getElem?_eq_getElem hl)
            refine ⟨a, us, n2, hu, ha, tz, ?_⟩
            rw [hz, ez]
            simp [h1, hl]
          obtain ⟨t0, ht0⟩ := tAt j2 hj2
          have w0 := way_at (j := 0) hwl (by omega) hwn hwv hj2
          have w1 := way_at (j := 1) hwl (by omega) hwn hwv hj2
          obtain ⟨ta, hta⟩ := tAt _ w0
          obtain ⟨tb, htb⟩ := tAt _ w1
          obtain ⟨aa, va, na, a1, a2, tx1, a3⟩ := wAt 0 (by omega)
          obtain ⟨ab, vb, nb, b1, b2, tx2, b3⟩ := wAt 1 (by omega)
          have z0 := tabs_size hgn hwl hwn hwv i j2 hj2
          have z1 := tabs_size hgn hwl hwn hwv i _ w0
          have z2 := tabs_size hgn hwl hwn hwv i _ w1
          have p3 : 3 ^ i ≤ 3 ^ 6 := Nat.pow_le_pow_right (by decide) (by omega)
          have p36 : 3 ^ 6 = 729 := by decide
          refine wpAny_BinOp (wpAny_BinOp (Subscript_ (r_cellB (cT F24) (r_loc F24 (by walk_at "lkp") (r_item hat24 (by omega) ht0 ?_)))))
          refine Subscript_ (r_cellB (cT F24) ?_)
          refine Subscript_ (Subscript_ (r_cellB (cW F24) (r_int fun s25 t25 k25 => r_item (i := 0) (k25.kept.get haw24) (by decide) a1 ?_)))
          have F25 := F24.tk k25
          refine r_loc F25 (by walk_at "lkp") (r_item (k25.kept.get a2) (by omega) a3 ?_)
          refine r_item (k25.kept.get hat24) (by omega) hta ?_
          refine r_addS (by rw [z0, z1]; omega) fun s26 t26 k26 => ?_
          have F26 := F25.tk k26
          have k246 : Kept s24 s26 := Go.trans k25.kept k26.kept
          refine Subscript_ (r_cellB (cT F26) ?_)
          refine Subscript_ (Subscript_ (r_cellB (cW F26) (r_int fun s27 t27 k27 => r_item (i := 1) (k27.kept.get (k246.get haw24)) (by decide) b1 ?_)))
          have F27 := F26.tk k27
          refine r_loc F27 (by walk_at "lkp") (r_item (k27.kept.get (k246.get b2)) (by omega) b3 ?_)
          refine r_item (k27.kept.get (k246.get hat24)) (by omega) htb ?_
          refine r_addS (by rw [str_len_add, z0, z1, z2]; omega) fun s28 t28 k28 => ?_
          have F28 := F27.tk k28
          have k248 : Kept s24 s28 := Go.trans k246 (Go.trans k27.kept k28.kept)
          refine hN2 _ _ _ F28 (g24.trans (k248.go _)) fun s29 g29 => ?_
          rw [List.range_succ, List.map_append, List.map_cons, List.map_nil, tabs_at hgn hj2]
          exact (hP2.imp fun _ _ h => h).snoc ⟨t28, rfl⟩
        · intro C2 D2 s₀3 s23 zs2 c2 oC2 mC2 g0_3 hP2 g23 hCX2 hDX2 hD2 hns2 F23
          refine comp_val F23 hCX2 hDX2 hD2 hns2 ?_
          intro s24 g24 F24 hDX2' hD2'
          refine hQc _ _ ?_
          refine r_storeC (c := L + 3) F24 fun s25 g25 F25 => ?_
          obtain ⟨x1, x2⟩ := g25.2 D2 _ hDX2' hD2'
          have gX : Go (it1 :: aK :: Y) s19 (it1 :: aK :: Y) s25 := gV.trans (g0_3.trans (g23.trans (g24.trans g25)))
          have gAll : Go (it1 :: aK :: Y) s11 (it1 :: aK :: Y) s25 := g12.trans (g1215.trans (gU.trans gX))
          refine wpAny_execs_nil (hQt _ _ [(aK, lst (vs ++ [.ref D]) (nv + 1))] F25 gAll ⟨vs ++ [.ref D], nv + 1, ks ++ [kindOf1 (tabs good ways i) ord], .ref D2, rfl, by walk_at "lkp", by walk_at "lkp", by walk_at "lkp", by walk_at "lkp", ?_, ?_, by simp [q7], ?_⟩).1
          · have : (List.range n).map (fun st => (tabs good ways (i + 1)).getD st ⟨#[]⟩) = tabs good ways (i + 1) := by
              have hl : (tabs good ways (i + 1)).length = n := (tabs_len good ways _).trans hgn
              apply List.ext_getElem
              · simp [hl]
              · intro a b1 b2
                simp [b2]
            rw [← this]
            exact ⟨D2, zs2, c2, rfl, x1, x2, hP2.imp fun _ _ h => h⟩
          · exact (q6.imp fun _ _ h => mPs (g011.trans gAll) h).snoc (mPs gX hnew)
          · intro k parts hk
            rw [List.getElem?_append] at hk
            split at hk
            · exact q8 k parts hk
            · rename_i hge
              have hk' := List.getElem?_eq_some_iff.mp hk
              obtain ⟨hl, he⟩ := hk'
              have : k = i := by simp at hl; omega
              subst this
              simp [q7] at he
              exact ⟨ord, hord, he.symm⟩
      · rw [q6.len, q7]; exact Nat.le_trans (show i ≤ 6 by omega) (by decide)
  · intro s₀' s11 m₁ own₁ g0' hP g011 F11
    obtain ⟨vs, nv, ks, vt, rfl, q1, q2, q3, q4, q5, q6, q7, q8⟩ := hP
    refine wpAny_execs_cons (wpAny_Return_some (r_loc F11 (by walk_at "lkp") ?_))
    have gs := gs7.trans (g710.trans (g0'.trans g011))
    have fz : Go (aK :: Y) s11 X s11 := ⟨⟨rfl, rfl⟩, fun b o h e => ⟨fun q => h (by rw [← hY]; simp [q]), e⟩⟩
    exact hQ0 _ _ (h s11 _ ks (F11.toKept gs.1) ⟨aK, vs, nv, rfl, fun q => aKX (by rw [← hY]; simp [q]), F11.at (k := 0) rfl, q6.imp fun _ _ h => mPs (g011.trans fz) h⟩ q7 q8)
end
end Mine
end

-- Dct
section
open PySem PySem.W PyProof.Rows
set_option maxRecDepth 100000
set_option linter.all false
set_option autoImplicit false
namespace Mine
section
variable {p : Program} {w : World} {A : Around} {s : Shared} {env : Env} {B : Heap} {X : List Addr} {φ : Fm} {m : Str → Option Value} {own : List (Addr × Obj)} {mg mb : Str → Option Value}
theorem sk_is (x : Str) (t : Tok) : (SK p w).is x (.str x t) = true := by show Value.isStrOf x (.str x t) = true; simp [Value.isStrOf]
theorem dictAt_of {h : Heap} {a : Addr} {o : Obj} {kvs : List (Str × Value)} (ho : h.get? a = some o) (hd : o.IsDictOf (SK p w) kvs) : h.DictOf (SK p w) a kvs := Heap.dictOf_iff.mpr ⟨o, ho, hd⟩
/-- {} that the frame owns -/
theorem r_newDict {pos : Pos} {Q : Value → Shared → Prop} (F : Fra B s X φ m own) (hbig : ∃ b o, 1 < b ∧ s.heap.get? b = some o)
    (h : ∀ s' a o, a ∉ X → (a == sysModules) = false → Go X s (a :: X) s' → Fra B s' (a :: X) φ m (own ++ [(a, o)]) → o.IsDictOf (SK p w) [] → Q (.ref a) s') : W p w A (eval (.Dict [] [] pos) env) Q s := by
  show wpAny _ _ (do standAt pos; newDict) _ _ _
  refine wpAny_bind (wpAny_standAt ?_)
  unfold newDict
  refine wpAny_newObj_type ?_ (by size_fits)
  obtain ⟨F', g, nX⟩ := F.newO (s' := { s with heap := s.heap.push { cls := .type "dict", data := .dict #[] } }) (o := { cls := .type "dict", data := .dict #[] }) rfl rfl ⟨rfl, rfl⟩
  refine h _ _ _ nX ?_ g F' ?_
  · obtain ⟨b, o, h1, h2⟩ := hbig
    have := Heap.lt_size h2
    have hne : s.heap.objs.size ≠ sysModules := by
      show s.heap.objs.size ≠ 1
      exact Nat.ne_of_gt (Nat.lt_trans h1 this)
    simpa using hne
  · obtain ⟨o, ho, hd⟩ := Heap.dictOf_iff.mp (Heap.DictOf.new (knd := SK p w) s.heap)
    rw [Heap.get?_push_size _ rfl] at ho
    cases ho; exact hd
/-- d[key] = v -/
theorem r_dset {a : Addr} {o : Obj} {kvs : List (Str × Value)} {x : Str} {t : Tok} {v : Value} {Q : Unit → Shared → Prop} (F : Fra B s X φ m own) (k : Nat) (hk : own[k]? = some (a, o)) (hd : o.IsDictOf (SK p w) kvs) (hz : kvs.length ≤ 1000)
    (h : ∀ s' o', Go X s X s' → Fra B s' X φ m (own.set k (a, o')) → o'.IsDictOf (SK p w) (stored kvs x v) → Q () s') : W p w A (setItem (.ref a) (.str x t) v) Q s := by
  refine wpAny_setItem_pairs (sk_is x t) (dictAt_of (F.at hk) hd) (fun h' hm hs => ?_) (Nat.le_trans hz (by rw [sizeLine_eq]; decide))
  obtain ⟨o', ho', hd'⟩ := Heap.dictOf_iff.mp hm
  obtain ⟨F', g⟩ := F.setO (s' := { s with heap := h', toks := s.toks + 1 }) hk hs ho' ⟨rfl, rfl⟩
  exact h _ o' g F' hd'
/-- d[key] -/
theorem r_dget {value slice : Expr} {a : Addr} {o : Obj} {kvs : List (Str × Value)} {x : Str} {t : Tok} {v : Value} {Q : Value → Shared → Prop} (ho : s.heap.get? a = some o) (hd : o.IsDictOf (SK p w) kvs) (hv : valueAt kvs x = some v) (h : ∀ s', Tk s s' → Q v s')
    (hs : subscripted slice false (.ref a) (.str x t) = operate [.ref a, .str x t] (getItem (.ref a) (.str x t)) := by with_unfolding_all rfl) :
    W p w A (subscriptTail value slice (.ref a) (.str x t)) Q s :=
  tail_any (dictAt_of ho hd).typeIs slot_dict_getitem.lookup (wpAny_getItem_of (sk_is x t) (dictAt_of ho hd).mapOf hv (h _ tk_of)) hs
/-- key not in d -/
theorem r_dnotin {a : Addr} {o : Obj} {kvs : List (Str × Value)} {x : Str} {t : Tok} {Q : Value → Shared → Prop} (ho : s.heap.get? a = some o) (ha : (a == sysModules) = false) (hd : o.IsDictOf (SK p w) kvs) (h : ∀ s', Tk s s' → Q (.bool (!(valueAt kvs x).isSome)) s') :
    W p w A (compareOp .NotIn (.str x t) (.ref a)) Q s :=
  wpAny_notIn_of (sk_is x t) ha (dictAt_of ho hd).mapOf (h _ tk_of)
/-- list(d) -/
theorem r_listD {a : Addr} {o : Obj} {kvs : List (Str × Value)} {Q : Value → Shared → Prop} (hA : A.handled = none) (ho : s.heap.get? a = some o) (ha : (a == sysModules) = false) (hd : o.IsDictOf (SK p w) kvs) (hz : kvs.length ≤ 1000)
    (h : ∀ s' D vs n, Kept s s' → s.heap.get? D = none → s'.heap.get? D = some (lst vs n) → All2 RS vs (kvs.map (·.1)) → Q (.ref D) s') : W p w A (call (.type "list") [.ref a]) Q s := by
  obtain ⟨ep, hat⟩ := (dictAt_of ho hd).dictAt
  refine kdl_call (kdl_dict (knd := SK p w) (kvs := kvs) (ep := ep) ha) hA hat (Nat.le_trans hz (by rw [sizeLine_eq]; decide)) fun h' tk acc c hk hD hI => ?_
  refine h _ s.heap.objs.size acc.toList c ⟨⟨rfl, rfl⟩, fun b o _ e => ⟨by simp, hk b o e⟩⟩ (Heap.get?_none_of_le (Nat.le_refl _)) (by rw [hD]; simp [lst]) ?_
  refine all2_of (by rw [Array.length_toList, hI.1]; simp) fun i v x hv hx => ?_
  obtain ⟨k, y, hk', hi⟩ := hI.2 i v (by rw [← Array.getElem?_toList]; exact hv)
  rw [List.getElem?_map, hk'] at hx
  cases hx
  exact Value.isStrOf_shape hi
end
end Mine
end

-- LineP
section
open PySem PySem.W PyProof.Rows
set_option maxRecDepth 100000
set_option linter.all false
set_option autoImplicit false
namespace Mine
/-! the pairs' march, in plain Lean -/
abbrev KN := Str × Nat
def keyF (names : Str) (t : Tri) : Str := sg names t.1 ++ sg names t.2.1
def odd2 (good : List Bool) (t : Tri) : Bool := decide (good.getD t.1 false ≠ good.getD t.2.1 false)
def put0 (names : Str) (good : List Bool) (pairs : List Tri) : List KN := (pairs.filter (odd2 good)).map fun t => (keyF names t, 0)
def put1 (names : Str) (k : Str) (d : Nat) (D : List KN) (t : Tri) : List KN := if t.2.2.contains k && !(D.map (·.1)).contains (keyF names t) then D ++ [(keyF names t, d + 1)] else D
def stepD (names : Str) (pairs : List Tri) (k : Str) (d : Nat) (D : List KN) : List KN := pairs.foldl (put1 names k d) D
inductive Run (names : Str) (good : List Bool) (pairs : List Tri) : List KN → Nat → Prop
  | start : Run names good pairs (put0 names good pairs) 0
  | step {D : List KN} {c : Nat} {k : Str} {d : Nat} : Run names good pairs D c → D[c]? = some (k, d) → Run names good pairs (stepD names pairs k d D) (c + 1)
inductive KV : List (Str × Value) → List KN → Prop
  | nil : KV [] []
  | cons {k : Str} {d : Nat} {t : Tok} {r : List (Str × Value)} {r' : List KN} : KV r r' → KV ((k, .int d t) :: r) ((k, d) :: r')
theorem KV.keys {a : List (Str × Value)} {D : List KN} (h : KV a D) : a.map (·.1) = D.map (·.1) := by
  induction h with
  | nil => rfl
  | cons _ ih => simp [ih]
theorem KV.len {a : List (Str × Value)} {D : List KN} (h : KV a D) : a.length = D.length := by
  induction h with
  | nil => rfl
  | cons _ ih => simp [ih]
theorem KV.snoc {a : List (Str × Value)} {D : List KN} {k : Str} {d : Nat} {t : Tok} (h : KV a D) : KV (a ++ [(k, .int d t)]) (D ++ [(k, d)]) := by
  induction h with
  | nil => exact .cons .nil
  | cons _ ih => exact .cons ih
theorem valueAt_cons (k k2 : Str) (v : Value) (r : List (Str × Value)) : valueAt ((k, v) :: r) k2 = if k = k2 then some v else valueAt r k2 := by
  unfold valueAt
  rw [List.find?_cons]
  by_cases h : k = k2
  · simp [h]
  · simp [h]
theorem KV.has {a : List (Str × Value)} {D : List KN} (h : KV a D) (k : Str) : (valueAt a k).isSome = (D.map (·.1)).contains k := by
  induction h with
  | nil => rfl
  | @cons k' d t r r' _ ih =>
    rw [valueAt_cons, List.map_cons, List.contains_cons]
    by_cases e : k' = k
    · subst e; simp
    · rw [if_neg e, ih]
      have : (k == k') = false := by simpa using fun q : k = k' => e q.symm
      rw [this, Bool.false_or]
theorem KV.val {a : List (Str × Value)} {D : List KN} (h : KV a D) (nd : (D.map (·.1)).Nodup) : ∀ {i : Nat} {k : Str} {d : Nat}, D[i]? = some (k, d) → ∃ t, valueAt a k = some (.int d t) := by
  induction h with
  | nil => intro i k d e; simp at e
  | @cons k' d' t r r' h' ih =>
    intro i k d e
    rw [valueAt_cons]
    simp only [List.map_cons, List.nodup_cons] at nd
    cases i with
    | zero => simp at e; obtain ⟨rfl, rfl⟩ := e; exact ⟨t, by simp⟩
    | succ i =>
      simp only [List.getElem?_cons_succ] at e
      have hm : k ∈ r'.map (·.1) := List.mem_map.mpr ⟨(k, d), List.mem_of_getElem? e, rfl⟩
      have hne : ¬ k' = k := fun q => nd.1 (by rw [q]; exact hm)
      rw [if_neg hne]
      exact ih nd.2 e
theorem stored_new {a : List (Str × Value)} {D : List KN} {k : Str} {v : Value} (h : KV a D) (hk : (D.map (·.1)).contains k = false) : stored a k v = a ++ [(k, v)] := by
  unfold stored
  have : a.any (fun kv => decide (kv.1 = k)) = false := by
    rw [List.any_eq_false]
    intro x hx q
    have hm : k ∈ D.map (·.1) := by rw [← h.keys]; exact List.mem_map.mpr ⟨x, hx, by simpa using q⟩
    rw [List.contains_iff_mem.mpr hm] at hk; cases hk
  rw [if_neg (by rw [this]; decide)]
theorem nodup_len {α : Type} [DecidableEq α] : ∀ {l r : List α}, l.Nodup → (∀ x ∈ l, x ∈ r) → l.length ≤ r.length
  | [], _, _, _ => Nat.zero_le _
  | x :: l, r, nd, h => by
    obtain ⟨n1, n2⟩ := List.nodup_cons.mp nd
    have hx := h x (by simp)
    have := nodup_len (r := r.erase x) n2 fun y hy => by
      have hy' := h y (by simp [hy])
      have : y ≠ x := fun q => n1 (q ▸ hy)
      exact (List.mem_erase_of_ne this).mpr hy'
    rw [List.length_erase_of_mem hx] at this
    have : 0 < r.length := List.length_pos_of_mem hx
    simp only [List.length_cons]; omega
/-- what stands of the march at every turn -/
structure DOk (names : Str) (pairs : List Tri) (D : List KN) : Prop where
  nd : (D.map (·.1)).Nodup
  sub : ∀ k ∈ D.map (·.1), k ∈ pairs.map (keyF names)
theorem DOk.len {names : Str} {pairs : List Tri} {D : List KN} (h : DOk names pairs D) : D.length ≤ pairs.length := by
  have := nodup_len h.nd h.sub
  simpa using this
theorem DOk.put1 {names : Str} {pairs : List Tri} {D : List KN} {k : Str} {d : Nat} {t : Tri} (h : DOk names pairs D) (ht : t ∈ pairs) : DOk names pairs (put1 names k d D t) := by
  unfold Mine.put1
  split
  · rename_i q
    simp only [Bool.and_eq_true, Bool.not_eq_true'] at q
    have hn : keyF names t ∉ D.map (·.1) := fun z => by rw [List.contains_iff_mem.mpr z] at q; cases q.2
    refine ⟨?_, fun x hx => ?_⟩
    · rw [List.map_append]
      refine List.nodup_append.mpr ⟨h.nd, by simp, fun x hx y hy e => ?_⟩
      simp at hy; subst hy; exact hn (e ▸ hx)
    · rw [List.map_append, List.mem_append] at hx
      rcases hx with hx | hx
      · exact h.sub x hx
      · simp at hx; subst hx; exact List.mem_map.mpr ⟨t, ht, rfl⟩
  · exact h
theorem DOk.fold {names : Str} {pairs : List Tri} {k : Str} {d : Nat} : ∀ (l : List Tri) {D : List KN}, (∀ t ∈ l, t ∈ pairs) → DOk names pairs D → DOk names pairs (l.foldl (Mine.put1 names k d) D)
  | [], _, _, h => h
  | t :: l, _, hl, h => DOk.fold l (fun x hx => hl x (by simp [hx])) (h.put1 (hl t (by simp)))
theorem put1_pre {names : Str} {k : Str} {d : Nat} {D : List KN} {t : Tri} : ∃ r, put1 names k d D t = D ++ r := by
  unfold put1; split
  · exact ⟨_, rfl⟩
  · exact ⟨[], by simp⟩
theorem fold_pre {names : Str} {k : Str} {d : Nat} : ∀ (l : List Tri) (D : List KN), ∃ r, l.foldl (put1 names k d) D = D ++ r
  | [], D => ⟨[], by simp⟩
  | t :: l, D => by
    obtain ⟨r1, e1⟩ := put1_pre (names := names) (k := k) (d := d) (D := D) (t := t)
    obtain ⟨r2, e2⟩ := fold_pre (names := names) (k := k) (d := d) l (D ++ r1)
    exact ⟨r1 ++ r2, by rw [List.foldl_cons, e1, e2, List.append_assoc]⟩
theorem put0_ok {names : Str} {good : List Bool} {pairs : List Tri} (nd : (pairs.map (keyF names)).Nodup) : DOk names pairs (put0 names good pairs) := by
  have e : (put0 names good pairs).map (·.1) = (pairs.filter (odd2 good)).map (keyF names) := by simp [put0]
  refine ⟨?_, fun k hk => ?_⟩
  · rw [e]
    exact List.Sublist.nodup (List.Sublist.map _ List.filter_sublist) nd
  · rw [e] at hk
    obtain ⟨t, ht, rfl⟩ := List.mem_map.mp hk
    exact List.mem_map.mpr ⟨t, (List.mem_filter.mp ht).1, rfl⟩
end Mine
end

-- Line
section
open PySem PySem.W PyProof.Rows
set_option maxRecDepth 100000
set_option linter.all false
set_option autoImplicit false
namespace Mine
local macro_rules | `(tactic| walk_at "lkp") => `(tactic| first | assumption | exact upd_same | (refine lks (sne (by decide)) ?_; walk_at "lkp"))
inductive RKN (h : Heap) (X : List Addr) (v : Value) (d : KN) : Prop
  | mk (a : Addr) (n : Nat) (v1 v2 : Value) (e : v = .ref a) (aX : a ∉ X) (ha : h.get? a = some (lst [v1, v2] n)) (h1 : RStr h X v1 d.1) (h2 : RNat h X v2 d.2)
theorem mKN : Mono RKN := fun g _ _ q => by
  obtain ⟨a, n, v1, v2, e, hX, ho, h1, h2⟩ := q
  exact ⟨a, n, v1, v2, e, (g.2 a _ hX ho).1, (g.2 a _ hX ho).2, mStr g h1, mNat g h2⟩
section
variable {p : Program} {w : World} {A : Around} {s : Shared} {env : Env} {B B0 : Heap} {X Y : List Addr} {φ : Fm} {m : Str → Option Value} {own : List (Addr × Obj)} {mg mb : Str → Option Value}
/-- a text among texts -/
theorem r_in_strs {a : Addr} {vs : List Value} {n : Nat} {l : List Str} {x : Str} {t : Tok} {Q : Value → Shared → Prop} (ha : s.heap.get? a = some (lst vs n)) (hl : All2 RS vs l) (h : Q (.bool (l.contains x)) s) :
    W p w A (compareOp .In (.str x t) (.ref a)) Q s := by
  refine SeqAt.in_listAt (fun v => match v with | .str y _ => y == x | _ => false) (isList_of ha) (fun y hy => ?_) ?_
  · obtain ⟨i, hi⟩ := List.mem_iff_getElem?.mp (by simpa using hy : y ∈ vs)
    obtain ⟨b, _, u, e⟩ := hl.get hi
    subst e; exact SeqAt.EqAt.str_str _ _ _ _
  · have : vs.toArray.any (fun v => match v with | .str y _ => y == x | _ => false) = l.contains x := by
      rw [List.any_toArray]
      clear ha h
      induction hl with
      | nil => rfl
      | cons hx _ ih =>
        obtain ⟨u, e⟩ := hx; subst e
        simp only [List.any_cons, ih, List.contains_cons]
        congr 1
        rw [Bool.eq_iff_iff]; simp; exact ⟨fun q => q.symm, fun q => q.symm⟩
    rw [this]; exact h
theorem lexAt_of {l : Lx} {x dx pb : Addr} {e : LD} {kk nd qn : Nat} {n : Int} {vd qv : List Value} {rest : List (Addr × Obj)} (n1 : B0.get? dx = none) (n2 : B0.get? l.d = none) (n3 : B0.get? pb = none)
    (F : Fra B s Y φ m ((dx, dictOf (e.es n l.f pb) kk) :: (l.d, lst vd nd) :: (pb, lst qv qn) :: rest)) (hvd : All2 Sgn vd []) (hx : s.heap.get? x = some (instObj 66 dx)) (xY : x ∉ Y) (hL : LexF s.heap Y l) : LexAt w B0 s.heap Y l x dx pb n [] qv := by
  have nd' := (List.nodup_append.mp F.nd).2.1
  simp only [List.map_cons, List.nodup_cons, List.mem_cons, not_or] at nd'
  exact ⟨n1, n2, n3, hx, xY, hL, F.inX _ (by simp), F.inX _ (by simp), F.inX _ (by simp), by simp; exact ⟨⟨nd'.1.1, nd'.1.2.1⟩, nd'.2.1.1⟩, ⟨e, kk, F.at (k := 0) rfl⟩, ⟨vd, nd, F.at (k := 1) rfl, hvd⟩, by simp, ⟨qn, F.at (k := 2) rfl⟩⟩
noncomputable abbrev E127 (L : Addr) : Env := callEnv (fd 127) L 127
/-- names[p] + names[q] -/
theorem key_eval {L : Addr} {p1 p2 p3 p4 p5 p6 p7 : Pos} {names : Str} {tn ta tb : Tok} {a b : Nat} {Q : Value → Shared → Prop} (F : Fra B s X ⟨L, []⟩ m own) (hn : m "names" = some (.str names tn)) (hp : m "p" = some (.int a ta)) (hq : m "q" = some (.int b tb)) (ha : a < names.length) (hb : b < names.length) (hz : names.length ≤ 1000)
    (h : ∀ s' t, Tk s s' → Q (.str (sg names a ++ sg names b) t) s') : W p w A (eval (.BinOp (.Subscript (.Name "names" p1) (.Name "p" p2) p3) .Add (.Subscript (.Name "names" p4) (.Name "q" p5) p6) p7) (E127 L)) Q s := by
  refine wpAny_BinOp (Subscript_ (r_loc F hn (r_loc F hp (r_itemS ha (by omega) fun s1 t1 k1 => ?_))))
  have F1 := F.tk k1
  refine Subscript_ (r_loc F1 hn (r_loc F1 hq (r_itemS hb (by omega) fun s2 t2 k2 => ?_)))
  refine r_addS (by simp [sg, Str.length]) fun s3 t3 k3 => h s3 t3 ⟨k3.1.trans (k2.1.trans k1.1), k3.2.1.trans (k2.2.1.trans k1.2.1), k3.2.2.trans (k2.2.2.trans k1.2.2)⟩

theorem r_neB {a b : Bool} {Q : Value → Shared → Prop} (h : Q (.bool (decide (a ≠ b))) s) : W p w A (compareOp .NotEq (.bool a) (.bool b)) Q s := by
  refine SeqAt.RcNeAt.bool_bool a b _ w NoE Q ?_
  have : (!(a == b)) = decide (a ≠ b) := by cases a <;> cases b <;> rfl
  rw [this]; exact h
/-- p, q, goals = .. -/
theorem tri_unpack {L : Addr} {k0 : Nat} {pt p1 p2 p3 : Pos} {v : Value} {t : Tri} {Q : Unit → Shared → Prop} (hA : A.handled = none) (F : Fra B s X ⟨L, []⟩ m own) (hv : RTri s.heap X v t)
    (h : ∀ s' v3 ta tb, Go X s X s' → Fra B s' X ⟨L, []⟩ (upd (upd (upd m "p" (.int t.1 ta)) "q" (.int t.2.1 tb)) "goals" v3) own → RList RStr s'.heap X v3 t.2.2 → Q () s') :
    W p w A (assign (.Tuple [.Name "p" p1, .Name "q" p2, .Name "goals" p3] k0 pt) (E127 L) v) Q s := by
  obtain ⟨a, n, v1, v2, v3, rfl, aX, ha, ⟨ta, rfl⟩, ⟨tb, rfl⟩, h3⟩ := hv
  refine r_unpack_list hA ha rfl rfl fun s1 k1 => ?_
  have F1 := F.kept k1
  refine assignInOrder_cons (wpAny_assign_Name (r_store F1 fun s2 g2 F2 => ?_))
  refine assignInOrder_cons (wpAny_assign_Name (r_store F2 fun s3 g3 F3 => ?_))
  refine assignInOrder_cons (wpAny_assign_Name (r_store F3 fun s4 g4 F4 => assignInOrder_nil ?_))
  have g := (k1.go X).trans (g2.trans (g3.trans g4))
  exact h s4 v3 ta tb g F4 (mList mStr g h3)

/-- lexer.get_token() -/
theorem tok_step {k : Nat} {L : Addr} {p1 p2 p3 : Pos} {l : Lx} {x dx pb : Addr} {nl : Int} {e : LD} {kk ndd qn : Nat} {vd qv : List Value} {rest : List (Addr × Obj)} {ks : List Str} {Q : Value → Shared → Prop} (G0 : Gd w mg mb B0) (kH : ∀ b o, B0.get? b = some o → B.get? b = some o) (hA : Rm A (k + 6))
    (F : Fra B s Y ⟨L, []⟩ m ((dx, dictOf (e.es nl l.f pb) kk) :: (l.d, lst vd ndd) :: (pb, lst qv qn) :: rest)) (n1 : B0.get? dx = none) (n2 : B0.get? l.d = none) (n3 : B0.get? pb = none) (hvd : All2 Sgn vd []) (hx : s.heap.get? x = some (instObj 66 dx)) (xY : x ∉ Y) (hL : LexF s.heap Y l) (hm : m "lexer" = some (.ref x)) (hq : All2 RS qv ks) (hz : ks.length ≤ 1000)
    (h1 : ∀ kx r, ks = kx :: r → ∀ s' t qv' qn', Go Y s Y s' → Fra B s' Y ⟨L, []⟩ m ((dx, dictOf (e.es nl l.f pb) kk) :: (l.d, lst vd ndd) :: (pb, lst qv' qn') :: rest) → All2 RS qv' r → Q (.str kx t) s')
    (h2 : ks = [] → ∀ s' t e' kk' vd' ndd', Go Y s Y s' → Fra B s' Y ⟨L, []⟩ m ((dx, dictOf (LD.es e' nl l.f pb) kk') :: (l.d, lst vd' ndd') :: (pb, lst qv qn) :: rest) → All2 Sgn vd' [] → Q (.str ⟨#[]⟩ t) s') (hp : (p2.endLine == p3.line) = true := by rfl) :
    W p w A (eval (.Call (.Attribute (.Name "lexer" p1) "get_token" p2) [] [] p3) (E127 L)) Q s := by
  have Kat : (KH w).In s.heap := G0.K.keeps fun b o e => F.keep b o (kH b o e)
  have I := lexAt_of (w := w) n1 n2 n3 F hvd hx xY hL
  refine MC ?_ rfl rfl hp
  refine r_loc F hm ?_
  refine r_imeth (f := 56) Kat hx (F.at (k := 0) rfl) (es_g ..) ?_
  refine CK0 Kat ?_
  cases hq with
  | nil =>
    refine wpAny_call (gt_spec (k := k + 1) (t2 := []) (cs2 := []) G0 (fun b o e => F.keep b o (kH b o e)) F.live (by exact hA) I rfl fun s' e' kk' n' vs nn t kb hd1 hd2 hv' hn' => ?_)
    obtain ⟨F', g'⟩ := F.kb2 kb hd1 hd2
    have : n' = nl := by simpa using hn'
    subst this
    exact h2 rfl s' t e' kk' vs nn g' F' hv'
  | cons ha hr =>
    obtain ⟨t, rfl⟩ := ha
    refine wpAny_call (gt_pop (k := k + 1) G0 (fun b o e => F.keep b o (kH b o e)) F.live (by exact hA) I (by rw [hr.len]; simp at hz; omega) fun s' nn kb hpb => ?_)
    obtain ⟨F', g'⟩ := F.kb1 (k := 2) rfl kb hpb
    exact h1 _ _ rfl s' t _ nn g' F' hr

theorem tok_one {k : Nat} {L : Addr} {p1 p2 p3 : Pos} {l : Lx} {x dx pb : Addr} {nl : Int} {e : LD} {kk ndd qn : Nat} {vd qv : List Value} {rest : List (Addr × Obj)} {ks : List Str} {Q : Value → Shared → Prop} (G0 : Gd w mg mb B0) (kH : ∀ b o, B0.get? b = some o → B.get? b = some o) (hA : Rm A (k + 6))
    (F : Fra B s Y ⟨L, []⟩ m ((dx, dictOf (e.es nl l.f pb) kk) :: (l.d, lst vd ndd) :: (pb, lst qv qn) :: rest)) (n1 : B0.get? dx = none) (n2 : B0.get? l.d = none) (n3 : B0.get? pb = none) (hvd : All2 Sgn vd []) (hx : s.heap.get? x = some (instObj 66 dx)) (xY : x ∉ Y) (hL : LexF s.heap Y l) (hm : m "lexer" = some (.ref x)) (hq : All2 RS qv ks) (hz : ks.length ≤ 1000)
    (h : ∀ s' t kx e' kk' vd' ndd' qv' qn', Go Y s Y s' → Fra B s' Y ⟨L, []⟩ m ((dx, dictOf (LD.es e' nl l.f pb) kk') :: (l.d, lst vd' ndd') :: (pb, lst qv' qn') :: rest) → All2 Sgn vd' [] → ((∃ r, ks = kx :: r ∧ All2 RS qv' r) ∨ (ks = [] ∧ kx = ⟨#[]⟩ ∧ qv' = [])) → Q (.str kx t) s') (hp : (p2.endLine == p3.line) = true := by rfl) :
    W p w A (eval (.Call (.Attribute (.Name "lexer" p1) "get_token" p2) [] [] p3) (E127 L)) Q s := by
  refine tok_step (k := k) (ks := ks) G0 kH hA F n1 n2 n3 hvd hx xY hL hm hq hz (fun kx r er s' t qv' qn' g F' hq' => ?_) (fun er s' t e' kk' vd' ndd' g F' hv' => ?_) hp
  · exact h s' t kx e kk vd ndd qv' qn' g F' hvd (.inl ⟨r, er, hq'⟩)
  · have : qv = [] := by subst er; cases hq; rfl
    exact h s' t _ e' kk' vd' ndd' qv qn g F' hv' (.inr ⟨er, rfl, this⟩)
/-- what stands at a head of the first loop -/
inductive L1 (p : Program) (w : World) (names : Str) (good : List Bool) (pairs : List Tri) (e : LD) (nl : Int) (l : Lx) (kk : Nat) (vd : List Value) (ndd : Nat) (x dx pb aD ag ap : Addr) (tn : Tok) (j : Nat) (m : Str → Option Value) (own : List (Addr × Obj)) : Prop
  | mk (qv : List Value) (qn : Nat) (o : Obj) (kvs : List (Str × Value)) (eo : own = [(dx, dictOf (e.es nl l.f pb) kk), (l.d, lst vd ndd), (pb, lst qv qn), (aD, o)]) (q1 : m "lexer" = some (.ref x)) (q2 : m "names" = some (.str names tn)) (q3 : m "good" = some (.ref ag)) (q4 : m "pairs" = some (.ref ap)) (q5 : m "apart" = some (.ref aD))
    (hoA : o.IsDictOf (SK p w) kvs) (hKV : KV kvs (put0 names good (pairs.take j))) (hqv : All2 RS qv ((put0 names good (pairs.take j)).map (·.1)))
/-- what stands at a head of the while -/
inductive LInv (p : Program) (w : World) (names : Str) (good : List Bool) (pairs : List Tri) (l : Lx) (x dx pb aD aC ap : Addr) (nl : Int) (tn : Tok) (Y : List Addr) (cnt : Nat) (s : Shared) (m : Str → Option Value) (own : List (Addr × Obj)) : Prop
  | mk (e : LD) (kk : Nat) (vd : List Value) (ndd : Nat) (qv : List Value) (qn : Nat) (oA : Obj) (kvs : List (Str × Value)) (cv : List Value) (cn : Nat) (D : List (Str × Nat)) (c : Nat) (tp : Tok) (kx : Str)
    (eo : own = [(dx, dictOf (LD.es e nl l.f pb) kk), (l.d, lst vd ndd), (pb, lst qv qn), (aD, oA), (aC, lst cv cn)]) (r1 : m "lexer" = some (.ref x)) (r2 : m "names" = some (.str names tn)) (r3 : m "pairs" = some (.ref ap)) (r4 : m "apart" = some (.ref aD)) (r5 : m "came" = some (.ref aC)) (r6 : m "pair" = some (.str kx tp))
    (r7 : oA.IsDictOf (SK p w) kvs) (r8 : KV kvs D) (r9 : DOk names pairs D) (r10 : All2 Sgn vd []) (r11 : Run names good pairs D c) (r12 : All2 (RKN s.heap Y) cv (D.take c)) (r13 : cnt = pairs.length + 1 - c)
    (r14 : (∃ d, D[c]? = some (kx, d) ∧ All2 RS qv ((D.drop (c + 1)).map (·.1))) ∨ (c = D.length ∧ kx = ⟨#[]⟩ ∧ qv = []))
/-- what stands at a head of the loop inside -/
inductive L3 (p : Program) (w : World) (names : Str) (pairs : List Tri) (e : LD) (nl : Int) (l : Lx) (kk : Nat) (vd : List Value) (ndd : Nat) (x dx pb aD aC ap : Addr) (cv : List Value) (cn : Nat) (tn tp : Tok) (kx : Str) (d : Nat) (D : List (Str × Nat)) (c : Nat) (j : Nat) (m : Str → Option Value) (own : List (Addr × Obj)) : Prop
  | mk (qv : List Value) (qn : Nat) (oA : Obj) (kvs : List (Str × Value)) (eo : own = [(dx, dictOf (LD.es e nl l.f pb) kk), (l.d, lst vd ndd), (pb, lst qv qn), (aD, oA), (aC, lst cv cn)]) (q1 : m "lexer" = some (.ref x)) (q2 : m "names" = some (.str names tn)) (q3 : m "pairs" = some (.ref ap)) (q4 : m "apart" = some (.ref aD)) (q5 : m "came" = some (.ref aC)) (q6 : m "pair" = some (.str kx tp))
    (q7 : oA.IsDictOf (SK p w) kvs) (q8 : KV kvs ((pairs.take j).foldl (put1 names kx d) D)) (q9 : All2 RS qv ((((pairs.take j).foldl (put1 names kx d) D).drop (c + 1)).map (·.1)))

set_option maxHeartbeats 2000000 in
theorem line_spec {k n : Nat} {l : Lx} {x dx pb : Addr} {nl : Int} {tn : Tok} {names : Str} {v3 v4 : Value} {good : List Bool} {pairs : List Tri} {Q : Value → Shared → Prop} (G0 : Gd w mg mb B0) (kB : ∀ b o, B0.get? b = some o → s.heap.get? b = some o) (lv : Liv s X) (hA : Rm A (k + 7))
    (I : LexAt w B0 s.heap X l x dx pb nl [] []) (hg : RList RBool s.heap X v3 good) (hp : RList RTri s.heap X v4 pairs) (hnm : names.length = n) (hgn : good.length = n) (hn : n ≤ 20) (hpl : pairs.length ≤ 100) (hpn : ∀ t ∈ pairs, t.1 < n ∧ t.2.1 < n) (nd : (pairs.map (keyF names)).Nodup)
    (h : ∀ s' r D, KB [dx, l.d, pb] s s' → Run names good pairs D D.length → (∃ a n v1 v2, r = .ref a ∧ a ∉ X ∧ s'.heap.get? a = some (lst [v1, v2] n) ∧ RList RKN s'.heap X v1 D ∧ RList RStr s'.heap X v2 (D.map (·.1))) → Q r s') :
    W p w A (call (.ref 127) [.ref x, .str names tn, v3, v4]) Q s := by
  obtain ⟨n1, n2, n3, hx, xX, hL, i1, i2, i3, nd0, ⟨e, kk, hdx⟩, ⟨vd, ndd, hd, hvd⟩, hz, ⟨pn, hpb⟩⟩ := I
  have hK := G0.K.keeps kB
  have kH : ∀ b o, B0.get? b = some o → (hideAll s.heap ([(dx, dictOf (e.es nl l.f pb) kk), (l.d, lst vd ndd), (pb, lst [] pn)].map (·.1))).get? b = some o := fun b o e => hideAll_get _ (kB b o e) fun q => by
    simp at q; rcases q with q | q | q
    · rw [q, n1] at e; cases e
    · rw [q, n2] at e; cases e
    · rw [q, n3] at e; cases e
  have GH := G0.keeps kH
  refine wpAny_call (enterMc (k := k + 6) (mv := [(dx, dictOf (e.es nl l.f pb) kk), (l.d, lst vd ndd), (pb, lst [] pn)]) (binds := [("lexer", .ref x), ("names", .str names tn), ("good", v3), ("pairs", v4)]) (G0.nolimit.keeps kB) lv ?_ ?_ nd0 hA (hK 127 (objAt 127) rfl) rfl rfl (codeRec_of hK (by rfl)) (.of_eq rfl) (by show ∀ x ∈ (fd 127).scope.names, _; decide) (locs rfl) rfl rfl rfl ?_)
  · intro q hq; simp at hq; rcases hq with h | h | h <;> subst h <;> assumption
  · intro q hq; simp at hq; rcases hq with h | h | h <;> subst h <;> assumption
  intro s1 L hLX g1 k1 hA1 F0
  refine wp_gen fun Q0 hQ0 => ?_
  generalize hBB : hideAll s.heap ([(dx, dictOf (e.es nl l.f pb) kk), (l.d, lst vd ndd), (pb, lst [] pn)].map (·.1)) = BB at *
  obtain ⟨m, F1, m1, m2, m3, m4⟩ : ∃ m, Fra BB s1 (L :: X) ⟨L, []⟩ m [(dx, dictOf (e.es nl l.f pb) kk), (l.d, lst vd ndd), (pb, lst [] pn)] ∧ m "lexer" = some (.ref x) ∧ m "names" = some (.str names tn) ∧ m "good" = some v3 ∧ m "pairs" = some v4 := ⟨_, F0, rfl, rfl, rfl, rfl⟩
  clear F0
  have hx1 := g1.2 x _ xX hx
  have hL1 := hL.go g1
  obtain ⟨ag, vsg, ng, rfl, agX, hag, hagr⟩ := hg
  obtain ⟨ap, vsp, np, rfl, apX, hap, hapr⟩ := hp
  have Kat : ∀ {s' own' m' X' φ'}, Fra BB s' X' φ' m' own' → (KH w).In s'.heap := fun F => G0.K.keeps fun b o e => F.keep b o (kH b o e)
  -- apart = {}
  refine wpAny_execs_cons (wpAny_Assign_Name (r_newDict (p := p) (w := w) F1 ⟨28, _, by decide, Kat F1 28 (objAt 28) rfl⟩ fun s2 aD oD aDX aD1 g2 F2 hoD => ?_))
  refine r_store F2 fun s3 g3 F3 => ?_
  have g13 := g2.trans g3
  have gs3 := g1.trans g13
  generalize hY : aD :: L :: X = Y at *
  have hp3 : RList RTri s3.heap Y (.ref ap) pairs := mList mTri gs3 ⟨ap, vsp, np, rfl, apX, hap, hapr⟩
  obtain ⟨ap', vsp', np', e', apY, hap3, hapr3⟩ := hp3
  cases e'
  refine wpAny_execs_cons (wpAny_For (r_loc F3 (by walk_at "lkp") ?_))
  refine it_list hA1.handled F3 hap3 apY ?_
  intro s4 it io IO hit g4 F4 hio S
  refine loop_abs (own := [(dx, dictOf (e.es nl l.f pb) kk), (l.d, lst vd ndd), (pb, lst [] pn), (aD, oD)]) _ _ _ F4 hio hit S (fun j _ m own => L1 p w names good pairs e nl l kk vd ndd x dx pb aD ag ap tn j m own) ?_ ?_ ?_
  · exact ⟨[], pn, oD, [], rfl, by walk_at "lkp", by walk_at "lkp", by walk_at "lkp", by walk_at "lkp", by walk_at "lkp", hoD, .nil, .nil⟩
  · intro j v s₀ s5 m₁ own₁ o Q1 hj hv g0 hP g05 F5 hQ1
    obtain ⟨qv, qn, oA, kvs, rfl, q1, q2, q3, q4, q5, hoA, hKV, hqv⟩ := hP
    obtain ⟨t, ht, hR⟩ := hapr3.get hv
    have tm : t ∈ pairs := List.mem_of_getElem? ht
    obtain ⟨hpn1, hpn2⟩ := hpn t tm
    refine tri_unpack hA1.handled F5 (mTri (g4.trans (g0.trans g05)) hR) fun s6 v3 ta tb g6 F6 hgoals => ?_
    have gs6 : Go X s (it :: Y) s6 := gs3.trans (g4.trans (g0.trans (g05.trans g6)))
    obtain ⟨agX6, hag6⟩ := gs6.2 ag _ agX hag
    have gat : ∀ i, i < n → vsg[i]? = some (.bool (good.getD i false)) := fun i hi => by
      have h1 : i < good.length := by omega
      obtain ⟨b, hb, eb⟩ := hagr.get' (List.getElem?_eq_getElem h1)
      have eb' : b = .bool good[i] := eb
      rw [hb, eb']; simp [h1]
    refine wpAny_execs_cons (wpAny_If (wpAny_isTrue_Compare1 (Subscript_ (r_loc F6 (by walk_at "lkp") (r_loc F6 (by walk_at "lkp") (r_item hag6 (by omega) (gat _ hpn1) ?_))))))
    refine Subscript_ (r_loc F6 (by walk_at "lkp") (r_loc F6 (by walk_at "lkp") (r_item hag6 (by omega) (gat _ hpn2) (r_neB (wpAny_truthy_bool ?_)))))
    have tk : put0 names good (pairs.take (j + 1)) = put0 names good (pairs.take j) ++ (if odd2 good t then [(keyF names t, 0)] else []) := by
      rw [put0, put0, List.take_add_one, ht]
      simp only [Option.toList_some, List.filter_append, List.map_append]
      congr 1
      cases q : odd2 good t <;> simp [List.filter_cons, q]
    have hod : decide (good.getD t.1 false ≠ good.getD t.2.1 false) = odd2 good t := rfl
    rw [hod]
    have nfresh : ((put0 names good (pairs.take j)).map (·.1)).contains (keyF names t) = false := by
      cases q : ((put0 names good (pairs.take j)).map (·.1)).contains (keyF names t) with
      | false => rfl
      | true =>
        exfalso
        have hm := List.contains_iff_mem.mp q
        rw [put0, List.map_map] at hm
        obtain ⟨u, hu, eu⟩ := List.mem_map.mp hm
        have hu' : u ∈ pairs.take j := (List.mem_filter.mp hu).1
        have hsp : pairs = pairs.take j ++ t :: pairs.drop (j + 1) := by
          have := List.take_append_drop j pairs
          rw [List.drop_eq_getElem_cons (List.getElem?_eq_some_iff.mp ht).1] at this
          rw [(List.getElem?_eq_some_iff.mp ht).2] at this
          exact this.symm
        rw [hsp, List.map_append, List.map_cons] at nd
        have := (List.nodup_append.mp nd).2.2 (keyF names u) (List.mem_map_of_mem hu') (keyF names t) (by simp)
        exact this eu
    have lenq : kvs.length ≤ 100 := by
      rw [hKV.len, put0, List.length_map]
      have h1 := List.length_filter_le (odd2 good) (pairs.take j)
      have h2 : (pairs.take j).length ≤ pairs.length := by simp; omega
      omega
    cases hq : odd2 good t with
    | false =>
      simp only [Bool.false_eq_true, if_false]
      rw [hq, if_neg Bool.false_ne_true, List.append_nil] at tk
      exact wpAny_execs_nil (wpAny_execs_nil (hQ1 _ _ _ F6 g6 ⟨qv, qn, oA, kvs, rfl, by walk_at "lkp", by walk_at "lkp", by walk_at "lkp", by walk_at "lkp", by walk_at "lkp", hoA, tk ▸ hKV, tk ▸ hqv⟩).1)
    | true =>
      simp only [if_true]
      -- apart[names[p] + names[q]] = 0
      refine wpAny_execs_cons (wpAny_Assign_Subscript (r_int fun s7 t7 k7 => ?_))
      have F7 := F6.tk k7
      refine r_loc F7 (by walk_at "lkp") ?_
      refine key_eval F7 (by walk_at "lkp") (by walk_at "lkp") (by walk_at "lkp") (by omega) (by omega) (by omega) fun s8 t8 k8 => ?_
      have F8 := F7.tk k8
      refine r_dset F8 3 rfl hoA (by omega) fun s9 oA' g9 F9 hoA' => ?_
      have est : stored kvs (keyF names t) (.int 0 t7) = kvs ++ [(keyF names t, .int (0 : Nat) t7)] := stored_new hKV nfresh
      have hoA2 : oA'.IsDictOf (SK p w) (kvs ++ [(keyF names t, .int (0 : Nat) t7)]) := est ▸ hoA'
      -- lexer.push_token(names[p] + names[q])
      have g69 := (k7.go (it :: Y)).trans ((k8.go _).trans g9)
      have gs9 : Go (L :: X) s1 (it :: Y) s9 := g13.trans (g4.trans (g0.trans (g05.trans (g6.trans g69))))
      have hx9 := gs9.2 x _ hx1.1 hx1.2
      refine wpAny_execs_cons (wpAny_Expr_any (MC (r_loc F9 (by walk_at "lkp") ?_)))
      refine r_imeth (f := 63) (Kat F9) hx9.2 (F9.at (k := 0) rfl) (es_t ..) ?_
      refine CK (Kat F9) (AC (key_eval F9 (by walk_at "lkp") (by walk_at "lkp") (by walk_at "lkp") (by omega) (by omega) (by omega) fun s10 t10 k10 => args_nil ⟨?_, ?_⟩))
      · exact (Kat F9).keeps fun b o e => k10.kept.get e
      have F10 := F9.tk k10
      have gs10 := gs9.trans (k10.go _)
      refine wpAny_call (pt_spec (k := k + 1) G0 (fun b o e => F10.keep b o (kH b o e)) F10.live (hA1.le (by omega)) (lexAt_of n1 n2 n3 F10 hvd (k10.kept.get hx9.2) hx9.1 (hL1.go gs10)) (by rw [hqv.len, List.length_map, ← hKV.len]; omega) fun s11 nn11 kb11 hpb11 => ?_)
      obtain ⟨F11, g11⟩ := F10.kb1 (k := 2) rfl kb11 hpb11
      refine wpAny_execs_nil ?_
      rw [hq, if_pos rfl] at tk
      refine wpAny_execs_nil (hQ1 _ _ [(dx, dictOf (e.es nl l.f pb) kk), (l.d, lst vd ndd), (pb, lst (qv ++ [.str (keyF names t) t10]) nn11), (aD, oA')] F11 (g6.trans (g69.trans ((k10.go _).trans g11))) ⟨_, nn11, oA', _, rfl, by walk_at "lkp", by walk_at "lkp", by walk_at "lkp", by walk_at "lkp", by walk_at "lkp", hoA2, tk ▸ hKV.snoc, ?_⟩).1
      rw [tk, List.map_append]
      exact hqv.snoc ⟨t10, rfl⟩
  · intro s₀ s5 m₁ own₁ g0 hP g05 F5
    obtain ⟨qv, qn, oA, kvs, rfl, q1, q2, q3, q4, q5, hoA, hKV, hqv⟩ := hP
    have hpl' : vsp'.length = pairs.length := hapr3.len
    rw [hpl', List.take_length] at hKV hqv
    have g35 : Go Y s3 Y s5 := g4.trans (g0.trans g05)
    refine wpAny_execs_cons (wpAny_Assign_Name (List_ (args_nil (r_newListO F5 fun s6 aC aCX g6 F6 => ?_))))
    refine r_store F6 fun s7 g7 F7 => ?_
    have g57 : Go Y s5 (aC :: Y) s7 := g6.trans g7
    have gs7 : Go (L :: X) s1 (aC :: Y) s7 := g13.trans (g35.trans g57)
    obtain ⟨xX7, hx7⟩ := gs7.2 x _ hx1.1 hx1.2
    have hL7 := hL1.go gs7
    obtain ⟨apX7, hap7⟩ := (g35.trans g57).2 ap _ apY hap3
    have hapr7 := hapr3.imp fun _ _ h => mTri (g35.trans g57) h
    have D0 := put0_ok (good := good) nd
    have lenD0 := D0.len
    refine wpAny_execs_cons (wpAny_Assign_Name ?_)
    refine tok_one (k := k) (ks := (put0 names good pairs).map (·.1)) G0 kH hA1 F7 n1 n2 n3 hvd hx7 xX7 hL7 (by walk_at "lkp") hqv (by rw [List.length_map]; omega) fun s8 t8 kx8 e8 kk8 vd8 ndd8 qv8 qn8 g8 F8 hvd8 hcase => ?_
    refine r_store F8 fun s9 g9 F9 => ?_
    have g79 := g8.trans g9
    refine wpAny_execs_cons (wpAny_While ?_)
    refine while_abs (pairs.length + 1) (fun cnt s m own => LInv p w names good pairs l x dx pb aD aC ap nl tn (aC :: Y) cnt s m own) F9 ?_ ?_
    · refine ⟨e8, kk8, vd8, ndd8, qv8, qn8, oA, kvs, [], _, put0 names good pairs, 0, t8, kx8, rfl, by walk_at "lkp", by walk_at "lkp", by walk_at "lkp", by walk_at "lkp", by walk_at "lkp", by walk_at "lkp", hoA, hKV, D0, hvd8, .start, .nil, rfl, ?_⟩
      rcases hcase with ⟨r, er, hr⟩ | ⟨er, ek, eq⟩
      · cases hD : put0 names good pairs with
        | nil => rw [hD] at er; cases er
        | cons z D' =>
          rw [hD] at er
          simp only [List.map_cons, List.cons.injEq] at er
          obtain ⟨z1, z2⟩ := z
          simp only at er
          refine .inl ⟨z2, by rw [← er.1]; rfl, ?_⟩
          simp only [Nat.zero_add, List.drop_succ_cons, List.drop_zero]
          rw [er.2]; exact hr
      · have : put0 names good pairs = [] := List.map_eq_nil_iff.mp er
        exact .inr ⟨by rw [this]; rfl, ek, eq⟩
    · intro cnt s10 m₁ own₁ Q4 Qx hP g10 F10 hQ4 hQx
      obtain ⟨e, kk, vd, ndd, qv, qn, oA, kvs, cv, cn, D, c, tp, kx, rfl, r1, r2, r3, r4, r5, r6, r7, r8, r9, r10, r11, r12, r13, r14⟩ := hP
      have lenD := r9.len
      have lenc : c ≤ D.length := by
        rcases r14 with ⟨d, hd', _⟩ | ⟨hc, _⟩
        · exact Nat.le_of_lt (List.getElem?_eq_some_iff.mp hd').1
        · exact Nat.le_of_eq hc
      have lencv : cv.length = c := by rw [r12.len]; simp; omega
      refine wpAny_isTrue_Compare1 (r_loc F10 r6 (r_strC oNil fun s11 t11 k11 => r_neS (wpAny_truthy_bool ?_)))
      have F11 := F10.tk k11
      have gs11 : Go (L :: X) s1 (aC :: Y) s11 := gs7.trans (g79.trans (g10.trans (k11.go _)))
      have g711 : Go (aC :: Y) s7 (aC :: Y) s11 := g79.trans (g10.trans (k11.go _))
      rcases r14 with ⟨d, hDc, hqv'⟩ | ⟨hc, ek, eq⟩
      · have hkx : kx ≠ ⟨#[]⟩ := by
          have hm : kx ∈ D.map (·.1) := List.mem_map.mpr ⟨(kx, d), List.mem_of_getElem? hDc, rfl⟩
          obtain ⟨t, _, ht⟩ := List.mem_map.mp (r9.sub kx hm)
          intro q
          rw [q] at ht
          have := congrArg Str.length ht
          rw [keyF, str_len_add] at this
          simp [sg, Str.length] at this
        rw [decide_eq_true hkx]
        simp only [if_true]
        obtain ⟨td, htd⟩ := r8.val r9.nd hDc
        refine wpAny_execs_cons (wpAny_Expr_any (MC (r_loc F11 (by walk_at "lkp") (r_method_append (F11.at (k := 4) rfl) (CM1 (AC ?_))))))
        refine List_ (AC (r_loc F11 (by walk_at "lkp") (AC (Subscript_ (r_loc F11 (by walk_at "lkp") (r_loc F11 (by walk_at "lkp") (r_dget (F11.at (k := 3) rfl) r7 htd fun s12 k12 => ?_)))))))
        have F12 := F11.tk k12
        refine args_nil (r_newListF F12 fun s13 ad k13 F13 adX had => ?_)
        refine args_nil (r_append F13 4 rfl (fun s14 g14 F14 => ?_) (by rw [lencv]; exact Nat.le_trans (show c ≤ 100 by omega) (by decide)))
        have g1114 : Go (aC :: Y) s11 (aC :: Y) s14 := (k12.go _).trans ((k13.go _).trans g14)
        obtain ⟨ad14X, had14⟩ := g14.2 ad _ adX had
        obtain ⟨apX14, hap14⟩ := (g711.trans g1114).2 ap _ apX7 hap7
        refine wpAny_execs_cons (wpAny_For (r_loc F14 (by walk_at "lkp") ?_))
        refine it_list hA1.handled F14 hap14 apX14 ?_
        intro s15 it2 io2 IO2 hit2 g15 F15 hio2 S2
        have hcv14 : All2 (RKN s15.heap (it2 :: aC :: Y)) (cv ++ [.ref ad]) (D.take (c + 1)) := by
          rw [List.take_add_one, hDc]
          have gg := (k11.go (aC :: Y)).trans (g1114.trans g15)
          refine (r12.imp fun _ _ h => mKN gg h).snoc ?_
          obtain ⟨q1, q2⟩ := g15.2 ad _ ad14X had14
          exact ⟨ad, _, _, _, rfl, q1, q2, ⟨_, rfl⟩, ⟨td, rfl⟩⟩
        refine loop_abs (own := [(dx, dictOf (LD.es e nl l.f pb) kk), (l.d, lst vd ndd), (pb, lst qv qn), (aD, oA), (aC, lst (cv ++ [.ref ad]) _)]) _ _ _ F15 hio2 hit2 S2 (fun j _ m own => L3 p w names pairs e nl l kk vd ndd x dx pb aD aC ap (cv ++ [.ref ad]) (cn + 1) tn tp kx d D c j m own) ?_ ?_ ?_
        · exact ⟨qv, qn, oA, kvs, rfl, by walk_at "lkp", by walk_at "lkp", by walk_at "lkp", by walk_at "lkp", by walk_at "lkp", by walk_at "lkp", r7, r8, hqv'⟩
        · intro j v s₀' s16 m₂ own₂ o2 Q3 hj hv g0' hP g016 F16 hQ3
          obtain ⟨qv2, qn2, oA2, kvs2, rfl, q1', q2', q3', q4', q5', q6', q7', q8', q9'⟩ := hP
          obtain ⟨t, ht, hR⟩ := hapr7.get hv
          have tm : t ∈ pairs := List.mem_of_getElem? ht
          obtain ⟨hpn1, hpn2⟩ := hpn t tm
          have gT : Go (aC :: Y) s7 (it2 :: aC :: Y) s16 := g711.trans (g1114.trans (g15.trans (g0'.trans g016)))
          refine tri_unpack hA1.handled F16 (mTri gT hR) fun s17 v3 ta tb g17 F17 hgoals => ?_
          obtain ⟨agl, vgl, ngl, rfl, aglX, hagl, haglr⟩ := hgoals
          have okj : DOk names pairs ((pairs.take j).foldl (put1 names kx d) D) := DOk.fold _ (fun z hz => List.mem_of_mem_take hz) r9
          have lenj := okj.len
          have tk : (pairs.take (j + 1)).foldl (put1 names kx d) D = put1 names kx d ((pairs.take j).foldl (put1 names kx d) D) t := by
            rw [List.take_add_one, ht, List.foldl_append]; rfl
          generalize hDj : (pairs.take j).foldl (put1 names kx d) D = Dj at *
          have preD : ∃ r, Dj = D ++ r := by rw [← hDj]; exact fold_pre _ _
          have hDjc : Dj[c]? = some (kx, d) := by
            obtain ⟨r, er⟩ := preD
            rw [er, List.getElem?_append_left (List.getElem?_eq_some_iff.mp hDc).1]; exact hDc
          have lenc1 : c + 1 ≤ Dj.length := (List.getElem?_eq_some_iff.mp hDjc).1
          refine wpAny_execs_cons (wpAny_If (isTrue_and (wpAny_isTrue_Compare1 (r_loc F17 (by walk_at "lkp") (r_loc F17 (by walk_at "lkp") (r_in_strs hagl (haglr.imp fun _ _ h => h) (wpAny_truthy_bool ?_)))))))
          have skip : ∀ (s18 : Shared), Tk s17 s18 → put1 names kx d Dj t = Dj → Q3 .next s18 := by
            intro s18 k18 ep
            have tk' := tk.trans ep
            exact (hQ3 _ _ [(dx, dictOf (LD.es e nl l.f pb) kk), (l.d, lst vd ndd), (pb, lst qv2 qn2), (aD, oA2), (aC, lst (cv ++ [.ref ad]) (cn + 1))] (F17.tk k18) (g17.trans (k18.go _)) ⟨qv2, qn2, oA2, kvs2, rfl, by walk_at "lkp", by walk_at "lkp", by walk_at "lkp", by walk_at "lkp", by walk_at "lkp", by walk_at "lkp", q7', by rw [tk']; exact q8', by rw [tk']; exact q9'⟩).1
          have tk0 : Tk s17 s17 := ⟨rfl, rfl, rfl⟩
          cases hc1 : t.2.2.contains kx with
          | false =>
            simp only [Bool.false_eq_true, if_false]
            exact wpAny_execs_nil (wpAny_execs_nil (skip s17 tk0 (by unfold put1; rw [hc1]; simp)))
          | true =>
            simp only [if_true]
            refine isTrue_and (wpAny_isTrue_Compare1 (key_eval F17 (by walk_at "lkp") (by walk_at "lkp") (by walk_at "lkp") (by omega) (by omega) (by omega) fun s18 t18 k18 => ?_))
            have F18 := F17.tk k18
            refine r_loc F18 (by walk_at "lkp") (r_dnotin (F18.at (k := 3) rfl) aD1 q7' fun s19 k19 => wpAny_truthy_bool ?_)
            have F19 := F18.tk k19
            have k1719 : Tk s17 s19 := ⟨k19.1.trans k18.1, k19.2.1.trans k18.2.1, k19.2.2.trans k18.2.2⟩
            have hkey : sg names t.1 ++ sg names t.2.1 = keyF names t := rfl
            rw [hkey, q8'.has]
            cases hc2 : (Dj.map (·.1)).contains (keyF names t) with
            | true =>
              simp only [Bool.not_true, Bool.false_eq_true, if_false]
              exact wpAny_execs_nil (wpAny_execs_nil (skip s19 k1719 (by unfold put1; rw [hc1, hc2]; simp)))
            | false =>
              simp only [Bool.not_false, if_true]
              refine isTrue_and_nil ?_
              simp only [if_true]
              have epu : put1 names kx d Dj t = Dj ++ [(keyF names t, d + 1)] := by unfold put1; rw [hc1, hc2]; simp
              obtain ⟨td2, htd2⟩ := q8'.val okj.nd hDjc
              refine wpAny_execs_cons (wpAny_Assign_Subscript (wpAny_BinOp (Subscript_ (r_loc F19 (by walk_at "lkp") (r_loc F19 (by walk_at "lkp") (r_dget (F19.at (k := 3) rfl) q7' htd2 fun s20 k20 => ?_))))))
              have F20 := F19.tk k20
              refine r_int fun s21 t21 k21 => r_add fun s22 t22 k22 => ?_
              have F22 := (F20.tk k21).tk k22
              refine r_loc F22 (by walk_at "lkp") ?_
              refine key_eval F22 (by walk_at "lkp") (by walk_at "lkp") (by walk_at "lkp") (by omega) (by omega) (by omega) fun s23 t23 k23 => ?_
              have F23 := F22.tk k23
              refine r_dset F23 3 rfl q7' (by rw [q8'.len]; omega) fun s24 oA3 g24 F24 hoA3 => ?_
              have est : stored kvs2 (keyF names t) (.int ((d : Int) + 1) t22) = kvs2 ++ [(keyF names t, .int ((d + 1 : Nat) : Int) t22)] := stored_new q8' hc2
              have hoA4 : oA3.IsDictOf (SK p w) (kvs2 ++ [(keyF names t, .int ((d + 1 : Nat) : Int) t22)]) := est ▸ hoA3
              have g1724 : Go (it2 :: aC :: Y) s17 (it2 :: aC :: Y) s24 := (k1719.go _).trans ((k20.go _).trans ((k21.go _).trans ((k22.go _).trans ((k23.go _).trans g24))))
              have gs24 : Go (L :: X) s1 (it2 :: aC :: Y) s24 := gs7.trans (gT.trans (g17.trans g1724))
              have hx24 := gs24.2 x _ hx1.1 hx1.2
              refine wpAny_execs_cons (wpAny_Expr_any (MC (r_loc F24 (by walk_at "lkp") ?_)))
              refine r_imeth (f := 63) (Kat F24) hx24.2 (F24.at (k := 0) rfl) (es_t ..) ?_
              refine CK (Kat F24) (AC (key_eval F24 (by walk_at "lkp") (by walk_at "lkp") (by walk_at "lkp") (by omega) (by omega) (by omega) fun s25 t25 k25 => args_nil ⟨?_, ?_⟩))
              · exact (Kat F24).keeps fun b o e => k25.kept.get e
              have F25 := F24.tk k25
              have gs25 := gs24.trans (k25.go _)
              refine wpAny_call (pt_spec (k := k + 1) G0 (fun b o e => F25.keep b o (kH b o e)) F25.live (hA1.le (by omega)) (lexAt_of n1 n2 n3 F25 r10 (k25.kept.get hx24.2) hx24.1 (hL1.go gs25)) (by rw [q9'.len, List.length_map, List.length_drop]; omega) fun s26 nn26 kb26 hpb26 => ?_)
              obtain ⟨F26, g26⟩ := F25.kb1 (k := 2) rfl kb26 hpb26
              refine wpAny_execs_nil ?_
              have tk' := tk.trans epu
              refine wpAny_execs_nil (hQ3 _ _ [(dx, dictOf (LD.es e nl l.f pb) kk), (l.d, lst vd ndd), (pb, lst (qv2 ++ [.str (keyF names t) t25]) nn26), (aD, oA3), (aC, lst (cv ++ [.ref ad]) (cn + 1))] F26 (g17.trans (g1724.trans ((k25.go _).trans g26))) ⟨_, nn26, oA3, _, rfl, by walk_at "lkp", by walk_at "lkp", by walk_at "lkp", by walk_at "lkp", by walk_at "lkp", by walk_at "lkp", hoA4, by rw [tk']; exact q8'.snoc, ?_⟩).1
              rw [tk', List.drop_append_of_le_length lenc1, List.map_append]
              exact q9'.snoc ⟨t25, rfl⟩
        · intro s₀' s16 m₂ own₂ g0' hP g016 F16
          obtain ⟨qv2, qn2, oA2, kvs2, rfl, q1', q2', q3', q4', q5', q6', q7', q8', q9'⟩ := hP
          rw [hpl', List.take_length] at q8' q9'
          have okS : DOk names pairs (stepD names pairs kx d D) := DOk.fold _ (fun z hz => hz) r9
          have lenS := okS.len
          have eS : pairs.foldl (put1 names kx d) D = stepD names pairs kx d D := rfl
          rw [eS] at q8' q9'
          have gE : Go (aC :: Y) s14 (aC :: Y) s16 := g15.trans (g0'.trans g016)
          have gs16 : Go (L :: X) s1 (aC :: Y) s16 := gs11.trans (g1114.trans gE)
          obtain ⟨xX16, hx16⟩ := gs16.2 x _ hx1.1 hx1.2
          refine wpAny_execs_cons (wpAny_Assign_Name ?_)
          refine tok_one (k := k) (ks := ((stepD names pairs kx d D).drop (c + 1)).map (·.1)) G0 kH hA1 F16 n1 n2 n3 r10 hx16 xX16 (hL1.go gs16) (by walk_at "lkp") q9' (by rw [List.length_map, List.length_drop]; omega) fun s17 t17 kx17 e17 kk17 vd17 ndd17 qv17 qn17 g17 F17 hvd17 hcase => ?_
          refine r_store F17 fun s18 g18 F18 => ?_
          have gF : Go (aC :: Y) s10 (aC :: Y) s18 := (k11.go _).trans (g1114.trans (gE.trans (g17.trans g18)))
          have hcl : c < D.length := (List.getElem?_eq_some_iff.mp hDc).1
          obtain ⟨rS, erS⟩ : ∃ r, stepD names pairs kx d D = D ++ r := fold_pre _ _
          have etk : (stepD names pairs kx d D).take (c + 1) = D.take (c + 1) := by rw [erS, List.take_append_of_le_length (by omega)]
          refine wpAny_execs_nil (hQ4 (pairs.length + 1 - (c + 1)) _ _ _ (by omega) ⟨e17, kk17, vd17, ndd17, qv17, qn17, oA2, kvs2, cv ++ [.ref ad], cn + 1, stepD names pairs kx d D, c + 1, t17, kx17, rfl, by walk_at "lkp", by walk_at "lkp", by walk_at "lkp", by walk_at "lkp", by walk_at "lkp", by walk_at "lkp", q7', q8', okS, hvd17, .step r11 hDc, ?_, rfl, ?_⟩ gF F18).1
          · rw [etk]
            exact hcv14.imp fun _ _ h => mKN (g0'.trans (g016.trans (g17.trans g18))) h
          · rcases hcase with ⟨r, er, hr⟩ | ⟨er, ek, eq⟩
            · cases hdr : (stepD names pairs kx d D).drop (c + 1) with
              | nil => rw [hdr] at er; cases er
              | cons z D' =>
                rw [hdr] at er
                simp only [List.map_cons, List.cons.injEq] at er
                obtain ⟨z1, z2⟩ := z
                simp only at er
                have hat : (stepD names pairs kx d D)[c + 1]? = some (z1, z2) := by
                  have := congrArg (fun l => l[0]?) hdr
                  simpa using this
                have hd2 : (stepD names pairs kx d D).drop (c + 1 + 1) = D' := by
                  have := congrArg (fun l => l.drop 1) hdr
                  simpa using this
                refine .inl ⟨z2, by rw [← er.1]; exact hat, ?_⟩
                rw [hd2, er.2]; exact hr
            · have hnil : (stepD names pairs kx d D).drop (c + 1) = [] := List.map_eq_nil_iff.mp er
              have hle := List.drop_eq_nil_iff.mp hnil
              have hge : D.length ≤ (stepD names pairs kx d D).length := by rw [erS]; simp
              exact .inr ⟨by omega, ek, eq⟩
      · subst ek
        rw [decide_eq_false (by simp)]
        simp only [Bool.false_eq_true, if_false]
        refine (hQx _ ?_).2
        subst hc
        rw [List.take_length] at r12
        refine wpAny_execs_cons (wpAny_Return_some (List_ (AC (r_loc F11 (by walk_at "lkp") (AC (ct1 GH F11 PyProof.Rows.boot_list (r_loc F11 (by walk_at "lkp") (r_listD hA1.handled (F11.at (k := 3) rfl) aD1 r7 (by rw [r8.len]; omega) fun s12 aK vk nk k12 haKn haK hvk => ?_))))))))
        have F12 := F11.kept k12
        have aKX : aK ∉ aC :: Y := fun q => by
          obtain ⟨o, ho⟩ := F11.live aK q
          rw [haKn] at ho; cases ho
        refine args_nil (r_newListF F12 fun s13 aR k13 F13 aRX haR => ?_)
        have XY : ∀ b ∈ X, b ∈ aC :: Y := fun b hb => by rw [← hY]; simp [hb]
        have fz : Go (aC :: Y) s13 X s13 := ⟨⟨rfl, rfl⟩, fun b o h e => ⟨fun q => h (XY b q), e⟩⟩
        have gR : Go (aC :: Y) s10 X s13 := (k11.go _).trans ((k12.go _).trans ((k13.go _).trans fz))
        refine hQ0 _ _ ?_
        refine h s13 (.ref aR) D ⟨?_, fun b o hb eb => F13.keep b o (by rw [← hBB]; exact hideAll_get _ eb (by simpa using hb))⟩ r11 ⟨aR, _, _, _, rfl, fun q => aRX (XY _ q), haR, ⟨aC, cv, cn, rfl, fun q => aCX (by rw [← hY]; simp [q]), F13.at (k := 4) rfl, r12.imp fun _ _ h => mKN gR h⟩, ⟨aK, vk, nk, rfl, fun q => aKX (XY _ q), k13.get haK, ?_⟩⟩
        · exact (g1.trans (gs11.trans ((k12.go _).trans (k13.go _)))).1
        · rw [← r8.keys]; exact hvk.imp fun _ _ h => h
end
end Mine
end

-- LexP
section
open PySem PySem.W PyProof.Rows
set_option maxRecDepth 100000
set_option linter.all false
set_option autoImplicit false
namespace Mine
/-! the lexer reads the rows back, in plain Lean -/
def esc2 (l : List Nat) : List Nat := subs 34 [92, 34] (subs 92 [92, 92] l)
theorem esc2_cons (c : Nat) (r : List Nat) : esc2 (c :: r) = (if c = 92 then [92, 92] else if c = 34 then [92, 34] else [c]) ++ esc2 r := by
  unfold esc2
  have : subs 92 [92, 92] (c :: r) = subs 92 [92, 92] [c] ++ subs 92 [92, 92] r := subs_append 92 [92, 92] [c] r
  rw [this, subs_append]
  congr 1
  by_cases h1 : c = 92
  · subst h1; simp [subs]
  · by_cases h2 : c = 34
    · subst h2; simp [subs]
    · simp [subs, h1, h2]
theorem quo_esc (rest : List Nat) : ∀ l : List Nat, quo (esc2 l ++ 34 :: rest) = some (l, rest)
  | [] => by show quo (34 :: rest) = _; unfold quo; simp
  | c :: r => by
    rw [esc2_cons]
    have ih := quo_esc rest r
    by_cases h1 : c = 92
    · subst h1; simp only [if_true, List.cons_append, List.nil_append]; unfold quo; simp [ih]
    · by_cases h2 : c = 34
      · subst h2; simp only [h1, if_true, if_false, List.cons_append, List.nil_append]; unfold quo; simp [ih]
      · simp only [h1, h2, if_false, List.cons_append, List.nil_append]; unfold quo; simp [h1, h2, ih]
theorem unq_esc (a b c : Nat) (rest : List Nat) : outT (92 :: a :: 92 :: b :: 92 :: c :: 13 :: rest) = some ([a, b, c], rest) := by
  unfold outT
  have h1 : ¬ (92 : Nat) ∈ white := by decide
  have h13 : (13 : Nat) ∈ white := by decide
  simp only [h1, if_false]
  unfold unq
  simp only [h1, if_false, if_true]
  unfold unq
  simp only [h1, if_false, if_true]
  unfold unq
  simp [h13]
theorem out_white {c : Nat} (h : c ∈ white) (rest : List Nat) : outT (c :: rest) = outT rest := by
  conv => lhs; unfold outT
  rw [if_pos h]
theorem out_quo (l rest : List Nat) : outT (34 :: (esc2 l ++ 34 :: rest)) = some (l, rest) := by
  unfold outT
  have h1 : ¬ (34 : Nat) ∈ white := by decide
  simp only [h1, if_false, if_true]
  exact quo_esc rest l
end Mine
end

-- PlainR
section
open PySem PySem.W PyProof.Rows
set_option linter.all false
set_option autoImplicit false
namespace Mine
/-! classes of states under an order, rising -/
def Cl (lt : Nat → Nat → Prop) : List Nat → List (List Nat) → Prop
  | U, [] => U = []
  | U, p :: r => ∃ f : Nat → Bool, p = U.filter f ∧ p ≠ [] ∧ (∀ a ∈ U, ∀ b ∈ U, f a = true → f b = true → ¬ lt a b) ∧ (∀ a ∈ U, ∀ b ∈ U, f a = true → f b = false → lt a b) ∧ Cl lt (U.filter fun a => !f a) r
def Asym (lt : Nat → Nat → Prop) : Prop := ∀ a b, lt a b → ¬ lt b a
def refF (lt : Nat → Nat → Prop) (f : Nat → Bool) (a b : Nat) : Prop := lt a b ∨ (¬ lt a b ∧ ¬ lt b a ∧ f a = true ∧ f b = false)
def comb (lt R : Nat → Nat → Prop) (a b : Nat) : Prop := lt a b ∨ (¬ lt a b ∧ ¬ lt b a ∧ R a b)
theorem Cl.congr {lt lt' : Nat → Nat → Prop} : ∀ {P : List (List Nat)} {U : List Nat}, (∀ a ∈ U, ∀ b ∈ U, lt a b ↔ lt' a b) → Cl lt U P → Cl lt' U P
  | [], _, _, h => h
  | p :: r, U, hc, ⟨f, h1, h2, h3, h4, h5⟩ =>
    ⟨f, h1, h2, fun a ha b hb fa fb q => h3 a ha b hb fa fb ((hc a ha b hb).mpr q), fun a ha b hb fa fb => (hc a ha b hb).mp (h4 a ha b hb fa fb),
      Cl.congr (fun a ha b hb => hc a (List.mem_filter.mp ha).1 b (List.mem_filter.mp hb).1) h5⟩
theorem Cl.unique {lt : Nat → Nat → Prop} (as : Asym lt) : ∀ {P P' : List (List Nat)} {U : List Nat}, Cl lt U P → Cl lt U P' → P = P'
  | [], [], _, _, _ => rfl
  | [], p :: r, U, h, ⟨f, h1, h2, _⟩ => by
    have : U = [] := h
    subst this; exact absurd h1 h2
  | p :: r, [], U, ⟨f, h1, h2, _⟩, h => by
    have : U = [] := h
    subst this; exact absurd h1 h2
  | p :: r, p' :: r', U, ⟨f, h1, h2, h3, h4, h5⟩, ⟨f', h1', h2', h3', h4', h5'⟩ => by
    have one : ∀ {f f' : Nat → Bool} {p' : List Nat}, p' = U.filter f' → p' ≠ [] → (∀ a ∈ U, ∀ b ∈ U, f a = true → f b = true → ¬ lt a b) → (∀ a ∈ U, ∀ b ∈ U, f a = true → f b = false → lt a b) → (∀ a ∈ U, ∀ b ∈ U, f' a = true → f' b = false → lt a b) → ∀ a ∈ U, f a = true → f' a = true := by
      intro f f' p' h1' h2' h3 h4 h4' a ha fa
      cases q : f' a with
      | true => rfl
      | false =>
        obtain ⟨b, hb⟩ := List.exists_mem_of_ne_nil _ h2'
        rw [h1'] at hb
        obtain ⟨hbU, fb'⟩ := List.mem_filter.mp hb
        have hlt := h4' b hbU a ha fb' q
        cases fb : f b with
        | true => exact absurd hlt (h3 b hbU a ha fb fa)
        | false => exact absurd hlt (as _ _ (h4 a ha b hbU fa fb))
    have ff : ∀ a ∈ U, f a = f' a := fun a ha => by
      rw [Bool.eq_iff_iff]
      exact ⟨one h1' h2' h3 h4 h4' a ha, one h1 h2 h3' h4' h4 a ha⟩
    have e1 : U.filter f = U.filter f' := List.filter_congr ff
    have e2 : (U.filter fun a => !f a) = U.filter fun a => !f' a := List.filter_congr fun a ha => by rw [ff a ha]
    rw [e2] at h5
    rw [h1, h1', e1, Cl.unique as h5 h5']
theorem Cl.sub {lt : Nat → Nat → Prop} : ∀ {P : List (List Nat)} {U : List Nat}, Cl lt U P → ∀ p ∈ P, ∀ x ∈ p, x ∈ U
  | [], _, _, _, hp => nomatch hp
  | q :: r, U, ⟨f, h1, _, _, _, h5⟩, p, hp => fun x hx => by
    rcases List.mem_cons.mp hp with h | h
    · subst h; rw [h1] at hx; exact (List.mem_filter.mp hx).1
    · exact (List.mem_filter.mp (Cl.sub h5 p h x hx)).1
theorem Cl.skip {lt : Nat → Nat → Prop} {U : List Nat} {h : Nat → Bool} {rest : List (List Nat)} (h3 : ∀ a ∈ U, ∀ b ∈ U, h a = true → h b = true → ¬ lt a b) (h4 : ∀ a ∈ U, ∀ b ∈ U, h a = true → h b = false → lt a b) (h5 : Cl lt (U.filter fun a => !h a) rest) :
    Cl lt U ([U.filter h].filter (fun x => !x.isEmpty) ++ rest) := by
  cases q : (U.filter h).isEmpty with
  | true =>
    have e : U.filter h = [] := List.isEmpty_iff.mp q
    have e2 : (U.filter fun a => !h a) = U := List.filter_eq_self.mpr fun a ha => by
      have := List.filter_eq_nil_iff.mp e a ha
      simpa using this
    rw [e2] at h5
    simp only [List.filter_cons, q, Bool.not_true, Bool.false_eq_true, if_false, List.filter_nil, List.nil_append]
    exact h5
  | false =>
    simp only [List.filter_cons, q, Bool.not_false, if_true, List.filter_nil, List.cons_append, List.nil_append]
    exact ⟨h, rfl, (fun e => by rw [e] at q; cases q), h3, h4, h5⟩
theorem Cl.parted {lt : Nat → Nat → Prop} (f : Nat → Bool) : ∀ {P : List (List Nat)} {U : List Nat}, Cl lt U P → Cl (refF lt f) U (parted f P)
  | [], _, h => h
  | p :: r, U, ⟨g, h1, h2, h3, h4, h5⟩ => by
    have ih := Cl.parted f h5
    rw [parted_cons]
    have es : sides f p = [p.filter f].filter (fun x => !x.isEmpty) ++ [p.filter fun a => !f a].filter (fun x => !x.isEmpty) := by
      unfold sides
      rw [← List.filter_append]; rfl
    have e1 : p.filter f = U.filter fun a => f a && g a := by rw [h1, List.filter_filter]
    have e2 : (p.filter fun a => !f a) = (U.filter fun a => !(f a && g a)).filter fun a => !f a && g a := by
      rw [h1, List.filter_filter, List.filter_filter]
      exact List.filter_congr fun a _ => by cases f a <;> cases g a <;> rfl
    rw [es, e1, e2, List.append_assoc]
    refine Cl.skip (fun a ha b hb ta tb q => ?_) (fun a ha b hb ta tb => ?_) (Cl.skip (fun a ha b hb ta tb q => ?_) (fun a ha b hb ta tb => ?_) ?_)
    · simp only [Bool.and_eq_true] at ta tb
      rcases q with q | ⟨_, _, _, q⟩
      · exact h3 a ha b hb ta.2 tb.2 q
      · rw [tb.1] at q; cases q
    · simp only [Bool.and_eq_true] at ta
      cases gb : g b with
      | true =>
        have fb : f b = false := by rw [gb, Bool.and_true] at tb; exact tb
        exact .inr ⟨h3 a ha b hb ta.2 gb, h3 b hb a ha gb ta.2, ta.1, fb⟩
      | false => exact .inl (h4 a ha b hb ta.2 gb)
    · simp only [Bool.and_eq_true, Bool.not_eq_true'] at ta tb
      rcases q with q | ⟨_, _, q, _⟩
      · exact h3 a (List.mem_filter.mp ha).1 b (List.mem_filter.mp hb).1 ta.2 tb.2 q
      · rw [ta.1] at q; cases q
    · simp only [Bool.and_eq_true, Bool.not_eq_true'] at ta
      have hb' := List.mem_filter.mp hb
      have gb : g b = false := by
        have := hb'.2
        cases q : g b with
        | false => rfl
        | true => rw [q] at this tb; cases q2 : f b <;> rw [q2] at this tb <;> simp at this tb
      exact .inl (h4 a (List.mem_filter.mp ha).1 b hb'.1 ta.2 gb)
    · rw [List.filter_filter]
      have e3 : (U.filter fun a => !(!f a && g a) && !(f a && g a)) = U.filter fun a => !g a := List.filter_congr fun a _ => by cases f a <;> cases g a <;> rfl
      rw [e3]; exact ih
def ltG : List (List Nat) → Nat → Nat → Prop
  | [], _, _ => False
  | g :: r, x, y => (g.contains x = true ∧ g.contains y = false) ∨ (g.contains x = g.contains y ∧ ltG r x y)
theorem ltG_none : ∀ {r : List (List Nat)} {x y : Nat}, (∀ g ∈ r, x ∉ g) → ¬ ltG r x y
  | [], _, _, _, h => h
  | g :: r, x, y, hn, h => by
    rcases h with ⟨h, _⟩ | ⟨_, h⟩
    · exact hn g (by simp) (List.contains_iff_mem.mp h)
    · exact ltG_none (fun g hg => hn g (by simp [hg])) h
theorem Cl.ltG {lt : Nat → Nat → Prop} (as : Asym lt) : ∀ {P : List (List Nat)} {U : List Nat}, Cl lt U P → ∀ x ∈ U, ∀ y ∈ U, (Mine.ltG P x y ↔ lt x y)
  | [], U, h, x, hx => by
    have : U = [] := h
    subst this; cases hx
  | p :: r, U, ⟨f, h1, h2, h3, h4, h5⟩, x, hx => fun y hy => by
    have cp : ∀ z ∈ U, p.contains z = f z := fun z hz => by
      rw [Bool.eq_iff_iff, List.contains_iff_mem, h1, List.mem_filter]
      exact ⟨fun q => q.2, fun q => ⟨hz, q⟩⟩
    have hr : ∀ z, f z = true → ∀ g ∈ r, z ∉ g := fun z fz g hg hzg => by
      have := (List.mem_filter.mp (Cl.sub h5 g hg z hzg)).2
      rw [fz] at this; cases this
    show ((p.contains x = true ∧ p.contains y = false) ∨ (p.contains x = p.contains y ∧ Mine.ltG r x y)) ↔ _
    rw [cp x hx, cp y hy]
    cases fx : f x with
    | true =>
      cases fy : f y with
      | true =>
        refine ⟨fun q => ?_, fun q => absurd q (h3 x hx y hy fx fy)⟩
        rcases q with ⟨_, q⟩ | ⟨_, q⟩
        · cases q
        · exact absurd q (ltG_none (hr x fx))
      | false => exact ⟨fun _ => h4 x hx y hy fx fy, fun _ => .inl ⟨rfl, rfl⟩⟩
    | false =>
      cases fy : f y with
      | true =>
        refine ⟨fun q => ?_, fun q => absurd q (as _ _ (h4 y hy x hx fy fx))⟩
        rcases q with ⟨q, _⟩ | ⟨q, _⟩ <;> cases q
      | false =>
        have ih := Cl.ltG as h5 x (List.mem_filter.mpr ⟨hx, by rw [fx]; rfl⟩) y (List.mem_filter.mpr ⟨hy, by rw [fy]; rfl⟩)
        refine ⟨fun q => ?_, fun q => .inr ⟨rfl, ih.mpr q⟩⟩
        rcases q with ⟨q, _⟩ | ⟨_, q⟩
        · cases q
        · exact ih.mp q
theorem Cl.same {lt : Nat → Nat → Prop} : ∀ {P : List (List Nat)} {U : List Nat}, Cl lt U P → ∀ x ∈ U, ∀ y ∈ U, ((P.any fun part => part.contains x && part.contains y) = true ↔ ¬ lt x y ∧ ¬ lt y x)
  | [], U, h, x, hx => by
    have : U = [] := h
    subst this; cases hx
  | p :: r, U, ⟨f, h1, h2, h3, h4, h5⟩, x, hx => fun y hy => by
    have cp : ∀ z ∈ U, p.contains z = f z := fun z hz => by
      rw [Bool.eq_iff_iff, List.contains_iff_mem, h1, List.mem_filter]
      exact ⟨fun q => q.2, fun q => ⟨hz, q⟩⟩
    have hr : ∀ z, f z = true → ∀ g ∈ r, g.contains z = false := fun z fz g hg => by
      cases q : g.contains z with
      | false => rfl
      | true =>
        have := (List.mem_filter.mp (Cl.sub h5 g hg z (List.contains_iff_mem.mp q))).2
        rw [fz] at this; cases this
    rw [List.any_cons, cp x hx, cp y hy]
    cases fx : f x with
    | true =>
      cases fy : f y with
      | true => simp [h3 x hx y hy fx fy, h3 y hy x hx fy fx]
      | false =>
        have : (r.any fun part => part.contains x && part.contains y) = false := List.any_eq_false.mpr fun g hg q => by rw [hr x fx g hg] at q; cases q
        rw [this]; simp [h4 x hx y hy fx fy]
    | false =>
      cases fy : f y with
      | true =>
        have : (r.any fun part => part.contains x && part.contains y) = false := List.any_eq_false.mpr fun g hg q => by rw [hr y fy g hg, Bool.and_false] at q; cases q
        rw [this]; simp [h4 y hy x hx fy fx]
      | false =>
        have ih := Cl.same h5 x (List.mem_filter.mpr ⟨hx, by rw [fx]; rfl⟩) y (List.mem_filter.mpr ⟨hy, by rw [fy]; rfl⟩)
        simpa using ih
theorem refF_asym {lt : Nat → Nat → Prop} {f : Nat → Bool} (as : Asym lt) : Asym (refF lt f) := by
  intro a b h1 h2
  rcases h1 with h1 | ⟨n1, n2, f1, f2⟩
  · rcases h2 with h2 | ⟨m1, m2, _⟩
    · exact as _ _ h1 h2
    · exact m2 h1
  · rcases h2 with h2 | ⟨m1, m2, g1, g2⟩
    · exact n2 h2
    · rw [f1] at g2; cases g2
theorem comb_asym {lt R : Nat → Nat → Prop} (as : Asym lt) (ar : Asym R) : Asym (comb lt R) := by
  intro a b h1 h2
  rcases h1 with h1 | ⟨n1, n2, f1⟩
  · rcases h2 with h2 | ⟨m1, m2, _⟩
    · exact as _ _ h1 h2
    · exact m2 h1
  · rcases h2 with h2 | ⟨m1, m2, g1⟩
    · exact n2 h2
    · exact ar _ _ f1 g1
theorem ltG_asym : ∀ (r : List (List Nat)), Asym (ltG r)
  | [], _, _, h => h.elim
  | g :: r, a, b, h1 => fun h2 => by
    rcases h1 with ⟨x1, x2⟩ | ⟨x1, x2⟩
    · rcases h2 with ⟨y1, y2⟩ | ⟨y1, y2⟩
      · rw [x1] at y2; cases y2
      · rw [x1, x2] at y1; cases y1
    · rcases h2 with ⟨y1, y2⟩ | ⟨y1, y2⟩
      · rw [x1, y1] at y2; cases y2
      · exact ltG_asym r a b x2 y2
theorem Cl.finer1 {way : List Nat} : ∀ (goals : List (List Nat)) {lt : Nat → Nat → Prop} {fin : List (List Nat)} {U : List Nat}, Asym lt → Cl lt U fin → Cl (comb lt fun a b => Mine.ltG goals (way.getD a 0) (way.getD b 0)) U (finer1 goals fin way)
  | [], lt, fin, U, as, h => by
    refine Cl.congr (fun a _ b _ => ⟨fun q => .inl q, fun q => ?_⟩) h
    rcases q with q | ⟨_, _, q⟩
    · exact q
    · exact q.elim
  | g :: r, lt, fin, U, as, h => by
    have ih := Cl.finer1 (way := way) r (refF_asym as) (Cl.parted (goesIn way g) h)
    refine Cl.congr (fun a ha b hb => ?_) ih
    have ga : goesIn way g a = g.contains (way.getD a 0) := rfl
    have gb : goesIn way g b = g.contains (way.getD b 0) := rfl
    show comb (refF lt (goesIn way g)) _ a b ↔ comb lt _ a b
    unfold comb refF
    show _ ↔ lt a b ∨ (¬ lt a b ∧ ¬ lt b a ∧ ((g.contains (way.getD a 0) = true ∧ g.contains (way.getD b 0) = false) ∨ (g.contains (way.getD a 0) = g.contains (way.getD b 0) ∧ Mine.ltG r (way.getD a 0) (way.getD b 0))))
    rw [ga, gb]
    dsimp only
    generalize Mine.ltG r (way.getD a 0) (way.getD b 0) = R
    have hab := as a b
    by_cases p1 : lt a b
    · simp [p1]
    · by_cases p2 : lt b a
      · simp [p1, p2]
      · simp only [p1, p2, not_false_eq_true, true_and, false_or]
        cases g.contains (way.getD a 0) <;> cases g.contains (way.getD b 0) <;> simp

/-! the texts' order -/
theorem app_lt : ∀ {x x' y y' : List Nat}, x.length = x'.length → (x ++ y < x' ++ y' ↔ x < x' ∨ (x = x' ∧ y < y'))
  | [], [], y, y', _ => by simp
  | a :: x, b :: x', y, y', h => by
    have ih := app_lt (x := x) (x' := x') (y := y) (y' := y') (by simpa using h)
    rw [List.cons_append, List.cons_append, List.cons_lt_cons_iff, List.cons_lt_cons_iff, ih, List.cons.injEq]
    by_cases q : a = b
    · subst q; simp
    · simp [q]
theorem lt_tri {x y : List Nat} (h1 : ¬ x < y) (h2 : ¬ y < x) : x = y := List.le_antisymm (List.not_lt.mp h2) (List.not_lt.mp h1)
theorem lt_as {x y : List Nat} (h : x < y) : ¬ y < x := fun q => List.lt_irrefl _ (List.lt_trans h q)
/-- the order of the states in turn t -/
def keyT (good : List Bool) (ways : List (List Nat)) (t i : Nat) : List Nat := ((tabs good ways t).getD i ⟨#[]⟩).cps.toList
def ltT (good : List Bool) (ways : List (List Nat)) (t a b : Nat) : Prop := keyT good ways t a < keyT good ways t b
theorem ltT_asym (good : List Bool) (ways : List (List Nat)) (t : Nat) : Asym (ltT good ways t) := fun _ _ h => lt_as h
structure Mach (good : List Bool) (ways : List (List Nat)) (n : Nat) : Prop where
  gn : good.length = n
  wl : ways.length = 2
  wn : ∀ way ∈ ways, way.length = n
  wv : ∀ way ∈ ways, ∀ x ∈ way, x < n
section
variable {good : List Bool} {ways : List (List Nat)} {n : Nat}
theorem Mach.at0 (M : Mach good ways n) {i : Nat} (hi : i < n) : (ways.getD 0 []).getD i 0 < n := way_at M.wl (by omega) M.wn M.wv hi
theorem Mach.at1 (M : Mach good ways n) {i : Nat} (hi : i < n) : (ways.getD 1 []).getD i 0 < n := way_at M.wl (by omega) M.wn M.wv hi
theorem key_len (M : Mach good ways n) {t i : Nat} (hi : i < n) : (keyT good ways t i).length = 3 ^ t := by
  have := tabs_size M.gn M.wl M.wn M.wv t i hi
  unfold keyT; rw [Array.length_toList]; exact this
theorem key_succ (M : Mach good ways n) {t i : Nat} (hi : i < n) : keyT good ways (t + 1) i = keyT good ways t i ++ (keyT good ways t ((ways.getD 0 []).getD i 0) ++ keyT good ways t ((ways.getD 1 []).getD i 0)) := by
  unfold keyT
  rw [tabs_at M.gn hi]
  simp only [Str.cps_append, Array.toList_append, List.append_assoc]
theorem key_eq_succ (M : Mach good ways n) {t p q : Nat} (hp : p < n) (hq : q < n) : keyT good ways (t + 1) p = keyT good ways (t + 1) q ↔ keyT good ways t p = keyT good ways t q ∧ keyT good ways t ((ways.getD 0 []).getD p 0) = keyT good ways t ((ways.getD 0 []).getD q 0) ∧ keyT good ways t ((ways.getD 1 []).getD p 0) = keyT good ways t ((ways.getD 1 []).getD q 0) := by
  rw [key_succ M hp, key_succ M hq]
  constructor
  · intro h
    obtain ⟨h1, h2⟩ := List.append_inj h (by rw [key_len M hp, key_len M hq])
    obtain ⟨h3, h4⟩ := List.append_inj h2 (by rw [key_len M (M.at0 hp), key_len M (M.at0 hq)])
    exact ⟨h1, h3, h4⟩
  · rintro ⟨h1, h2, h3⟩
    rw [h1, h2, h3]
theorem ltT_succ (M : Mach good ways n) {t a b : Nat} (ha : a < n) (hb : b < n) : ltT good ways (t + 1) a b ↔ comb (comb (ltT good ways t) fun a b => ltT good ways t ((ways.getD 0 []).getD a 0) ((ways.getD 0 []).getD b 0)) (fun a b => ltT good ways t ((ways.getD 1 []).getD a 0) ((ways.getD 1 []).getD b 0)) a b := by
  unfold comb ltT
  dsimp only
  rw [key_succ M ha, key_succ M hb, app_lt (by rw [key_len M ha, key_len M hb]), app_lt (by rw [key_len M (M.at0 ha), key_len M (M.at0 hb)])]
  generalize keyT good ways t a = x
  generalize keyT good ways t b = x'
  generalize keyT good ways t ((ways.getD 0 []).getD a 0) = y
  generalize keyT good ways t ((ways.getD 0 []).getD b 0) = y'
  generalize keyT good ways t ((ways.getD 1 []).getD a 0) = z
  generalize keyT good ways t ((ways.getD 1 []).getD b 0) = z'
  have eqv : ∀ u v : List Nat, u = v ↔ ¬ u < v ∧ ¬ v < u := fun u v => ⟨fun q => by subst q; exact ⟨List.lt_irrefl _, List.lt_irrefl _⟩, fun q => lt_tri q.1 q.2⟩
  rw [eqv x x', eqv y y']
  have h1 := lt_as (x := x) (y := x')
  have h2 := lt_as (x := y) (y := y')
  by_cases p1 : x < x'
  · simp [p1]
  · by_cases p2 : x' < x
    · simp [p1, p2]
    · simp only [p1, p2, not_false_eq_true, true_and, false_or, and_true, or_false, false_and]
      by_cases p3 : y < y'
      · simp [p3]
      · by_cases p4 : y' < y <;> simp [p3, p4]
theorem cl_succ (M : Mach good ways n) {t : Nat} {P : List (List Nat)} (h : Cl (ltT good ways t) (List.range n) P) : Cl (ltT good ways (t + 1)) (List.range n) (finerF P ways) := by
  obtain ⟨w0, w1, rfl⟩ : ∃ w0 w1, ways = [w0, w1] := by
    have := M.wl
    match ways, this with
    | [a, b], _ => exact ⟨a, b, rfl⟩
  have as := ltT_asym good [w0, w1] t
  have h1 := Cl.finer1 (way := w0) P as h
  have h2 := Cl.finer1 (way := w1) P (comb_asym as fun a b => ltG_asym P _ _) h1
  refine Cl.congr (fun a ha b hb => ?_) h2
  have ha' : a < n := List.mem_range.mp ha
  have hb' : b < n := List.mem_range.mp hb
  rw [ltT_succ M ha' hb']
  have g0 := Cl.ltG as h _ (List.mem_range.mpr (M.at0 ha')) _ (List.mem_range.mpr (M.at0 hb'))
  have g0' := Cl.ltG as h _ (List.mem_range.mpr (M.at0 hb')) _ (List.mem_range.mpr (M.at0 ha'))
  have g1 := Cl.ltG as h _ (List.mem_range.mpr (M.at1 ha')) _ (List.mem_range.mpr (M.at1 hb'))
  have e0 : ([w0, w1].getD 0 []) = w0 := rfl
  have e1 : ([w0, w1].getD 1 []) = w1 := rfl
  rw [e0] at g0 g0' ⊢
  rw [e1] at g1 ⊢
  unfold comb
  dsimp only
  rw [g0, g0', g1]
theorem cl_zero (M : Mach good ways n) (hn : 0 < n) : Cl (ltT good ways 0) (List.range n) (round0 good) := by
  have h0 : Cl (fun _ _ => False) (List.range n) [List.range n] := by
    refine ⟨fun _ => true, (List.filter_eq_self.mpr fun _ _ => rfl).symm, (fun e => by have := congrArg List.length e; simp at this; omega), fun _ _ _ _ _ _ q => q, (fun _ _ _ _ _ q => by cases q), ?_⟩
    show List.filter _ _ = []
    exact List.filter_eq_nil_iff.mpr fun _ _ q => by cases q
  have h1 := Cl.parted (fun st => good.getD st false) h0
  have e : round0 good = parted (fun st => good.getD st false) [List.range n] := by rw [round0, M.gn]
  rw [e]
  refine Cl.congr (fun a ha b hb => ?_) h1
  have k0 : ∀ i, i < n → keyT good ways 0 i = if good.getD i false = true then [43] else [45] := fun i hi => by
    have hi' : i < good.length := by rw [M.gn]; exact hi
    unfold keyT tabs tab0
    rw [List.getD_eq_getElem?_getD, List.getElem?_map, List.getElem?_eq_getElem hi', List.getD_eq_getElem?_getD, List.getElem?_eq_getElem hi']
    simp only [Option.map_some, Option.getD_some]
    split <;> rfl
  unfold refF ltT
  rw [k0 a (List.mem_range.mp ha), k0 b (List.mem_range.mp hb)]
  simp only [not_false_eq_true, true_and, false_or]
  cases good.getD a false <;> cases good.getD b false <;> decide
theorem cl_kind {key : Nat → Str} : ∀ (order : List Str) (U : List Nat), order.Pairwise (fun a b => a.cps.toList < b.cps.toList) → (∀ s ∈ U, key s ∈ order) → (∀ k ∈ order, ∃ s ∈ U, key s = k) → Cl (fun a b => (key a).cps.toList < (key b).cps.toList) U (order.map fun k => U.filter fun s => key s == k)
  | [], U, _, h, _ => by
    show U = []
    cases U with
    | nil => rfl
    | cons a r => exact absurd (h a (by simp)) (by simp)
  | k :: r, U, hp, h, hs => by
    obtain ⟨h1, h2⟩ := List.pairwise_cons.mp hp
    obtain ⟨s0, hs0, e0⟩ := hs k (by simp)
    have kr : k ∉ r := fun q => List.lt_irrefl _ (h1 k q)
    refine ⟨fun s => key s == k, rfl, fun e => ?_, fun a _ b _ ea eb => ?_, fun a _ b hb ea eb => ?_, ?_⟩
    · have : s0 ∈ U.filter fun s => key s == k := List.mem_filter.mpr ⟨hs0, by simp [e0]⟩
      dsimp only at e
      rw [e] at this; cases this
    · dsimp only at ea eb ⊢
      rw [beq_iff_eq.mp ea, beq_iff_eq.mp eb]; exact List.lt_irrefl _
    · dsimp only at ea eb ⊢
      have hk : key b ∈ r := by
        rcases List.mem_cons.mp (h b hb) with q | q
        · rw [q] at eb; simp at eb
        · exact q
      rw [beq_iff_eq.mp ea]; exact h1 _ hk
    · have ih := cl_kind r (U.filter fun s => !(key s == k)) h2 (fun s hs' => by
        obtain ⟨a, b⟩ := List.mem_filter.mp hs'
        rcases List.mem_cons.mp (h s a) with q | q
        · rw [q] at b; simp at b
        · exact q) (fun k' hk' => by
        obtain ⟨s, a, b⟩ := hs k' (by simp [hk'])
        refine ⟨s, List.mem_filter.mpr ⟨a, ?_⟩, b⟩
        rw [b]; simp; intro q; exact kr (q ▸ hk'))
      have e : (r.map fun k' => U.filter fun s => key s == k') = r.map fun k' => (U.filter fun s => !(key s == k)).filter fun s => key s == k' := List.map_congr_left fun k' hk' => by
        rw [List.filter_filter]
        refine List.filter_congr fun s _ => ?_
        by_cases q : key s = k'
        · have : key s ≠ k := fun z => kr (by rw [← z, q]; exact hk')
          rw [beq_iff_eq.mpr q, beq_eq_false_iff_ne.mpr this]; rfl
        · rw [beq_eq_false_iff_ne.mpr q]; rfl
      rw [e]; exact ih
theorem str_ext {a b : Str} (h : a.cps.toList = b.cps.toList) : a = b := by
  cases a; cases b; simp only [Str.mk.injEq]; exact Array.toList_inj.mp h
theorem cl_order {t : Nat} {order : List Str} (M : Mach good ways n) (ho : IsOrder (tabs good ways t) order) : Cl (ltT good ways t) (List.range n) (kindOf1 (tabs good ways t) order) := by
  have hl : (tabs good ways t).length = n := (tabs_len good ways t).trans M.gn
  unfold kindOf1
  rw [hl]
  refine cl_kind (key := fun i => (tabs good ways t).getD i ⟨#[]⟩) order (List.range n) ?_ (fun s hs => ?_) fun k hk => ?_
  · have h1 := ho.1
    have h2 := ho.2.2
    refine (List.pairwise_and_iff.mpr ⟨h1, h2⟩).imp fun {a b} hab => ?_
    obtain ⟨hne, hlt⟩ := hab
    cases Decidable.em (a.cps.toList < b.cps.toList) with
    | inl q => exact q
    | inr q => exact absurd (str_ext (lt_tri q hlt)) hne
  · rw [ho.2.1]
    have hs' : s < (tabs good ways t).length := by rw [hl]; exact List.mem_range.mp hs
    rw [List.getD_eq_getElem?_getD, List.getElem?_eq_getElem hs']
    exact List.getElem_mem hs'
  · obtain ⟨i, hi, e⟩ := List.mem_iff_getElem.mp ((ho.2.1 k).mp hk)
    refine ⟨i, List.mem_range.mpr (by omega), ?_⟩
    show (tabs good ways t).getD i ⟨#[]⟩ = k
    rw [List.getD_eq_getElem?_getD, List.getElem?_eq_getElem hi, e]; rfl
end
/-! the rounds stand still -/
theorem sides_one {f : Nat → Bool} {p : List Nat} (hp : p ≠ []) : 1 ≤ (sides f p).length ∧ ((sides f p).length ≤ 1 → sides f p = [p]) := by
  unfold sides
  cases q1 : (p.filter f).isEmpty with
  | true =>
    have e1 := List.isEmpty_iff.mp q1
    have e2 : (p.filter fun a => !f a) = p := List.filter_eq_self.mpr fun a ha => by
      have := List.filter_eq_nil_iff.mp e1 a ha
      simpa using this
    have q2 : p.isEmpty = false := by simpa using hp
    simp [List.filter_cons, q1, e2, q2]
  | false =>
    cases q2 : (p.filter fun a => !f a).isEmpty with
    | true =>
      have e1 := List.isEmpty_iff.mp q2
      have e2 : p.filter f = p := List.filter_eq_self.mpr fun a ha => by
        have := List.filter_eq_nil_iff.mp e1 a ha
        simpa using this
      rw [e2] at q1
      simp [List.filter_cons, q1, q2, e2]
    | false => simp [List.filter_cons, q1, q2]
theorem parted_len {f : Nat → Bool} : ∀ {P : List (List Nat)}, (∀ p ∈ P, p ≠ []) → P.length ≤ (parted f P).length ∧ ((parted f P).length ≤ P.length → parted f P = P)
  | [], _ => ⟨Nat.le_refl _, fun _ => rfl⟩
  | p :: r, h => by
    obtain ⟨h1, h2⟩ := sides_one (f := f) (h p (by simp))
    obtain ⟨h3, h4⟩ := parted_len (f := f) (P := r) fun x hx => h x (by simp [hx])
    rw [parted_cons, List.length_append, List.length_cons]
    refine ⟨by omega, fun hl => ?_⟩
    rw [h2 (by omega), h4 (by omega)]; rfl
theorem parted_nes {f : Nat → Bool} {P : List (List Nat)} : ∀ p ∈ parted f P, p ≠ [] := fun x hx q => by
  obtain ⟨y, _, hy⟩ := List.mem_flatMap.mp hx
  have := (List.mem_filter.mp hy).2
  rw [q] at this; simp at this
theorem finer1_len {way : List Nat} : ∀ (goals fin : List (List Nat)), (∀ p ∈ fin, p ≠ []) → fin.length ≤ (finer1 goals fin way).length ∧ ((finer1 goals fin way).length ≤ fin.length → finer1 goals fin way = fin) ∧ ∀ p ∈ finer1 goals fin way, p ≠ []
  | [], fin, h => ⟨Nat.le_refl _, fun _ => rfl, h⟩
  | g :: r, fin, h => by
    obtain ⟨h1, h2⟩ := parted_len (f := goesIn way g) h
    obtain ⟨h3, h4, h5⟩ := finer1_len (way := way) r (parted (goesIn way g) fin) parted_nes
    have e : finer1 (g :: r) fin way = finer1 r (parted (goesIn way g) fin) way := rfl
    rw [e]
    refine ⟨by omega, fun hl => ?_, h5⟩
    rw [h4 (by omega), h2 (by omega)]
theorem finer_len {parts : List (List Nat)} : ∀ (ways fin : List (List Nat)), (∀ p ∈ fin, p ≠ []) → fin.length ≤ (ways.foldl (finer1 parts) fin).length ∧ ((ways.foldl (finer1 parts) fin).length ≤ fin.length → ways.foldl (finer1 parts) fin = fin)
  | [], fin, _ => ⟨Nat.le_refl _, fun _ => rfl⟩
  | w :: r, fin, h => by
    obtain ⟨h1, h2, h3⟩ := finer1_len (way := w) parts fin h
    obtain ⟨h4, h5⟩ := finer_len (parts := parts) r _ h3
    rw [List.foldl_cons]
    refine ⟨by omega, fun hl => ?_⟩
    rw [h5 (by omega), h2 (by omega)]
theorem finerF_still {P ways : List (List Nat)} (hP : ∀ p ∈ P, p ≠ []) (h : ¬ P.length < (finerF P ways).length) : finerF P ways = P := (finer_len (parts := P) ways P hP).2 (by unfold finerF at h; omega)
theorem Cl.ne {lt : Nat → Nat → Prop} : ∀ {P : List (List Nat)} {U : List Nat}, Cl lt U P → ∀ p ∈ P, p ≠ []
  | [], _, _, _, hp => nomatch hp
  | q :: r, U, ⟨f, _, h2, _, _, h5⟩, p, hp => by
    rcases List.mem_cons.mp hp with h | h
    · subst h; exact h2
    · exact Cl.ne h5 p h
section
variable {good : List Bool} {ways : List (List Nat)} {n : Nat} {rs : List (List (List Nat))}
/-- round min(t, last) is the classes of turn t -/
theorem rounds_cl (M : Mach good ways n) (hn : 0 < n) (hr : IsRounds good ways rs) (hs : ∀ r, rs.getLast? = some r → ¬ r.length < (finerF r ways).length) (t : Nat) : Cl (ltT good ways t) (List.range n) (rs.getD (min t (rs.length - 1)) []) := by
  have hpos : 0 < rs.length := (List.getElem?_eq_some_iff.mp hr.head).1
  induction t with
  | zero =>
    have e : rs.getD (min 0 (rs.length - 1)) [] = round0 good := by rw [Nat.zero_min, List.getD_eq_getElem?_getD, hr.head]; rfl
    rw [e]; exact cl_zero M hn
  | succ t ih =>
    have ih' := cl_succ M ih
    by_cases q : t + 1 < rs.length
    · have e1 : min t (rs.length - 1) = t := by omega
      have e2 : min (t + 1) (rs.length - 1) = t + 1 := by omega
      rw [e1] at ih'
      rw [e2]
      obtain ⟨h1, _⟩ := hr.step t rs[t] rs[t + 1] (List.getElem?_eq_getElem (by omega)) (List.getElem?_eq_getElem q)
      have a1 : rs.getD t [] = rs[t] := by rw [List.getD_eq_getElem?_getD, List.getElem?_eq_getElem (by omega)]; rfl
      have a2 : rs.getD (t + 1) [] = rs[t + 1] := by rw [List.getD_eq_getElem?_getD, List.getElem?_eq_getElem q]; rfl
      rw [a2, h1, ← a1]; exact ih'
    · have e1 : min t (rs.length - 1) = rs.length - 1 := by omega
      have e2 : min (t + 1) (rs.length - 1) = rs.length - 1 := by omega
      rw [e1] at ih ih'
      rw [e2]
      have hl : rs.getLast? = some (rs.getD (rs.length - 1) []) := by
        rw [List.getLast?_eq_getElem?, List.getD_eq_getElem?_getD, List.getElem?_eq_getElem (by omega)]; rfl
      rw [finerF_still (Cl.ne ih) (hs _ hl)] at ih'
      exact ih'
theorem rounds_kinds (M : Mach good ways n) (hn : 0 < n) (hr : IsRounds good ways rs) (hs : ∀ r, rs.getLast? = some r → ¬ r.length < (finerF r ways).length) {ks : List (List (List Nat))} (hk : IsKinds good ways ks) (hl : ks.length = n) :
    (List.range n).map (fun t => rs.getD (min t (rs.length - 1)) []) = ks := by
  apply List.ext_getElem
  · simp [hl]
  · intro t h1 h2
    obtain ⟨order, ho, e⟩ := hk t ks[t] (List.getElem?_eq_getElem h2)
    simp only [List.getElem_map, List.getElem_range]
    rw [e]
    exact Cl.unique (ltT_asym good ways t) (rounds_cl M hn hr hs t) (cl_order M ho)
theorem together (M : Mach good ways n) (hn : 0 < n) (hr : IsRounds good ways rs) (hs : ∀ r, rs.getLast? = some r → ¬ r.length < (finerF r ways).length) {p q : Nat} (hp : p < n) (hq : q < n) (t : Nat) :
    ((rs.getD (min t (rs.length - 1)) []).any fun part => part.contains p && part.contains q) = true ↔ keyT good ways t p = keyT good ways t q := by
  rw [Cl.same (rounds_cl M hn hr hs t) p (List.mem_range.mpr hp) q (List.mem_range.mpr hq)]
  exact ⟨fun h => lt_tri h.1 h.2, fun h => by unfold ltT; rw [h]; exact ⟨List.lt_irrefl _, List.lt_irrefl _⟩⟩
end
end Mine
end

-- PlainB
section
open PySem PySem.W PyProof.Rows
set_option linter.all false
set_option autoImplicit false
namespace Mine
/-! the march of the pairs finds the least turn -/
def ap (good : List Bool) (ways : List (List Nat)) (i p q : Nat) : Prop := keyT good ways i p ≠ keyT good ways i q
theorem ap_symm {good : List Bool} {ways : List (List Nat)} {i p q : Nat} (h : ap good ways i p q) : ap good ways i q p := fun e => h e.symm
def SgInj (names : Str) (n : Nat) : Prop := ∀ i j, i < n → j < n → sg names i = sg names j → i = j
theorem sg2_inj {names : Str} {a b c d : Nat} (h : sg names a ++ sg names b = sg names c ++ sg names d) : sg names a = sg names c ∧ sg names b = sg names d := by
  have h1 : (sg names a ++ sg names b).cps.toList = (sg names c ++ sg names d).cps.toList := by rw [h]
  rw [Str.cps_append, Str.cps_append, Array.toList_append, Array.toList_append] at h1
  obtain ⟨h2, h3⟩ := List.append_inj h1 rfl
  exact ⟨str_ext h2, str_ext h3⟩
section
variable {names : Str} {good : List Bool} {ways : List (List Nat)} {n : Nat}
theorem mem_pairs {t : Tri} (hn : names.length = n) : t ∈ pairsF names ways ↔ ∃ p q, p < q ∧ q < n ∧ t = triF names ways q p := by
  unfold pairsF
  rw [List.mem_flatMap, hn]
  constructor
  · rintro ⟨q, hq, ht⟩
    obtain ⟨p, hp, e⟩ := List.mem_map.mp ht
    exact ⟨p, q, List.mem_range.mp hp, List.mem_range.mp hq, e.symm⟩
  · rintro ⟨p, q, h1, h2, e⟩
    exact ⟨q, List.mem_range.mpr h2, List.mem_map.mpr ⟨p, List.mem_range.mpr h1, e.symm⟩⟩
theorem key_inj (inj : SgInj names n) {p q p' q' : Nat} (h1 : p < q) (h2 : q < n) (h3 : p' < q') (h4 : q' < n) (h : keyF names (triF names ways q p) = keyF names (triF names ways q' p')) : p = p' ∧ q = q' := by
  obtain ⟨e1, e2⟩ := sg2_inj h
  exact ⟨inj _ _ (by omega) (by omega) e1, inj _ _ (by omega) (by omega) e2⟩
theorem pairs_nodup (inj : SgInj names n) (hn : names.length = n) : ((pairsF names ways).map (keyF names)).Nodup := by
  unfold pairsF
  rw [List.map_flatMap, hn]
  have one : ∀ q, q < n → (((List.range q).map (triF names ways q)).map (keyF names)).Nodup := fun q hq => by
    rw [List.map_map, List.Nodup, List.pairwise_map]
    refine List.Pairwise.imp_of_mem ?_ List.nodup_range
    intro a b ha hb hne e
    exact hne (key_inj inj (List.mem_range.mp ha) hq (List.mem_range.mp hb) hq e).1
  have all : ∀ m, m ≤ n → ((List.range m).flatMap fun q => ((List.range q).map (triF names ways q)).map (keyF names)).Nodup := by
    intro m
    induction m with
    | zero => intro _; simp
    | succ m ih =>
      intro hm
      rw [List.range_succ, List.flatMap_append]
      refine List.nodup_append.mpr ⟨ih (by omega), by simpa using one m (by omega), fun x hx y hy e => ?_⟩
      obtain ⟨q, hq, hx⟩ := List.mem_flatMap.mp hx
      rw [List.map_map] at hx
      obtain ⟨p, hp, ex⟩ := List.mem_map.mp hx
      have hy' : y ∈ ((List.range m).map (triF names ways m)).map (keyF names) := by simpa using hy
      rw [List.map_map] at hy'
      obtain ⟨p', hp', ey⟩ := List.mem_map.mp hy'
      have hq' := List.mem_range.mp hq
      have := key_inj (ways := ways) inj (List.mem_range.mp hp) (by omega) (List.mem_range.mp hp') (by omega) (by rw [← ex, ← ey] at e; exact e)
      omega
  exact all n (Nat.le_refl _)
theorem pairs_len (hn : names.length = n) (h : n ≤ 6) : (pairsF names ways).length ≤ 15 := by
  unfold pairsF
  rw [List.length_flatMap, hn]
  simp only [List.length_map, List.length_range]
  have : ∀ m, m ≤ 6 → ((List.range m).map fun q => q).sum ≤ 15 := by decide
  exact this n h

theorem ap_zero (M : Mach good ways n) {p q : Nat} (hp : p < n) (hq : q < n) : ap good ways 0 p q ↔ good.getD p false ≠ good.getD q false := by
  have k0 : ∀ i, i < n → keyT good ways 0 i = if good.getD i false = true then [43] else [45] := fun i hi => by
    have hi' : i < good.length := by rw [M.gn]; exact hi
    unfold keyT tabs tab0
    rw [List.getD_eq_getElem?_getD, List.getElem?_map, List.getElem?_eq_getElem hi', List.getD_eq_getElem?_getD, List.getElem?_eq_getElem hi']
    simp only [Option.map_some, Option.getD_some]
    split <;> rfl
  unfold ap
  rw [k0 p hp, k0 q hq]
  cases good.getD p false <;> cases good.getD q false <;> decide
theorem ap_succ (M : Mach good ways n) {i p q : Nat} (hp : p < n) (hq : q < n) : ap good ways (i + 1) p q ↔ ap good ways i p q ∨ ap good ways i ((ways.getD 0 []).getD p 0) ((ways.getD 0 []).getD q 0) ∨ ap good ways i ((ways.getD 1 []).getD p 0) ((ways.getD 1 []).getD q 0) := by
  unfold ap
  rw [Ne, key_eq_succ M hp hq]
  by_cases h1 : keyT good ways i p = keyT good ways i q <;> by_cases h2 : keyT good ways i ((ways.getD 0 []).getD p 0) = keyT good ways i ((ways.getD 0 []).getD q 0) <;> simp only [h1, h2, true_and, false_and, and_self, ne_eq, not_true_eq_false, not_false_eq_true, false_or, true_or, and_true, and_false, or_true]
theorem goals_mem (M : Mach good ways n) {p q : Nat} {k : Str} : k ∈ (triF names ways q p).2.2 ↔ k = goalF names p q (ways.getD 0 []) ∨ k = goalF names p q (ways.getD 1 []) := by
  obtain ⟨w0, w1, rfl⟩ : ∃ w0 w1, ways = [w0, w1] := by
    have := M.wl
    match ways, this with
    | [a, b], _ => exact ⟨a, b, rfl⟩
  show k ∈ [goalF names p q w0, goalF names p q w1] ↔ k = goalF names p q w0 ∨ k = goalF names p q w1
  simp
/-- what a goal's text says -/
theorem goal_ap (inj : SgInj names n) {i p q a b : Nat} {w : List Nat} (hp : w.getD p 0 < n) (hq : w.getD q 0 < n) (hab : a < b) (hb : b < n) (e : keyF names (triF names ways b a) = goalF names p q w) (h : ap good ways i a b) : ap good ways i (w.getD p 0) (w.getD q 0) := by
  obtain ⟨e1, e2⟩ := sg2_inj (a := a) (b := b) (c := min (w.getD p 0) (w.getD q 0)) (d := max (w.getD p 0) (w.getD q 0)) e
  have h1 := inj _ _ (by omega) (by omega) e1
  have h2 := inj _ _ (by omega) (by omega) e2
  by_cases q' : w.getD p 0 ≤ w.getD q 0
  · rw [Nat.min_eq_left q'] at h1
    rw [Nat.max_eq_right q'] at h2
    rw [← h1, ← h2]; exact h
  · rw [Nat.min_eq_right (by omega)] at h1
    rw [Nat.max_eq_left (by omega)] at h2
    rw [← h1, ← h2]; exact ap_symm h
theorem ap_goal {i p q : Nat} {w : List Nat} (hp : w.getD p 0 < n) (hq : w.getD q 0 < n) (h : ap good ways i (w.getD p 0) (w.getD q 0)) : ∃ a b, a < b ∧ b < n ∧ keyF names (triF names ways b a) = goalF names p q w ∧ ap good ways i a b := by
  have hne : w.getD p 0 ≠ w.getD q 0 := fun e => h (by rw [e])
  by_cases q' : w.getD p 0 ≤ w.getD q 0
  · refine ⟨w.getD p 0, w.getD q 0, by omega, hq, ?_, h⟩
    unfold goalF
    rw [Nat.min_eq_left q', Nat.max_eq_right q']; rfl
  · refine ⟨w.getD q 0, w.getD p 0, by omega, hp, ?_, ap_symm h⟩
    unfold goalF
    rw [Nat.min_eq_right (by omega), Nat.max_eq_left (by omega)]; rfl
def Snd (names : Str) (good : List Bool) (ways : List (List Nat)) (n : Nat) (D : List KN) : Prop := ∀ k d, (k, d) ∈ D → ∃ p q, p < q ∧ q < n ∧ k = keyF names (triF names ways q p) ∧ ap good ways d p q
structure Grow (names : Str) (good : List Bool) (ways : List (List Nat)) (n d : Nat) (D : List KN) : Prop where
  ok : DOk names (pairsF names ways) D
  snd : Snd names good ways n D
  mono : D.Pairwise fun x y => x.2 ≤ y.2
  top : ∀ x ∈ D, x.2 ≤ d + 1
theorem Grow.put1 (M : Mach good ways n) (hn : names.length = n) (inj : SgInj names n) {d a b : Nat} {D : List KN} {t : Tri} (hab : a < b) (hb : b < n) (hap : ap good ways d a b) (G : Grow names good ways n d D) (ht : t ∈ pairsF names ways) :
    Grow names good ways n d (put1 names (keyF names (triF names ways b a)) d D t) ∧ (keyF names (triF names ways b a) ∈ t.2.2 → ∃ e, e ≤ d + 1 ∧ (keyF names t, e) ∈ put1 names (keyF names (triF names ways b a)) d D t) := by
  obtain ⟨p, q, hp, hq, et⟩ := (mem_pairs hn).mp ht
  have okp := G.ok.put1 (k := keyF names (triF names ways b a)) (d := d) ht
  unfold Mine.put1 at okp ⊢
  by_cases hc : t.2.2.contains (keyF names (triF names ways b a)) = true
  · by_cases hc2 : (D.map (·.1)).contains (keyF names t) = true
    · rw [if_neg (by rw [hc, hc2]; decide)]
      refine ⟨G, fun _ => ?_⟩
      obtain ⟨x, hx, ex⟩ := List.mem_map.mp (List.contains_iff_mem.mp hc2)
      exact ⟨x.2, G.top x hx, by rw [← ex]; exact hx⟩
    · have hc2' : (D.map (·.1)).contains (keyF names t) = false := by simpa using hc2
      have hcond : (t.2.2.contains (keyF names (triF names ways b a)) && !(D.map (·.1)).contains (keyF names t)) = true := by rw [hc, hc2']; rfl
      rw [if_pos hcond] at okp ⊢
      refine ⟨⟨okp, fun k e hk => ?_, ?_, fun x hx => ?_⟩, fun _ => ⟨d + 1, Nat.le_refl _, by simp⟩⟩
      · rcases List.mem_append.mp hk with h | h
        · exact G.snd k e h
        · simp only [List.mem_singleton, Prod.mk.injEq] at h
          obtain ⟨h1, h2⟩ := h
          refine ⟨p, q, hp, hq, by rw [h1, et], ?_⟩
          rw [h2, ap_succ M (by omega) hq]
          have hm := List.contains_iff_mem.mp hc
          rw [et] at hm
          rcases (goals_mem M).mp hm with g | g
          · exact .inr (.inl (goal_ap inj (M.at0 (by omega)) (M.at0 hq) hab hb g hap))
          · exact .inr (.inr (goal_ap inj (M.at1 (by omega)) (M.at1 hq) hab hb g hap))
      · refine List.pairwise_append.mpr ⟨G.mono, List.pairwise_singleton _ _, fun x hx y hy => ?_⟩
        simp only [List.mem_singleton] at hy
        subst hy; exact G.top x hx
      · rcases List.mem_append.mp hx with h | h
        · exact G.top x h
        · simp only [List.mem_singleton] at h; subst h; exact Nat.le_refl _
  · rw [if_neg (by rw [Bool.and_eq_true]; exact fun z => hc z.1)]
    exact ⟨G, fun h => absurd (List.contains_iff_mem.mpr h) hc⟩
theorem put1_sub {k : Str} {d : Nat} {D : List KN} {t : Tri} {x : KN} (h : x ∈ D) : x ∈ put1 names k d D t := by
  obtain ⟨r, e⟩ := put1_pre (names := names) (k := k) (d := d) (D := D) (t := t)
  rw [e]; exact List.mem_append_left _ h
theorem fold_sub {k : Str} {d : Nat} (l : List Tri) {D : List KN} {x : KN} (h : x ∈ D) : x ∈ l.foldl (put1 names k d) D := by
  obtain ⟨r, e⟩ := fold_pre (names := names) (k := k) (d := d) l D
  rw [e]; exact List.mem_append_left _ h
theorem Grow.fold (M : Mach good ways n) (hn : names.length = n) (inj : SgInj names n) {d a b : Nat} (hab : a < b) (hb : b < n) (hap : ap good ways d a b) : ∀ (l : List Tri) {D : List KN}, (∀ t ∈ l, t ∈ pairsF names ways) → Grow names good ways n d D →
    Grow names good ways n d (l.foldl (Mine.put1 names (keyF names (triF names ways b a)) d) D) ∧ ∀ t ∈ l, keyF names (triF names ways b a) ∈ t.2.2 → ∃ e, e ≤ d + 1 ∧ (keyF names t, e) ∈ l.foldl (Mine.put1 names (keyF names (triF names ways b a)) d) D
  | [], D, _, G => ⟨G, fun _ h => nomatch h⟩
  | t :: l, D, hl, G => by
    obtain ⟨G1, h1⟩ := Grow.put1 M hn inj hab hb hap G (hl t (by simp))
    obtain ⟨G2, h2⟩ := Grow.fold M hn inj hab hb hap l (fun x hx => hl x (by simp [hx])) G1
    rw [List.foldl_cons]
    refine ⟨G2, fun u hu hk => ?_⟩
    rcases List.mem_cons.mp hu with h | h
    · subst h
      obtain ⟨e, he, hm⟩ := h1 hk
      exact ⟨e, he, fold_sub l hm⟩
    · exact h2 u h hk
structure RunOk (names : Str) (good : List Bool) (ways : List (List Nat)) (n : Nat) (D : List KN) (c : Nat) : Prop where
  ok : DOk names (pairsF names ways) D
  snd : Snd names good ways n D
  mono : D.Pairwise fun x y => x.2 ≤ y.2
  top : ∀ k d, D[c]? = some (k, d) → ∀ x ∈ D, x.2 ≤ d + 1
  put : ∀ t ∈ pairsF names ways, odd2 good t = true → (keyF names t, 0) ∈ D
  clo : ∀ j k d, j < c → D[j]? = some (k, d) → ∀ t ∈ pairsF names ways, k ∈ t.2.2 → ∃ e, e ≤ d + 1 ∧ (keyF names t, e) ∈ D
theorem run_ok (M : Mach good ways n) (hn : names.length = n) (inj : SgInj names n) {D : List KN} {c : Nat} (h : Run names good (pairsF names ways) D c) : RunOk names good ways n D c := by
  induction h with
  | start =>
    have z : ∀ x ∈ put0 names good (pairsF names ways), x.2 = 0 := fun x hx => by
      obtain ⟨t, _, e⟩ := List.mem_map.mp hx
      rw [← e]
    refine ⟨put0_ok (pairs_nodup inj hn), fun k d hk => ?_, ?_, fun k d _ x hx => by rw [z x hx]; omega, fun t ht ho => List.mem_map.mpr ⟨t, List.mem_filter.mpr ⟨ht, ho⟩, rfl⟩, fun j k d hj => by omega⟩
    · obtain ⟨t, ht, e⟩ := List.mem_map.mp hk
      obtain ⟨ht1, ht2⟩ := List.mem_filter.mp ht
      obtain ⟨p, q, hp, hq, et⟩ := (mem_pairs hn).mp ht1
      cases e
      refine ⟨p, q, hp, hq, by rw [et], ?_⟩
      rw [ap_zero M (by omega) hq]
      subst et
      exact of_decide_eq_true ht2
    · refine List.Pairwise.imp_of_mem (R := fun _ _ => True) ?_ (List.pairwise_of_forall (fun _ _ => trivial))
      intro a b ha hb _
      rw [z a ha, z b hb]; exact Nat.le_refl _
  | @step D c k d h hc ih =>
    obtain ⟨a, b, hab, hb, ek, hap⟩ := ih.snd k d (List.mem_of_getElem? hc)
    subst ek
    obtain ⟨G, hG⟩ := Grow.fold M hn inj hab hb hap (pairsF names ways) (fun _ h => h) ⟨ih.ok, ih.snd, ih.mono, ih.top _ _ hc⟩
    obtain ⟨r, er⟩ := fold_pre (names := names) (k := keyF names (triF names ways b a)) (d := d) (pairsF names ways) D
    have pre : ∀ j, j < D.length → (stepD names (pairsF names ways) (keyF names (triF names ways b a)) d D)[j]? = D[j]? := fun j hj => by
      show (List.foldl _ _ _)[j]? = _
      rw [er, List.getElem?_append_left hj]
    have hcl : c < D.length := (List.getElem?_eq_some_iff.mp hc).1
    refine ⟨G.ok, G.snd, G.mono, fun k' d' hk' x hx => ?_, fun t ht ho => fold_sub _ (ih.put t ht ho), fun j k' d' hj hk' t ht hm => ?_⟩
    · have h1 := G.top x hx
      have hc' : (stepD names (pairsF names ways) (keyF names (triF names ways b a)) d D)[c]? = some (keyF names (triF names ways b a), d) := (pre c hcl).trans hc
      obtain ⟨l1, e1⟩ := List.getElem?_eq_some_iff.mp hc'
      obtain ⟨l2, e2⟩ := List.getElem?_eq_some_iff.mp hk'
      have := List.pairwise_iff_getElem.mp G.mono c (c + 1) l1 l2 (by omega)
      have e1' := congrArg Prod.snd e1
      have e2' := congrArg Prod.snd e2
      have this' : ((stepD names (pairsF names ways) (keyF names (triF names ways b a)) d D)[c]).2 ≤ ((stepD names (pairsF names ways) (keyF names (triF names ways b a)) d D)[c + 1]).2 := this
      rw [e1', e2'] at this'
      have : d ≤ d' := this'
      omega
    · by_cases q : j < c
      · rw [pre j (by omega)] at hk'
        obtain ⟨e, he, hm'⟩ := ih.clo j k' d' q hk' t ht hm
        exact ⟨e, he, fold_sub _ hm'⟩
      · have : j = c := by omega
        subst this
        rw [pre j hcl, hc] at hk'
        cases hk'
        exact hG t ht hm
theorem run_all (M : Mach good ways n) (hn : names.length = n) {D : List KN} (R : RunOk names good ways n D D.length) : ∀ (i p q : Nat), p < q → q < n → ap good ways i p q → ∃ e, e ≤ i ∧ (keyF names (triF names ways q p), e) ∈ D := by
  intro i
  induction i with
  | zero =>
    intro p q hp hq h
    refine ⟨0, Nat.le_refl _, R.put _ ((mem_pairs hn).mpr ⟨p, q, hp, hq, rfl⟩) ?_⟩
    show decide (good.getD p false ≠ good.getD q false) = true
    exact decide_eq_true ((ap_zero M (by omega) hq).mp h)
  | succ i ih =>
    intro p q hp hq h
    have goal : ∀ w : List Nat, w.getD p 0 < n → w.getD q 0 < n → (goalF names p q w ∈ (triF names ways q p).2.2) → ap good ways i (w.getD p 0) (w.getD q 0) → ∃ e, e ≤ i + 1 ∧ (keyF names (triF names ways q p), e) ∈ D := fun w h1 h2 hg h3 => by
      obtain ⟨a, b, hab, hb, ek, hap⟩ := ap_goal (names := names) h1 h2 h3
      obtain ⟨e, he, hm⟩ := ih a b hab hb hap
      rw [ek] at hm
      obtain ⟨j, hj⟩ := List.mem_iff_getElem?.mp hm
      obtain ⟨e', he', hm'⟩ := R.clo j _ e (List.getElem?_eq_some_iff.mp hj).1 hj _ ((mem_pairs hn).mpr ⟨p, q, hp, hq, rfl⟩) hg
      exact ⟨e', by omega, hm'⟩
    rcases (ap_succ M (by omega) hq).mp h with h | h | h
    · obtain ⟨e, he, hm⟩ := ih p q hp hq h
      exact ⟨e, by omega, hm⟩
    · exact goal _ (M.at0 (by omega)) (M.at0 hq) ((goals_mem M).mpr (.inl rfl)) h
    · exact goal _ (M.at1 (by omega)) (M.at1 hq) ((goals_mem M).mpr (.inr rfl)) h
end
/-- how many rounds hold both -/
def wholeF (rs : List (List (List Nat))) (t : Tri) : Nat := (rs.filter fun parts => parts.any fun part => part.contains t.1 && part.contains t.2.1).length
def dueF (names : Str) (rs : List (List (List Nat))) (pairs : List Tri) : List KN := (pairs.filter fun t => decide (wholeF rs t < rs.length)).map fun t => (keyF names t, wholeF rs t)
theorem filt_pre {α : Type} {f : α → Bool} : ∀ {l : List α}, l.Pairwise (fun x y => f y = true → f x = true) → (∀ (i : Nat) x, i < (l.filter f).length → l[i]? = some x → f x = true) ∧ ∀ x, l[(l.filter f).length]? = some x → f x = false
  | [], _ => ⟨fun i x h => by simp at h, fun x h => by simp at h⟩
  | a :: r, h => by
    obtain ⟨h1, h2⟩ := List.pairwise_cons.mp h
    cases q : f a with
    | true =>
      obtain ⟨h3, h4⟩ := filt_pre h2
      rw [List.filter_cons_of_pos q, List.length_cons]
      refine ⟨fun i x hi hx => ?_, fun x hx => h4 x (by simpa using hx)⟩
      cases i with
      | zero => simp at hx; rw [← hx]; exact q
      | succ i => exact h3 i x (by omega) (by simpa using hx)
    | false =>
      have e : r.filter f = [] := List.filter_eq_nil_iff.mpr fun y hy fy => by
        have := h1 y hy fy
        rw [q] at this; cases this
      rw [List.filter_cons_of_neg (by rw [q]; decide), e]
      refine ⟨fun i x hi => by simp at hi, fun x hx => ?_⟩
      simp at hx; rw [← hx]; exact q
section
variable {names : Str} {good : List Bool} {ways : List (List Nat)} {n : Nat} {rs : List (List (List Nat))}
theorem key_down (M : Mach good ways n) {p q i : Nat} (hp : p < n) (hq : q < n) : ∀ j, keyT good ways (i + j) p = keyT good ways (i + j) q → keyT good ways i p = keyT good ways i q := by
  intro j
  induction j with
  | zero => exact id
  | succ j ih => intro h; exact ih ((key_eq_succ M hp hq).mp h).1
theorem whole_is (M : Mach good ways n) (h0 : 0 < n) (hr : IsRounds good ways rs) (hs : ∀ r, rs.getLast? = some r → ¬ r.length < (finerF r ways).length) {p q : Nat} (hp : p < n) (hq : q < n) :
    (∀ i, i < wholeF rs (triF names ways q p) → ¬ ap good ways i p q) ∧ (wholeF rs (triF names ways q p) < rs.length → ap good ways (wholeF rs (triF names ways q p)) p q) ∧ (¬ wholeF rs (triF names ways q p) < rs.length → ∀ i, ¬ ap good ways i p q) := by
  have hpos : 0 < rs.length := (List.getElem?_eq_some_iff.mp hr.head).1
  have tog : ∀ i x, rs[i]? = some x → ((x.any fun part => part.contains p && part.contains q) = true ↔ keyT good ways i p = keyT good ways i q) := fun i x hx => by
    have hi := (List.getElem?_eq_some_iff.mp hx).1
    have h := together M h0 hr hs hp hq i
    rw [Nat.min_eq_left (by omega), List.getD_eq_getElem?_getD, hx] at h
    exact h
  have pw : rs.Pairwise (fun x y => (y.any fun part => part.contains p && part.contains q) = true → (x.any fun part => part.contains p && part.contains q) = true) := by
    rw [List.pairwise_iff_getElem]
    intro i j hi hj hij h
    rw [tog i rs[i] (List.getElem?_eq_getElem hi)]
    rw [tog j rs[j] (List.getElem?_eq_getElem hj)] at h
    have e : j = i + (j - i) := by omega
    rw [e] at h
    exact key_down M hp hq _ h
  obtain ⟨h1, h2⟩ := filt_pre pw
  have e : wholeF rs (triF names ways q p) = (rs.filter fun parts => parts.any fun part => part.contains p && part.contains q).length := rfl
  have le : wholeF rs (triF names ways q p) ≤ rs.length := List.length_filter_le _ _
  rw [← e] at h1 h2
  refine ⟨fun i hi h => h ?_, fun hl => ?_, fun hl i h => h ?_⟩
  · have hi' : i < rs.length := by omega
    exact (tog i rs[i] (List.getElem?_eq_getElem hi')).mp (h1 i _ hi (List.getElem?_eq_getElem hi'))
  · intro h
    have := h2 _ (List.getElem?_eq_getElem hl)
    rw [(tog _ _ (List.getElem?_eq_getElem hl)).mpr h] at this
    cases this
  · rw [← together M h0 hr hs hp hq i]
    have hm : min i (rs.length - 1) < rs.length := by omega
    rw [List.getD_eq_getElem?_getD, List.getElem?_eq_getElem hm]
    exact h1 _ _ (by omega) (List.getElem?_eq_getElem hm)
/-- the march and the rounds tell the same -/
theorem march_due (M : Mach good ways n) (h0 : 0 < n) (hn : names.length = n) (inj : SgInj names n) (hr : IsRounds good ways rs) (hs : ∀ r, rs.getLast? = some r → ¬ r.length < (finerF r ways).length) {D : List KN} (h : Run names good (pairsF names ways) D D.length) :
    D.Perm (dueF names rs (pairsF names ways)) ∧ (D.map (·.1)).Nodup := by
  have R := run_ok M hn inj h
  have uniq : ∀ k d e, (k, d) ∈ D → (k, e) ∈ D → d = e := fun k d e h1 h2 => by
    obtain ⟨i, hi⟩ := List.mem_iff_getElem?.mp h1
    obtain ⟨j, hj⟩ := List.mem_iff_getElem?.mp h2
    have e1 : (D.map (·.1))[i]? = some k := by rw [List.getElem?_map, hi]; rfl
    have e2 : (D.map (·.1))[j]? = some k := by rw [List.getElem?_map, hj]; rfl
    have := (List.getElem?_inj (by have := (List.getElem?_eq_some_iff.mp hi).1; simpa using this) R.ok.nd).mp (e1.trans e2.symm)
    subst this
    rw [hi] at hj; cases hj; rfl
  have nD : D.Nodup := by
    have := R.ok.nd
    rw [List.Nodup, List.pairwise_map] at this
    exact this.imp fun hne e => hne (by rw [e])
  have nE : (dueF names rs (pairsF names ways)).Nodup := by
    have := pairs_nodup (ways := ways) inj hn
    rw [List.Nodup, List.pairwise_map] at this
    unfold dueF
    rw [List.Nodup, List.pairwise_map]
    exact (this.filter _).imp fun hne e => hne (congrArg Prod.fst e)
  refine ⟨(List.perm_ext_iff_of_nodup nD nE).mpr fun x => ?_, R.ok.nd⟩
  obtain ⟨k, d⟩ := x
  unfold dueF
  rw [List.mem_map]
  constructor
  · intro hx
    obtain ⟨p, q, hp, hq, ek, hap⟩ := R.snd k d hx
    obtain ⟨w1, w2, w3⟩ := whole_is (names := names) M h0 hr hs (show p < n by omega) hq
    have hlt : wholeF rs (triF names ways q p) < rs.length := Decidable.byContradiction fun z => w3 z d hap
    obtain ⟨e, he, hm⟩ := run_all M hn R _ p q hp hq (w2 hlt)
    rw [← ek] at hm
    have := uniq k d e hx hm
    subst this
    have : wholeF rs (triF names ways q p) ≤ d := Nat.le_of_not_lt fun z => w1 d z hap
    exact ⟨triF names ways q p, List.mem_filter.mpr ⟨(mem_pairs hn).mpr ⟨p, q, hp, hq, rfl⟩, decide_eq_true hlt⟩, by rw [ek]; congr 1; omega⟩
  · rintro ⟨t, ht, e⟩
    obtain ⟨ht1, ht2⟩ := List.mem_filter.mp ht
    obtain ⟨p, q, hp, hq, et⟩ := (mem_pairs hn).mp ht1
    subst et
    obtain ⟨w1, w2, _⟩ := whole_is (names := names) M h0 hr hs (show p < n by omega) hq
    have hlt := of_decide_eq_true ht2
    obtain ⟨e', he', hm⟩ := run_all M hn R _ p q hp hq (w2 hlt)
    obtain ⟨p', q', hp', hq', ek', hap'⟩ := R.snd _ _ hm
    obtain ⟨e1, e2⟩ := key_inj inj hp hq hp' hq' ek'
    subst e1; subst e2
    have : wholeF rs (triF names ways q p) ≤ e' := Nat.le_of_not_lt fun z => w1 e' z hap'
    have : e' = wholeF rs (triF names ways q p) := by omega
    subst this
    rw [← e]; exact hm
end
end Mine
end

-- PlainL
section
open PySem PySem.W PyProof.Rows
set_option linter.all false
set_option autoImplicit false
namespace Mine
inductive Lexes : List Nat → List (List Nat) → List Nat → Prop
  | nil (cs : List Nat) : Lexes cs [] cs
  | cons {cs cs' t : List Nat} {ts : List (List Nat)} {r : List Nat} : outT cs = some (t, cs') → Lexes cs' ts r → Lexes cs (t :: ts) r
theorem out_whites : ∀ (w : List Nat) (x : List Nat), (∀ c ∈ w, c ∈ white) → outT (w ++ x) = outT x
  | [], _, _ => rfl
  | c :: w, x, h => by rw [List.cons_append, out_white (h c (by simp)), out_whites w x fun d hd => h d (by simp [hd])]
theorem out_nil : outT [] = some ([], []) := by unfold outT; rfl
theorem qu_list (row : Str) : (quF row).cps.toList = 34 :: (esc2 row.cps.toList ++ [34]) := by
  unfold quF
  rw [Str.cps_append, Str.cps_append, Array.toList_append, Array.toList_append]
  rfl
theorem three {row : Str} (h : row.length = 3) : row.cps.toList = [row.cps.getD 0 0, row.cps.getD 1 0, row.cps.getD 2 0] := by
  have h1 : row.cps.size = 3 := h
  apply List.ext_getElem
  · simp [h1]
  · intro i a b
    have : i < 3 := by simpa [h1] using a
    match i, this with
    | 0, _ => simp [h1]
    | 1, _ => simp [h1]
    | 2, _ => simp [h1]
theorem esc_list (row : Str) : (escF row).cps.toList = [92, row.cps.getD 0 0, 92, row.cps.getD 1 0, 92, row.cps.getD 2 0, 13, 32, 10, 9] := by
  unfold escF
  simp only [Str.cps_append, Array.toList_append, sg]
  rfl
def bodyL (rows : List Str) (halves : List Int) : List Nat := (List.zipWith pieceF rows halves).flatMap fun x => x.cps.toList
theorem lexes : ∀ (rows : List Str) (halves : List Int) (w : List Nat), rows.length = halves.length → (∀ r ∈ rows, r.length = 3) → (∀ c ∈ w, c ∈ white) → Lexes (w ++ bodyL rows halves) (rows.map (fun r => r.cps.toList) ++ [[]]) []
  | [], halves, w, _, _, hw => by
    have e : bodyL [] halves = [] := by simp [bodyL]
    rw [e]
    exact .cons ((out_whites w [] hw).trans out_nil) (.nil _)
  | r :: rs, [], w, h, _, _ => by simp at h
  | r :: rs, h :: hs, w, hl, h3, hw => by
    have e : bodyL (r :: rs) (h :: hs) = (pieceF r h).cps.toList ++ bodyL rs hs := by simp [bodyL]
    have hl' : rs.length = hs.length := by simpa using hl
    rw [e]
    unfold pieceF
    by_cases q : h.fmod 2 = 0
    · rw [if_pos q, qu_list]
      have ih := lexes rs hs [] hl' (fun x hx => h3 x (by simp [hx])) (fun _ h => nomatch h)
      refine .cons ?_ ih
      rw [out_whites w _ hw]
      have := out_quo r.cps.toList (bodyL rs hs)
      simpa using this
    · rw [if_neg q, esc_list]
      have ih := lexes rs hs [32, 10, 9] hl' (fun x hx => h3 x (by simp [hx])) (by decide)
      refine .cons ?_ ih
      rw [out_whites w _ hw]
      have := unq_esc (r.cps.getD 0 0) (r.cps.getD 1 0) (r.cps.getD 2 0) ([32, 10, 9] ++ bodyL rs hs)
      dsimp only
      rw [three (h3 r (by simp))]
      exact this
theorem join_list : ∀ parts : List Str, (Str.join ⟨#[]⟩ parts).cps.toList = parts.flatMap fun x => x.cps.toList
  | [] => rfl
  | [p] => by simp [Str.join]
  | p :: q :: r => by
    have ih := join_list (q :: r)
    show (p ++ ⟨#[]⟩ ++ Str.join ⟨#[]⟩ (q :: r)).cps.toList = _
    rw [Str.cps_append, Str.cps_append, Array.toList_append, Array.toList_append, ih]
    simp
theorem text_list (rows : List Str) (halves : List Int) : (textF rows halves).cps.toList = bodyL rows halves := by
  unfold textF bodyL
  have e : Txt.join ⟨#[]⟩ (List.zipWith pieceF rows halves) = Str.join ⟨#[]⟩ (List.zipWith pieceF rows halves) := StrLaws.glued_eq_join _ _
  rw [e, join_list]
/-- the text gives its rows back, and then nothing -/
theorem text_lexes {rows : List Str} {halves : List Int} (hl : rows.length = halves.length) (h3 : ∀ r ∈ rows, r.length = 3) : Lexes (textF rows halves).cps.toList (rows.map (fun r => r.cps.toList) ++ [[]]) [] := by
  rw [text_list]
  exact lexes rows halves [] hl h3 (fun _ h => nomatch h)
theorem text_size {rows : List Str} {halves : List Int} (h3 : ∀ r ∈ rows, r.length = 3) (hn : rows.length ≤ 6) : (textF rows halves).cps.size ≤ 100 := by
  have h1 := text_len rows halves h3
  have e : (textF rows halves).cps.size = ((List.zipWith pieceF rows halves).map (·.length)).sum := by
    rw [← Array.length_toList, text_list]
    unfold bodyL
    rw [List.length_flatMap]
    rfl
  omega
end Mine
end

-- SortP
section
open PySem PySem.W PyProof.Rows
set_option maxRecDepth 100000
set_option linter.all false
set_option autoImplicit false
namespace Mine
/-! the questions of a sort, with keys that are all different -/
section
variable {key : Nat → List Nat} {N : Nat} {cmp : Nat → Nat → (Bool → Shared → Prop) → Shared → Prop} {s : Shared}
def POk (N : Nat) (p : Array Nat) : Prop := p.toList.Perm (List.range N)
def KA (key : Nat → List Nat) (p : Array Nat) (i : Nat) : List Nat := key (p.getD i 0)
def Up (key : Nat → List Nat) (p : Array Nat) (k : Nat) : Prop := ∀ i j, i < j → j < k → KA key p i < KA key p j
def Dn (key : Nat → List Nat) (p : Array Nat) (k : Nat) : Prop := ∀ i j, i < j → j < k → KA key p j < KA key p i
theorem POk.size {p : Array Nat} (h : POk N p) : p.size = N := by have := h.length_eq; simpa using this
theorem POk.lt {p : Array Nat} (h : POk N p) {i : Nat} (hi : i < N) : p.getD i 0 < N := by
  have hs := h.size
  have e : p.getD i 0 = p[i] := by simp [Array.getD, hs, hi]
  have : p[i] ∈ p.toList := by simp
  rw [e]; exact List.mem_range.mp (h.mem_iff.mp this)
theorem POk.inj {p : Array Nat} (h : POk N p) {i j : Nat} (hi : i < N) (hj : j < N) (e : p.getD i 0 = p.getD j 0) : i = j := by
  have hs := h.size
  have nd : p.toList.Nodup := h.nodup_iff.mpr List.nodup_range
  have e1 : p.getD i 0 = p[i] := by simp [Array.getD, hs, hi]
  have e2 : p.getD j 0 = p[j] := by simp [Array.getD, hs, hj]
  rw [e1, e2] at e
  have h1 : p.toList[i]? = some p[i] := by simp [hs, hi]
  have h2 : p.toList[j]? = some p[j] := by simp [hs, hj]
  exact (List.getElem?_inj (by simp [hs, hi]) nd).mp (h1.trans (by rw [e, ← h2]))
theorem POk.ne {p : Array Nat} (h : POk N p) {i j : Nat} (hi : i < N) (hj : j < N) (e : i ≠ j) : p.getD i 0 ≠ p.getD j 0 := fun q => e (h.inj hi hj q)
theorem POk.of {p q : Array Nat} (h : POk N p) (e : q.Perm p) : POk N q := (Array.perm_iff_toList_perm.mp e).trans h
theorem getD_of {p q : Array Nat} {i j : Nat} (h : p[i]? = q[j]?) : p.getD i 0 = q.getD j 0 := by
  rw [Array.getD_eq_getD_getElem?, Array.getD_eq_getD_getElem?, h]
theorem KA_rev {p : Array Nat} {n k : Nat} (hn : n ≤ p.size) : KA key (kas_rev p 0 n) k = if k < n then KA key p (n - 1 - k) else KA key p k := by
  have e := getElem?_mirror_all (i := 0) hn k
  unfold KA kas_rev
  by_cases h : k < n
  · rw [if_pos h]
    rw [if_pos ⟨Nat.zero_le _, h⟩, Nat.zero_add] at e
    rw [getD_of e]
  · rw [if_neg h]
    rw [if_neg (fun z => h z.2)] at e
    rw [getD_of e]
theorem KA_bubble {p : Array Nat} {src d k : Nat} (hs : src < p.size) (hd : d ≤ src) : KA key (bubble p src d) k = if k = src - d then KA key p src else if src - d < k ∧ k ≤ src then KA key p (k - 1) else KA key p k := by
  have e := getElem?_bubble hs d hd k
  unfold KA
  by_cases h1 : k = src - d
  · rw [if_pos h1] at e ⊢; rw [getD_of e]
  · rw [if_neg h1] at e ⊢
    by_cases h2 : src - d < k ∧ k ≤ src
    · rw [if_pos h2] at e ⊢; rw [getD_of e]
    · rw [if_neg h2] at e ⊢; rw [getD_of e]
theorem KA_apart (inj : ∀ i j, i < N → j < N → key i = key j → i = j) {p : Array Nat} (hp : POk N p) {i j : Nat} (hi : i < N) (hj : j < N) (hne : i ≠ j) (h : ¬ KA key p i < KA key p j) : KA key p j < KA key p i :=
  Decidable.byContradiction fun z => hne (hp.inj hi hj (inj _ _ (hp.lt hi) (hp.lt hj) (lt_tri h z)))
variable (hc : ∀ i j C, i < N → j < N → i ≠ j → C (decide (key i < key j)) s → cmp i j C s) (inj : ∀ i j, i < N → j < N → key i = key j → i = j)
include hc inj
theorem k_asc {p : Array Nat} (hp : POk N p) : ∀ (f n : Nat) {G : Nat → Shared → Prop}, 1 ≤ n → n + f ≤ N → Up key p n → (∀ m, n ≤ m → m ≤ n + f → Up key p m → (m < n + f → KA key p m < KA key p (m - 1)) → G m s) → (kas_asc p f n).kasWp cmp G s
  | 0, n, G, h1, hf, hu, hG => hG n (Nat.le_refl _) (Nat.le_refl _) hu fun h => by omega
  | f + 1, n, G, h1, hf, hu, hG => by
    show cmp (p.getD n 0) (p.getD (n - 1) 0) (fun b s' => (if b = true then KasT.ret n else kas_asc p f (n + 1)).kasWp cmp G s') s
    refine hc _ _ _ (hp.lt (by omega)) (hp.lt (by omega)) (hp.ne (by omega) (by omega) (by omega)) ?_
    by_cases q : KA key p n < KA key p (n - 1)
    · rw [decide_eq_true (show key (p.getD n 0) < key (p.getD (n - 1) 0) from q), if_pos rfl]
      exact hG n (Nat.le_refl _) (by omega) hu fun _ => q
    · rw [decide_eq_false (show ¬ key (p.getD n 0) < key (p.getD (n - 1) 0) from q), if_neg (by decide)]
      have q' := KA_apart inj hp (by omega) (by omega) (by omega) q
      refine k_asc hp f (n + 1) (by omega) (by omega) (fun i j hij hj => ?_) fun m a b c d => hG m (by omega) (by omega) c fun e => d (by omega)
      by_cases e : j = n
      · subst e
        by_cases e2 : i = j - 1
        · subst e2; exact q'
        · exact List.lt_trans (hu i (j - 1) (by omega) (by omega)) q'
      · exact hu i j hij (by omega)
theorem k_desc {p : Array Nat} (hp : POk N p) : ∀ (f n : Nat) {G : Array Nat × Nat × Nat → Shared → Prop}, 1 ≤ n → n + f ≤ N → Dn key p n → (∀ m, n ≤ m → m ≤ n + f → Dn key p m → G (p, m, 0) s) → (kas_desc f p n 0).kasWp cmp G s
  | 0, n, G, h1, hf, hu, hG => hG n (Nat.le_refl _) (Nat.le_refl _) hu
  | f + 1, n, G, h1, hf, hu, hG => by
    show cmp (p.getD n 0) (p.getD (n - 1) 0) (fun b s' => (if b = true then (if 0 > 0 then kas_desc f (kas_rev p (n - (0 + 1)) n) (n + 1) 0 else kas_desc f p (n + 1) 0) else KasT.ask (p.getD (n - 1) 0) (p.getD n 0) fun d => if d = true then KasT.ret (p, n, 0) else kas_desc f p (n + 1) (0 + 1)).kasWp cmp G s') s
    refine hc _ _ _ (hp.lt (by omega)) (hp.lt (by omega)) (hp.ne (by omega) (by omega) (by omega)) ?_
    by_cases q : KA key p n < KA key p (n - 1)
    · rw [decide_eq_true (show key (p.getD n 0) < key (p.getD (n - 1) 0) from q), if_pos rfl, if_neg (by decide)]
      refine k_desc hp f (n + 1) (by omega) (by omega) (fun i j hij hj => ?_) fun m a b c => hG m (by omega) (by omega) c
      by_cases e : j = n
      · subst e
        by_cases e2 : i = j - 1
        · subst e2; exact q
        · exact List.lt_trans q (hu i (j - 1) (by omega) (by omega))
      · exact hu i j hij (by omega)
    · rw [decide_eq_false (show ¬ key (p.getD n 0) < key (p.getD (n - 1) 0) from q), if_neg (by decide)]
      have q' := KA_apart inj hp (by omega) (by omega) (by omega) q
      show cmp (p.getD (n - 1) 0) (p.getD n 0) (fun d s' => (if d = true then KasT.ret (p, n, 0) else kas_desc f p (n + 1) (0 + 1)).kasWp cmp G s') s
      refine hc _ _ _ (hp.lt (by omega)) (hp.lt (by omega)) (hp.ne (by omega) (by omega) (by omega)) ?_
      rw [decide_eq_true (show key (p.getD (n - 1) 0) < key (p.getD n 0) from q'), if_pos rfl]
      exact hG n (Nat.le_refl _) (by omega) hu
theorem k_tail {p : Array Nat} (hp : POk N p) {n : Nat} {G : Nat × Array Nat → Shared → Prop} (h1 : 1 ≤ n) (hn : n ≤ N) (hd : Dn key p n) (hG : ∀ m p', 1 ≤ m → m ≤ N → POk N p' → Up key p' m → G (m, p') s) : (kas_tail3 n N p).kasWp cmp G s := by
  unfold kas_tail3
  rw [KasT.kasWp_bind]
  have hp' : POk N (kas_rev p 0 n) := hp.of (mirror_perm ..)
  refine k_asc hc inj hp' (N - n) n h1 (by omega) (fun i j hij hj => ?_) fun m a b c _ => hG m _ (by omega) (by omega) hp' c
  rw [KA_rev (by rw [hp.size]; exact hn), KA_rev (by rw [hp.size]; exact hn), if_pos (by omega), if_pos hj]
  exact hd _ _ (by omega) (by omega)
theorem k_count {p : Array Nat} (hp : POk N p) {G : Nat × Array Nat → Shared → Prop} (h1 : 1 ≤ N) (hG : ∀ m p', 1 ≤ m → m ≤ N → POk N p' → Up key p' m → G (m, p') s) : (kas_count N p).kasWp cmp G s := by
  unfold kas_count
  rw [KasT.kasWp_bind]
  refine k_asc hc inj hp (N - 1) 1 (Nat.le_refl _) (by omega) (fun i j hij hj => by omega) fun n a b hu hs => ?_
  by_cases q : n = N
  · rw [if_pos (by simpa using q)]
    exact hG n p a (by omega) hp hu
  · rw [if_neg (by simpa using q)]
    by_cases q2 : n > 1
    · rw [if_pos q2]
      show cmp (p.getD 0 0) (p.getD (n - 1) 0) (fun c s' => (if c = true then KasT.ret (n, p) else kas_descPart n N (kas_rev p 0 n)).kasWp cmp G s') s
      refine hc _ _ _ (hp.lt (by omega)) (hp.lt (by omega)) (hp.ne (by omega) (by omega) (by omega)) ?_
      rw [decide_eq_true (show key (p.getD 0 0) < key (p.getD (n - 1) 0) from hu 0 (n - 1) (by omega) (by omega)), if_pos rfl]
      exact hG n p a (by omega) hp hu
    · rw [if_neg q2]
      have e : n = 1 := by omega
      subst e
      unfold kas_descPart
      rw [KasT.kasWp_bind]
      refine k_desc hc inj hp (N - (1 + 1)) (1 + 1) (by omega) (by omega) (fun i j hij hj => ?_) fun m a' b' hd => ?_
      · have e1 : i = 0 := by omega
        have e2 : j = 1 := by omega
        subst e1; subst e2
        exact hs (by omega)
      · dsimp only
        rw [if_neg (by decide)]
        exact k_tail hc inj hp (by omega) (by omega) hd hG
theorem k_place {p : Array Nat} (hp : POk N p) {k : Nat} (hk : k < N) (hu : Up key p k) : ∀ (f l r : Nat) {G : Nat → Shared → Prop}, r - l ≤ f → l ≤ r → r ≤ k → (∀ i, i < l → KA key p i < KA key p k) → (∀ i, r ≤ i → i < k → KA key p k < KA key p i) →
    (∀ l, l ≤ k → (∀ i, i < l → KA key p i < KA key p k) → (∀ i, l ≤ i → i < k → KA key p k < KA key p i) → G l s) → (kas_place p k f l r).kasWp cmp G s
  | 0, l, r, G, hf, hlr, hr, h1, h2, hG => hG l (by omega) h1 fun i a b => h2 i (by omega) b
  | f + 1, l, r, G, hf, hlr, hr, h1, h2, hG => by
    unfold kas_place
    by_cases q : l ≥ r
    · rw [if_pos q]
      exact hG l (by omega) h1 fun i a b => h2 i (by omega) b
    · rw [if_neg q]
      show cmp (p.getD k 0) (p.getD ((l + r) / 2) 0) (fun c s' => (if c = true then kas_place p k f l ((l + r) / 2) else kas_place p k f ((l + r) / 2 + 1) r).kasWp cmp G s') s
      refine hc _ _ _ (hp.lt hk) (hp.lt (by omega)) (hp.ne hk (by omega) (by omega)) ?_
      by_cases z : KA key p k < KA key p ((l + r) / 2)
      · rw [decide_eq_true (show key (p.getD k 0) < key (p.getD ((l + r) / 2) 0) from z), if_pos rfl]
        refine k_place hp hk hu f l ((l + r) / 2) (by omega) (by omega) (by omega) h1 (fun i a b => ?_) hG
        by_cases e : i = (l + r) / 2
        · rw [e]; exact z
        · exact List.lt_trans z (hu _ _ (by omega) b)
      · rw [decide_eq_false (show ¬ key (p.getD k 0) < key (p.getD ((l + r) / 2) 0) from z), if_neg (by decide)]
        have z' := KA_apart inj hp hk (by omega) (by omega) z
        refine k_place hp hk hu f ((l + r) / 2 + 1) r (by omega) (by omega) hr (fun i a => ?_) h2 hG
        by_cases e : i = (l + r) / 2
        · rw [e]; exact z'
        · exact List.lt_trans (hu _ _ (by omega) (by omega)) z'
theorem k_bin : ∀ (f : Nat) {p : Array Nat} {k : Nat} {G : Array Nat → Shared → Prop}, POk N p → k + f = N → Up key p k → (∀ p', POk N p' → Up key p' N → G p' s) → (kas_bin f p k).kasWp cmp G s
  | 0, p, k, G, hp, hk, hu, hG => hG p hp (by rw [← hk]; exact hu)
  | f + 1, p, k, G, hp, hk, hu, hG => by
    show ((kas_place p k k 0 k).bind fun l => kas_bin f (bubble p k (k - l)) (k + 1)).kasWp cmp G s
    rw [KasT.kasWp_bind]
    refine k_place hc inj hp (by omega) hu k 0 k (by omega) (by omega) (Nat.le_refl _) (fun i h => by omega) (fun i a b => by omega) fun l hl h1 h2 => ?_
    have hs : k < p.size := by rw [hp.size]; omega
    refine k_bin f (hp.of (bubble_perm ..)) (by omega) (fun i j hij hj => ?_) hG
    have e0 : k - (k - l) = l := by omega
    rw [KA_bubble hs (by omega), KA_bubble hs (by omega), e0]
    by_cases q1 : i = l
    · rw [if_pos q1, if_neg (by omega), if_pos ⟨by omega, by omega⟩]
      exact h2 _ (by omega) (by omega)
    · rw [if_neg q1]
      by_cases q2 : j = l
      · rw [if_pos q2, if_neg (by omega)]
        exact h1 _ (by omega)
      · rw [if_neg q2]
        by_cases q3 : l < i
        · rw [if_pos ⟨q3, by omega⟩, if_pos ⟨by omega, by omega⟩]
          exact hu _ _ (by omega) (by omega)
        · rw [if_neg (fun z => q3 z.1)]
          by_cases q4 : l < j
          · rw [if_pos ⟨q4, by omega⟩]
            exact hu _ _ (by omega) (by omega)
          · rw [if_neg (fun z => q4 z.1)]
            exact hu _ _ hij (by omega)
theorem k_sort {G : Array Nat → Shared → Prop} (h1 : 1 ≤ N) (hG : ∀ p', POk N p' → Up key p' N → G p' s) : (kas_sort N).kasWp cmp G s := by
  unfold kas_sort
  rw [KasT.kasWp_bind]
  refine k_count hc inj (by unfold POk; simp) h1 fun m p' a b hp hu => ?_
  dsimp only
  by_cases q : m < N
  · rw [if_pos q]
    have e : max m 1 = m := by omega
    rw [e]
    exact k_bin hc inj (N - m) hp (by omega) hu hG
  · rw [if_neg q]
    have e : m = N := by omega
    subst e
    exact hG p' hp hu
end
end Mine
end

-- SortL
section
open PySem PySem.W PyProof.Rows
set_option maxRecDepth 100000
set_option linter.all false
set_option autoImplicit false
namespace Mine
open PySem.MeetsSeq PySem.MeetsSeq2 PySem.MeetsSeq3 PySem.AutoSeq1 in
theorem lt_loop (l b : Addr) (x y : Str) (t u : Tok) (items items2 : Array Value) (n n2 : Nat) (hne : x ≠ y) (hi1 : items[((0 : Nat) : Int).toNat]? = some (.str x t)) (hi2 : items2[((0 : Nat) : Int).toNat]? = some (.str y u)) : Meets (Builtin.«list.__eq__.loop» ⟨[.ref l, .ref b, rawInt (0 : Nat), rawInt 0], []⟩)
    (fun A R s => s.heap.get? l = some { cls := .type "list", dict := none, data := .seq items n, slots := #[] } ∧ s.heap.get? b = some { cls := .type "list", dict := none, data := .seq items2 n2, slots := #[] } ∧ R (.ok (.ret (.bool (decide (x.cps.toList < y.cps.toList))))) s) := by
  intro prog w A R s h
  obtain ⟨hp, g, d, tk, os⟩ := s; obtain ⟨hl, hb, h⟩ := h
  wp_walk using wpAny_loadPart' hl, wpAny_loadPart' hb
  rw [hi1, hi2]
  refine wpAny_bind ((SeqAt.EqAt.str_str _ _ _ _) prog w _ _ ?_)
  have hb' : (x == y) = false := by simpa using hne
  rw [hb']
  wp_walk using wpAny_loadPart' hl, wpAny_loadPart' hb
  rw [hi1, hi2]
  refine wpAny_bind (wpAny_mono (PyProof.Rows.lt_str (Q := fun v s' => v = .bool (decide (x.cps.toList < y.cps.toList)) ∧ s' = ⟨hp, g, d, tk, os⟩) ⟨rfl, rfl⟩) (fun v s' hv => ?_) fun _ _ z => z)
  obtain ⟨rfl, rfl⟩ := hv
  wp_walk
  exact h
open PySem.MeetsSeq PySem.MeetsSeq2 PySem.MeetsSeq3 PySem.AutoSeq1 in
theorem lt_lists (l b : Addr) (x y : Str) (t u : Tok) (items items2 : Array Value) (n n2 : Nat) (hne : x ≠ y) (hi1 : items[((0 : Nat) : Int).toNat]? = some (.str x t)) (hi2 : items2[((0 : Nat) : Int).toNat]? = some (.str y u)) : Meets (Builtin.«list.__lt__» ⟨[.ref l, .ref b], []⟩)
    (fun A R s => s.heap.get? l = some { cls := .type "list", dict := none, data := .seq items n, slots := #[] } ∧ s.heap.get? b = some { cls := .type "list", dict := none, data := .seq items2 n2, slots := #[] } ∧ R (.ok (.ret (.bool (decide (x.cps.toList < y.cps.toList))))) s) := by
  intro prog w A R s h
  obtain ⟨hp, g, d, tk, os⟩ := s; obtain ⟨hl, hb, h⟩ := h
  have f3 := AutoSeq1.sub_list_list
  wp_walk using wpAny_loadPart' hl, wpAny_loadPart' hb
  exact ⟨plainId_quiet plain_eq_loop _, codeAny_builtin entry_eq_loop (by
    rw [Around.under_plainId plain_eq_loop _]
    exact lt_loop l b x y t u items items2 n n2 hne hi1 hi2 prog w A R _ ⟨hl, hb, h⟩)⟩
section
variable {p : Program} {w : World} {A : Around} {s : Shared}
theorem lt_items {a b : Addr} {x y : Str} {t u : Tok} {v1 v2 : Value} {n n2 : Nat} {Q : Bool → Shared → Prop} (hu : A.units < cLine) (ha : s.heap.get? a = some (lst [.str x t, v1] n)) (hb : s.heap.get? b = some (lst [.str y u, v2] n2)) (hne : x ≠ y)
    (h : Q (decide (x.cps.toList < y.cps.toList)) s) : W p w A (keyLt' oneType' (.ref a) (.ref b)) Q s := by
  unfold W
  rw [keyLt'_oneType, oneLt'_eq]
  simp only [if_true]
  refine wpAny_bind (wpAny_cRoomFor hu ?_)
  refine wpAny_bind (wpAny_callSpecialIfBound?_slot (name := Str.ofString "__lt__") (T := "list") ⟨_, ha, rfl⟩ PySem.F.slot_list_lt ?_)
  refine call_meets PySem.F.slot_list_lt ⟨_, ha, rfl⟩ PySem.F.entry_list_lt (PySem.F.args_list_lt_2 _ _) (lt_lists a b x y t u _ _ n n2 hne rfl rfl) ⟨ha, hb, ?_⟩
  exact wpAny_truthy_bool h
theorem map_range {vs : List Value} {pm : Array Nat} (hp : POk vs.length pm) (h : vs.length < 2) : (pm.toList.map fun i => vs.getD i Value.none) = vs := by
  have hp' : pm.toList.Perm (List.range vs.length) := hp
  cases vs with
  | nil =>
    have e : pm.toList = [] := List.perm_nil.mp hp'
    rw [e]; rfl
  | cons v r =>
    cases r with
    | nil =>
      have e : pm.toList = [0] := List.perm_singleton.mp hp'
      rw [e]; rfl
    | cons u r => exact absurd h (by simp)
theorem sort_shell {a : Addr} {vs : List Value} {n : Nat} {key : Nat → List Nat} {P : PySem.Fin → Shared → Prop} {E : Value → Shared → Prop} (hu : A.units < cLine) (ho : s.heap.get? a = some (lst vs n)) (h64 : vs.length < 64)
    (hit : ∀ i, i < vs.length → ∃ b x t v1 n1, vs[i]? = some (.ref b) ∧ b ≠ a ∧ s.heap.get? b = some (lst [.str x t, v1] n1) ∧ key i = x.cps.toList) (inj : ∀ i j, i < vs.length → j < vs.length → key i = key j → i = j)
    (h : ∀ s' pm n', SG s s' → (∀ b o, b ≠ a → s.heap.get? b = some o → s'.heap.get? b = some o) → POk vs.length pm → Up key pm vs.length → s'.heap.get? a = some (lst (pm.toList.map fun i => vs.getD i Value.none) n') → P (.done (.ret .none)) s') :
    wpAny (model p w) A (Builtin.«list.sort» ⟨[.ref a], []⟩) P E s := by
  have ha : a < s.heap.objs.size := Heap.lt_size ho
  have s1 := Heap.SameBut.update s.heap a (Obj.mapSeq fun _ => (#[] : Array Value))
  obtain ⟨e1, ho1⟩ : ∃ e1, (s.heap.update a (Obj.mapSeq fun _ => (#[] : Array Value))).get? a = some (seqObj "list" #[] e1) := ⟨_, get?_update_seq (show s.heap.get? a = some (seqObj "list" vs.toArray n) from ho) fun _ => #[]⟩
  rw [list_sort_plain]
  refine wpAny_bind (listItems_at ho rfl ?_)
  refine wpAny_bind (listUpdate_at ho rfl ?_ (by rw [List.size_toArray, sizeLine_eq]; omega) (Nat.zero_le _))
  refine wpAny_bind (seqEpoch_at ho1 rfl ?_)
  refine wpAny_bind (wpAny_newTuple ?_ (by show vs.length ≤ _; rw [sizeLine_eq]; omega))
  refine wpAny_bind (wpAny_newList ?_ (Nat.zero_le _))
  refine wpAny_holding ?_
  show wpAny (model p w) A _ P E { s with heap := ((s.heap.update a (Obj.mapSeq fun _ => (#[] : Array Value))).push (seqObj "tuple" vs.toArray 0)).push (seqObj "list" #[] 0) }
  generalize hs6 : ({ s with heap := ((s.heap.update a (Obj.mapSeq fun _ => (#[] : Array Value))).push (seqObj "tuple" vs.toArray 0)).push (seqObj "list" #[] 0) } : Shared) = s6
  have sg6 : SG s s6 := by rw [← hs6]; exact ⟨rfl, rfl⟩
  have ho6 : s6.heap.get? a = some (seqObj "list" #[] e1) := by rw [← hs6]; exact Heap.get?_push_of_some _ (Heap.get?_push_of_some _ ho1)
  have k6 : ∀ b o, b ≠ a → s.heap.get? b = some o → s6.heap.get? b = some o := fun b o hb e => by
    rw [← hs6]; exact Heap.get?_push_of_some _ (Heap.get?_push_of_some _ ((s1.2 b hb).trans e))
  dsimp only
  have fin : ∀ pm : Array Nat, POk vs.length pm → Up key pm vs.length → ∀ out : Array Value, out = (pm.toList.map fun i => vs.getD i Value.none).toArray → P (.done (.ret .none)) { s6 with heap := s6.heap.update a (Obj.mapSeq fun _ => out) } := fun pm h1 h2 out e => by
    have s2 := Heap.SameBut.update s6.heap a (Obj.mapSeq fun _ => out)
    obtain ⟨c2, hc2⟩ : ∃ c2, (s6.heap.update a (Obj.mapSeq fun _ => out)).get? a = some (seqObj "list" out c2) := ⟨_, get?_update_seq ho6 fun _ => out⟩
    refine h _ pm c2 sg6 (fun b o hb e => (s2.2 b hb).trans (k6 b o hb e)) h1 h2 (hc2.trans ?_)
    rw [e]; rfl
  by_cases h2 : vs.toArray.size < 2
  · rw [if_pos h2, if_pos h2]
    refine wpAny_bind (wpAny_pure ?_)
    rw [StateT.run_pure]
    refine wpAny_bind (wpAny_pure ?_)
    dsimp only
    have hsz : (Array.map (fun x => x.snd) (vs.toArray.zip vs.toArray)) = vs.toArray := by
      apply Array.toList_inj.mp
      simp only [Array.toList_map, Array.toList_zip]
      exact List.map_snd_zip (Nat.le_refl _)
    refine wpAny_bind (seqEpoch_at ho6 rfl ?_)
    refine wpAny_bind (listUpdate_at ho6 rfl ?_ (Nat.zero_le _) (by rw [hsz, List.size_toArray, sizeLine_eq]; omega))
    simp only [bne_self_eq_false, Bool.false_eq_true, if_false]
    have h2' : vs.length < 2 := by simpa using h2
    have pk : POk vs.length (List.range vs.length).toArray := by unfold POk; simp
    refine wpAny_pure (fin (List.range vs.length).toArray pk (fun i j hij hj => by omega) _ ?_)
    rw [map_range pk h2']; exact hsz
  · rw [if_neg h2, if_neg h2]
    have h2' : 2 ≤ vs.length := by simp at h2; omega
    refine wpAny_bind (kas_kind (T := .type "list") h2' (fun v hv => ?_) (by decide) (by decide) ?_)
    · obtain ⟨i, hi⟩ := List.mem_iff_getElem?.mp hv
      obtain ⟨b, x, t, v1, n1, e, hb, hbo, _⟩ := hit i (List.getElem?_eq_some_iff.mp hi).1
      rw [hi] at e; cases e
      exact (Looks.ld (k6 b _ hb hbo)).andThen .now
    have est : SortSt.mk' oneType' (vs.toArray.zip vs.toArray) #[] 7 none = kas_st oneType' (pairsOf vs) (List.toArray (List.range vs.length)) := by
      have e := kas_range (pairsOf vs)
      rw [pairsOf_size] at e
      show SortSt.mk' oneType' (pairsOf vs) #[] 7 none = SortSt.mk' oneType' ((List.toArray (List.range vs.length)).map (kas_item (pairsOf vs))) #[] 7 none
      rw [e]
    have ask : (kas_sort vs.length).kasWp (kas_cmp p w A oneType' (pairsOf vs)) (fun pm s' => s' = s6 ∧ POk vs.length pm ∧ Up key pm vs.length) s6 := by
      rw [← kas_ask_eq]
      refine k_sort (key := key) (fun i j C hi hj hij hC => ?_) inj (by omega) fun pm h1 h2 => ⟨rfl, h1, h2⟩
      obtain ⟨b, x, t, v1, n1, e, hb, hbo, hk⟩ := hit i hi
      obtain ⟨b2, x2, t2, v2, n2, e2, hb2, hbo2, hk2⟩ := hit j hj
      unfold kas_ask
      have g1 : vs.getD i Value.none = .ref b := by rw [List.getD_eq_getElem?_getD, e]; rfl
      have g2 : vs.getD j Value.none = .ref b2 := by rw [List.getD_eq_getElem?_getD, e2]; rfl
      rw [g1, g2]
      rw [hk, hk2] at hC
      exact lt_items hu (k6 b _ hb hbo) (k6 b2 _ hb2 hbo2) (fun q => hij (inj i j hi hj (by rw [hk, hk2, q]))) hC
    have run := kas_runs (E := E) (Q := fun _ st' s' => ∃ pm : Array Nat, arrOf st' = pm.map (kas_item (pairsOf vs)) ∧ failedOf st' = none ∧ s' = s6 ∧ POk vs.length pm ∧ Up key pm vs.length)
      h2' h64 (fun p' st' s' a1 a2 a3 a4 => ⟨p', a2, a3, a4⟩) ask
    rw [← est] at run
    refine wpAny_bind (wpAny_mono run ?_ fun _ _ e => e)
    rintro ⟨⟨⟩, st'⟩ s' ⟨pm, har, hf, rfl, hpk, hup⟩
    dsimp only
    have hout : (arrOf st').map (·.2) = List.toArray (pm.toList.map fun i => vs.getD i Value.none) := by
      apply Array.toList_inj.mp
      rw [har, Array.map_map, Array.toList_map]
      exact List.map_congr_left fun i _ => by show (kas_item (pairsOf vs) i).2 = _; rw [kas_item_eq]
    have hsz : (List.toArray (pm.toList.map fun i => vs.getD i Value.none)).size = vs.length := by rw [List.size_toArray, List.length_map, Array.length_toList, hpk.size]
    rw [hout]
    refine wpAny_bind (seqEpoch_at ho6 rfl ?_)
    refine wpAny_bind (listUpdate_at ho6 rfl ?_ (Nat.zero_le _) (Nat.le_trans (Nat.le_of_eq hsz) (by rw [sizeLine_eq]; omega)))
    rw [hf]
    simp only [bne_self_eq_false, Bool.false_eq_true, if_false]
    exact wpAny_pure (fin pm hpk hup _ rfl)
end
end Mine
end

-- SortK
section
open PySem PySem.W PyProof.Rows
set_option maxRecDepth 100000
set_option linter.all false
set_option autoImplicit false
namespace Mine
theorem all2_map {α β : Type} {P : Value → α → Prop} {f : β → Value} {g : β → α} : ∀ {l : List β}, (∀ x ∈ l, P (f x) (g x)) → All2 P (l.map f) (l.map g)
  | [], _ => .nil
  | x :: l, h => .cons (h x (by simp)) (all2_map fun y hy => h y (by simp [hy]))
theorem range_getD {α : Type} (d : α) (l : List α) : ((List.range l.length).map fun i => l.getD i d) = l := by
  apply List.ext_getElem
  · simp
  · intro i h1 h2; simp [h2]
section
variable {p : Program} {w : World} {A : Around} {s : Shared} {X : List Addr}
theorem sorted_kn {a : Addr} {vs : List Value} {n k : Nat} {D : List KN} {Q : Value → Shared → Prop} (hA : Rm A (k + 2)) (ha : s.heap.get? a = some (lst vs n)) (hv : All2 (RKN s.heap X) vs D) (nd : (D.map (·.1)).Nodup) (hz : D.length < 64)
    (h : ∀ s' r vs' os n', Kept s s' → s.heap.get? r = none → s'.heap.get? r = some (lst vs' n') → All2 (RKN s.heap X) vs' os → os.Perm D → os.Pairwise (fun x y => x.1.cps.toList < y.1.cps.toList) → Q (.ref r) s') :
    W p w A (call (.builtin "sorted") [.ref a]) Q s := by
  have hvl : vs.length = D.length := hv.len
  refine Calls.call_function_entry kind_sorted plain_sorted entry_sorted (args_sorted1 _) ?_
  unfold Builtin.«sorted»
  refine wpAny_bind (m := checkCount "sorted" 1 1 _) (wpAny_pure ?_)
  refine wpAny_bind (collect_list (isList_of ha) ?_ (by rw [sizeLine_eq]; omega))
  refine wpAny_bind (wpAny_newList ?_ (by rw [sizeLine_eq]; omega))
  have hsz : ((s.heap.push (seqObj "list" #[] 0)).update s.heap.objs.size (Obj.mapSeq (· ++ vs.toArray))).objs.size = s.heap.objs.size + 1 := by
    rw [Heap.size_update, size_push']
  have hoL : (((s.heap.push (seqObj "list" #[] 0)).update s.heap.objs.size (Obj.mapSeq (· ++ vs.toArray))).push (seqObj "list" vs.toArray 0)).get? (s.heap.objs.size + 1) = some (lst vs 0) := by
    rw [← hsz]; exact Heap.get?_push_size _ rfl
  have keep : ∀ b o, s.heap.get? b = some o → (((s.heap.push (seqObj "list" #[] 0)).update s.heap.objs.size (Obj.mapSeq (· ++ vs.toArray))).push (seqObj "list" vs.toArray 0)).get? b = some o := fun b o q => by
    have hlt : b < s.heap.objs.size := Heap.lt_size q
    rw [Heap.get?_push_ne _ _ _ (by rw [hsz]; exact Nat.ne_of_lt (Nat.lt_succ_of_lt hlt)), Heap.get?_update_ne _ _ _ _ (Nat.ne_of_lt hlt), Heap.get?_push_ne _ _ _ (Nat.ne_of_lt hlt)]
    exact q
  show wpAny _ _ _ _ _ { s with heap := ((s.heap.push (seqObj "list" #[] 0)).update s.heap.objs.size (Obj.mapSeq (· ++ vs.toArray))).push (seqObj "list" vs.toArray 0) }
  rw [hsz]
  have fresh : s.heap.get? (s.heap.objs.size + 1) = none := Heap.get?_none_of_le (Nat.le_succ _)
  generalize hr : s.heap.objs.size + 1 = r at *
  generalize hs1 : ({ s with heap := ((s.heap.push (seqObj "list" #[] 0)).update s.heap.objs.size (Obj.mapSeq (· ++ vs.toArray))).push (seqObj "list" vs.toArray 0) } : Shared) = s1
  have hr1 : s1.heap.get? r = some (lst vs 0) := by rw [← hs1]; exact hoL
  have k1 : Kept s s1 := ⟨by rw [← hs1]; exact ⟨rfl, rfl⟩, fun b o _ e => ⟨by simp, by rw [← hs1]; exact keep b o e⟩⟩
  have hit : ∀ i, i < vs.length → ∃ b x t v1 n1, vs[i]? = some (.ref b) ∧ b ≠ r ∧ s1.heap.get? b = some (lst [.str x t, v1] n1) ∧ (D.getD i (⟨#[]⟩, 0)).1.cps.toList = x.cps.toList := fun i hi => by
    have hiD : i < D.length := by omega
    obtain ⟨v, hv', b, n1, v1, v2, e, _, hb, ⟨t, et⟩, _⟩ := hv.get' (List.getElem?_eq_getElem hiD)
    subst e; subst et
    refine ⟨b, D[i].1, t, v2, n1, hv', fun q => ?_, k1.get hb, by rw [List.getD_eq_getElem?_getD, List.getElem?_eq_getElem hiD]; rfl⟩
    rw [q, fresh] at hb; cases hb
  have inj : ∀ i j, i < vs.length → j < vs.length → (D.getD i (⟨#[]⟩, 0)).1.cps.toList = (D.getD j (⟨#[]⟩, 0)).1.cps.toList → i = j := fun i j hi hj e => by
    have hi' : i < D.length := by omega
    have hj' : j < D.length := by omega
    rw [List.getD_eq_getElem?_getD, List.getElem?_eq_getElem hi', List.getD_eq_getElem?_getD, List.getElem?_eq_getElem hj'] at e
    have e1 : (D.map (·.1))[i]? = some D[i].1 := by rw [List.getElem?_map, List.getElem?_eq_getElem hi']; rfl
    have e2 : (D.map (·.1))[j]? = some D[j].1 := by rw [List.getElem?_map, List.getElem?_eq_getElem hj']; rfl
    exact (List.getElem?_inj (by simpa using hi') nd).mp (e1.trans (by rw [e2]; congr 1; exact str_ext e))
  have hu : A.in1.in1.units < cLine := by have := hA.in1.in1.units; omega
  refine wpAny_bind (wpAny_holding (wpAny_call_entry slot_list_sort ⟨_, hr1, rfl⟩ entry_list_sort (sort_shell (key := fun i => (D.getD i (⟨#[]⟩, 0)).1.cps.toList) hu hr1 (by omega) hit inj fun s' pm n' sg hk hp hup hr' => ⟨_, rfl, ?_⟩) (args_list_sort _)))
  refine wpAny_pure ⟨_, rfl, ?_⟩
  refine h s' r _ (pm.toList.map fun i => D.getD i (⟨#[]⟩, 0)) n' ⟨⟨sg.1.trans k1.1.1, sg.2.trans k1.1.2⟩, fun b o _ e => ⟨by simp, hk b o (fun q => by rw [q, fresh] at e; cases e) (k1.get e)⟩⟩ fresh hr' (all2_map fun i hi => ?_) ?_ ?_
  · have hi' : i < vs.length := List.mem_range.mp (hp.mem_iff.mp hi)
    have hiD : i < D.length := by omega
    obtain ⟨v, hv', hR⟩ := hv.get' (List.getElem?_eq_getElem hiD)
    rw [List.getD_eq_getElem?_getD, hv', List.getD_eq_getElem?_getD, List.getElem?_eq_getElem hiD]
    exact hR
  · have := hp.map (fun i => D.getD i ((⟨#[]⟩, 0) : KN))
    rw [hvl, range_getD] at this
    exact this
  · rw [List.pairwise_map, List.pairwise_iff_getElem]
    intro i j hi hj hij
    have hz : pm.size = vs.length := hp.size
    have hj' : j < vs.length := by simpa [hz] using hj
    have := hup i j hij hj'
    unfold KA at this
    have e1 : pm.getD i 0 = pm.toList[i] := by simp [Array.getD, hz, show i < vs.length by omega]
    have e2 : pm.getD j 0 = pm.toList[j] := by simp [Array.getD, hz, hj']
    rw [e1, e2] at this
    exact this
theorem sorted_same {D D' : List KN} (hp : D.Perm D') (h1 : D.Pairwise (fun x y => x.1.cps.toList < y.1.cps.toList)) (h2 : D'.Pairwise (fun x y => x.1.cps.toList < y.1.cps.toList)) : D = D' :=
  List.Perm.eq_of_pairwise (le := fun x y => x.1.cps.toList < y.1.cps.toList) (fun a b _ _ ha hb => absurd hb (lt_as ha)) h1 h2 hp
end
end Mine
end

-- LawD
section
open PySem PySem.W PyProof.Rows
set_option maxRecDepth 100000
set_option linter.all false
set_option autoImplicit false
namespace Mine
noncomputable abbrev E132 (L fa : Addr) (cd : Value) : Env := envOfC "law" (fd 132).scope L fa cd
def cs132 (L : Addr) : List (Str × Addr) := [("q", L + 7), ("p", L + 6), ("rounds", L + 5), ("told", L + 4), ("lexer", L + 3), ("names", L + 2), ("size", L + 1)]
def own132 : List (Addr × Obj) := [(105, tabObj #[]), (98, tabObj #[]), (86, tabObj #[])]
/-- the frame at the law's start -/
theorem fra_top {B : Heap} {s : Shared} {L : Addr} {ml : Str → Option Value} (hk : ∀ b o, B.get? b = some o → s.heap.get? b = some o) (hns : s.heap.Ns L ml) (hB : B.objs.size ≤ L) (hc : ∀ i : Nat, 1 ≤ i → i ≤ 7 → ∃ v, s.heap.IsCell (L + i) v) (ho : ∀ q ∈ own132, s.heap.get? q.1 = some q.2 ∧ B.get? q.1 = none) (hlt : 105 < L) :
    ∃ m, Fra B s (L :: (cs132 L).map (·.2) ++ own132.map (·.1)) ⟨L, cs132 L⟩ m own132 ∧ ∀ x, (cs132 L).lookup x = none → m x = ml x := by
  have low : ∀ i : Nat, B.get? (L + i) = none := fun i => Heap.get?_none_of_le (Nat.le_trans hB (Nat.le_add_right _ _))
  have cells : ∀ x c, (cs132 L).lookup x = some c → ∃ i : Nat, 1 ≤ i ∧ i ≤ 7 ∧ c = L + i := fun x c e => by
    have hm : (x, c) ∈ cs132 L := lookup_mem e
    unfold cs132 at hm
    simp only [List.mem_cons, Prod.mk.injEq, List.not_mem_nil, or_false] at hm
    rcases hm with h | h | h | h | h | h | h
    · exact ⟨7, by decide, by decide, h.2⟩
    · exact ⟨6, by decide, by decide, h.2⟩
    · exact ⟨5, by decide, by decide, h.2⟩
    · exact ⟨4, by decide, by decide, h.2⟩
    · exact ⟨3, by decide, by decide, h.2⟩
    · exact ⟨2, by decide, by decide, h.2⟩
    · exact ⟨1, by decide, by decide, h.2⟩
  have adr : ∀ x ∈ (L :: (cs132 L).map (·.2)), ∃ i : Nat, i ≤ 7 ∧ x = L + i := fun x hx => by
    unfold cs132 at hx
    simp only [List.map_cons, List.map_nil, List.mem_cons, List.not_mem_nil, or_false] at hx
    rcases hx with h | h | h | h | h | h | h | h
    · exact ⟨0, by decide, h⟩
    · exact ⟨7, by decide, h⟩
    · exact ⟨6, by decide, h⟩
    · exact ⟨5, by decide, h⟩
    · exact ⟨4, by decide, h⟩
    · exact ⟨3, by decide, h⟩
    · exact ⟨2, by decide, h⟩
    · exact ⟨1, by decide, h⟩
  refine ⟨fun x => match (cs132 L).lookup x with | none => ml x | some c => Classical.epsilon fun v => s.heap.IsCell c v, ⟨hk, fun x hx => ?_, ⟨ml, hns, fun x hx => ?_⟩, fun x c e => ?_, fun q hq => (ho q hq).1, ?_, fun x hx => hx, fun x hx => ?_⟩, fun x hx => ?_⟩
  · rcases List.mem_append.mp hx with h | h
    · obtain ⟨i, _, rfl⟩ := adr x h; exact low i
    · obtain ⟨q, hq, rfl⟩ := List.mem_map.mp h; exact (ho q hq).2
  · have hx' : (cs132 L).lookup x = none := hx
    rw [hx']
  · have e' : (cs132 L).lookup x = some c := e
    rw [e']
    obtain ⟨i, h1, h2, rfl⟩ := cells x c e'
    exact Classical.epsilon_spec (hc i h1 h2)
  · refine List.nodup_append.mpr ⟨?_, by unfold own132; decide, fun x hx y hy q => ?_⟩
    · show (L :: (cs132 L).map (·.2)).Nodup
      unfold cs132
      simp only [List.map_cons, List.map_nil, List.nodup_cons, List.mem_cons, List.not_mem_nil, or_false, not_or, List.nodup_nil, and_true, not_false_eq_true]
      have ne : ∀ i j : Nat, i ≠ j → L + i ≠ L + j := fun i j h q => h (Nat.add_left_cancel q)
      have ne0 : ∀ j : Nat, 0 ≠ j → L ≠ L + j := fun j h q => h (Nat.add_left_cancel (n := L) q)
      refine ⟨⟨?_, ?_, ?_, ?_, ?_, ?_, ?_⟩, ⟨?_, ?_, ?_, ?_, ?_, ?_⟩, ⟨?_, ?_, ?_, ?_, ?_⟩, ⟨?_, ?_, ?_, ?_⟩, ⟨?_, ?_, ?_⟩, ⟨?_, ?_⟩, ?_⟩ <;> first | exact ne0 _ (by decide) | exact ne _ _ (by decide)
    · obtain ⟨i, _, rfl⟩ := adr x hx
      unfold own132 at hy
      simp only [List.map_cons, List.map_nil, List.mem_cons, List.not_mem_nil, or_false] at hy
      have h1 : L ≤ L + i := Nat.le_add_right _ _
      have h2 : y ≤ 105 := by rcases hy with h | h | h <;> subst h <;> decide
      have h3 : L ≤ 105 := Nat.le_trans h1 (q ▸ h2)
      exact absurd hlt (Nat.not_lt.mpr h3)
  · rcases List.mem_append.mp hx with h | h
    · obtain ⟨i, hi, rfl⟩ := adr x h
      by_cases q : i = 0
      · subst q
        obtain ⟨o, _, _, e, _⟩ := hns; exact ⟨o, e⟩
      · obtain ⟨v, o, e, _⟩ := hc i (by omega) hi; exact ⟨o, e⟩
    · obtain ⟨q, hq, rfl⟩ := List.mem_map.mp h; exact ⟨_, (ho q hq).1⟩
  · show (match (cs132 L).lookup x with | none => ml x | some c => _) = ml x
    rw [hx]
theorem rm_caller (env : Env) : Rm (callerA.deeper env) 20 := ⟨rfl, by show 1 + claimMargin + 1 + 20 < recursionLimit; decide, by show 4 + 3 + 20 * 20 < cLine; decide⟩
end Mine
end

-- Lib6
section
open PySem PySem.W PyProof.Rows PySem.SeqAt
set_option maxRecDepth 100000
set_option linter.all false
set_option autoImplicit false
namespace Mine
theorem oNames : Str.ofString "\"\\ \n#\t" = ⟨#[34, 92, 32, 10, 35, 9]⟩ := by decide +kernel
def namesF (n : Nat) : Str := ⟨([34, 92, 32, 10, 35, 9].take n).toArray⟩
section
variable {p : Program} {w : World} {A : Around} {s : Shared} {env : Env} {B : Heap} {X : List Addr} {φ : Fm} {m : Str → Option Value} {own : List (Addr × Obj)} {mg mb : Str → Option Value}
/-- '..'[:size] -/
theorem r_names {value slice : Expr} {t u : Tok} {n : Nat} {Q : Value → Shared → Prop} (F : Fra B s X φ m own) (h4 : 4 ≤ n) (h6 : n ≤ 6) (h : ∀ s' t', Kept s s' → Fra B s' X φ m own → Q (.str (namesF n) t') s')
    (hs : ∀ i x, subscripted slice false (.str x t) (.ref i) = operate [.ref i, .str x t] (getItem (.str x t) (.ref i)) := by intro _ _; with_unfolding_all rfl) :
    W p w A (subscriptTail value slice (.str ⟨#[34, 92, 32, 10, 35, 9]⟩ t) (.ref s.heap.objs.size)) Q { s with heap := s.heap.push { cls := .type "slice", data := .fields #[.none, .int n u, .none] } } := by
  obtain ⟨F2, k2, e2, n2⟩ := F.newF (s' := { s with heap := s.heap.push { cls := .type "slice", data := .fields #[.none, .int n u, .none] } }) (o := { cls := .type "slice", data := .fields #[.none, .int n u, .none] }) rfl rfl ⟨rfl, rfl⟩
  refine tail_any (typeIs_str _ _ _) PySem.F.slot_str_getitem.lookup (wpAny_getItem_str_slice (l := none) (u := some (n, u)) (st := none) ⟨_, e2, rfl, rfl⟩ rfl ?_) (hs _ _)
  have fin : ∀ s' t', Tk { s with heap := s.heap.push { cls := .type "slice", data := .fields #[.none, .int n u, .none] } } s' → Q (.str (namesF n) t') s' := fun s' t' k => h s' t' (Go.trans k2 k.kept) (F2.tk k)
  have : n = 4 ∨ n = 5 ∨ n = 6 := by omega
  rcases this with e | e | e <;> subst e
  · have e : sliceMade ⟨#[34, 92, 32, 10, 35, 9]⟩ t none (some ((4 : Nat), u)) none = .str (namesF 4) := by rfl
    rw [e]; exact ⟨by decide, fin _ _ tk_of⟩
  · have e : sliceMade ⟨#[34, 92, 32, 10, 35, 9]⟩ t none (some ((5 : Nat), u)) none = .str (namesF 5) := by rfl
    rw [e]; exact ⟨by decide, fin _ _ tk_of⟩
  · have e : sliceMade ⟨#[34, 92, 32, 10, 35, 9]⟩ t none (some ((6 : Nat), u)) none = .val (.str (namesF 6) t) := by rfl
    rw [e]; exact fin _ _ ⟨rfl, rfl, rfl⟩
/-- a list's part, whatever the list is beside its items -/
theorem r_list_sliceI {value slice : Expr} {a : Addr} {vs : List Value} {vl vu : Value} {lo hi : Option Int} {Q : Value → Shared → Prop} (F : Fra B s X φ m own) (ha : s.heap.IsList a vs.toArray) (pl : IsPart vl lo) (pu : IsPart vu hi) (hl : vs.length ≤ 1000)
    (h : ∀ s' b, Kept s s' → Fra B s' X φ m own → b ∉ X → s'.heap.get? b = some (lst ((vs.drop (lo.elim 0 (clipAt vs.length))).take (hi.elim vs.length (clipAt vs.length) - lo.elim 0 (clipAt vs.length))) 0) → Q (.ref b) s')
    (hs : ∀ i, subscripted slice false (.ref a) (.ref i) = operate [.ref i, .ref a] (getItem (.ref a) (.ref i)) := by intro _; with_unfolding_all rfl) :
    W p w A (subscriptTail value slice (.ref a) (.ref s.heap.objs.size)) Q { s with heap := s.heap.push { cls := .type "slice", data := .fields #[vl, vu, .none] } } := by
  obtain ⟨F2, k2, e2, n2⟩ := F.newF (s' := { s with heap := s.heap.push { cls := .type "slice", data := .fields #[vl, vu, .none] } }) (o := { cls := .type "slice", data := .fields #[vl, vu, .none] }) rfl rfl ⟨rfl, rfl⟩
  have ha2 : (s.heap.push { cls := .type "slice", data := .fields #[vl, vu, .none] }).IsList a vs.toArray := by
    obtain ⟨o, e, r⟩ := ha; exact ⟨o, k2.get e, r⟩
  have hz : vs.toArray.size ≤ sizeLine := by rw [List.size_toArray]; exact Nat.le_trans hl (by decide)
  refine tail_any ha2.typeIs list_getitem_lookup (wpAny_getItem_list_slice ha2 (Heap.IsSliceOf.new ..) pl pu .none (by simp) ?_ hz) (hs _)
  have e : slicePick vs.toArray lo hi none = ((vs.drop (lo.elim 0 (clipAt vs.length))).take (hi.elim vs.length (clipAt vs.length) - lo.elim 0 (clipAt vs.length))).toArray := by
    rw [slicePick_plain]; simp
  obtain ⟨F3, k3, e3, n3⟩ := F2.newF (s' := { s with heap := (s.heap.push { cls := .type "slice", data := .fields #[vl, vu, .none] }).push (lst ((vs.drop (lo.elim 0 (clipAt vs.length))).take (hi.elim vs.length (clipAt vs.length) - lo.elim 0 (clipAt vs.length))) 0) }) (o := lst ((vs.drop (lo.elim 0 (clipAt vs.length))).take (hi.elim vs.length (clipAt vs.length) - lo.elim 0 (clipAt vs.length))) 0) rfl rfl ⟨rfl, rfl⟩
  have := h _ _ (Go.trans k2 k3) F3 n3 e3
  rw [e]
  exact this
theorem ep_none {Q : Value → Shared → Prop} (h : Q .none s) : W p w A (evalPart none env) Q s := wpAny_pure h
theorem ep_some {e : Expr} {Q : Value → Shared → Prop} (h : W p w A (eval e env) Q s) : W p w A (evalPart (some e) env) Q s := h
theorem isListOf {h : Heap} {a : Addr} {vs : List Value} {n : Nat} (e : h.get? a = some (lst vs n)) : h.IsList a vs.toArray := ⟨_, e, rfl, n, rfl⟩
theorem cut_to {α : Type} (vs : List α) (k : Nat) : (vs.drop ((none : Option Int).elim 0 (clipAt vs.length))).take ((some (k : Int)).elim vs.length (clipAt vs.length) - (none : Option Int).elim 0 (clipAt vs.length)) = vs.take k := by
  show (vs.drop 0).take (clipAt vs.length (k : Int) - 0) = _
  rw [clip_le, List.drop_zero, Nat.sub_zero]
  by_cases h : k ≤ vs.length
  · rw [Nat.min_eq_left h]
  · rw [Nat.min_eq_right (by omega), List.take_of_length_le (Nat.le_refl _), List.take_of_length_le (by omega)]
theorem cut_from {α : Type} (vs : List α) (k : Nat) : (vs.drop ((some (k : Int)).elim 0 (clipAt vs.length))).take ((none : Option Int).elim vs.length (clipAt vs.length) - (some (k : Int)).elim 0 (clipAt vs.length)) = vs.drop k := by
  show (vs.drop (clipAt vs.length (k : Int))).take (vs.length - clipAt vs.length (k : Int)) = _
  rw [clip_le]
  by_cases h : k ≤ vs.length
  · rw [Nat.min_eq_left h, List.take_of_length_le (by simp)]
  · rw [Nat.min_eq_right (by omega), List.drop_of_length_le (Nat.le_refl _), List.drop_of_length_le (by omega)]; simp
theorem isList_kept {s s' : Shared} {a : Addr} {its : Array Value} (h : s.heap.IsList a its) (k : Kept s s') : s'.heap.IsList a its := let ⟨o, e, r⟩ := h; ⟨o, k.get e, r⟩
/-- list[:k] -/
theorem r_cut_to {p1 : Pos} {value e : Expr} {a : Addr} {vs : List Value} {k : Nat} {Q : Value → Shared → Prop} (F : Fra B s X φ m own) (ha : s.heap.IsList a vs.toArray) (hl : vs.length ≤ 1000)
    (hev : ∀ R : Value → Shared → Prop, (∀ s1 t, Kept s s1 → R (.int (k : Int) t) s1) → W p w A (eval e env) R s)
    (h : ∀ s' b, Kept s s' → Fra B s' X φ m own → b ∉ X → s'.heap.get? b = some (lst (vs.take k) 0) → Q (.ref b) s') :
    W p w A (eval (.Slice none (some e) none p1) env) (fun i s' => W p w A (subscriptTail value (.Slice none (some e) none p1) (.ref a) i) Q s') s := by
  refine wpAny_Slice (ep_none (ep_some (hev _ fun s1 t k1 => ep_none ?_)))
  refine r_list_sliceI (F.kept k1) (isList_kept ha k1) .none (.int _ _) hl fun s' b k' F' bX hb => ?_
  rw [cut_to] at hb
  exact h s' b (Go.trans k1 k') F' bX hb
/-- list[k:] -/
theorem r_cut_from {p1 : Pos} {value e : Expr} {a : Addr} {vs : List Value} {k : Nat} {Q : Value → Shared → Prop} (F : Fra B s X φ m own) (ha : s.heap.IsList a vs.toArray) (hl : vs.length ≤ 1000)
    (hev : ∀ R : Value → Shared → Prop, (∀ s1 t, Kept s s1 → R (.int (k : Int) t) s1) → W p w A (eval e env) R s)
    (h : ∀ s' b, Kept s s' → Fra B s' X φ m own → b ∉ X → s'.heap.get? b = some (lst (vs.drop k) 0) → Q (.ref b) s') :
    W p w A (eval (.Slice (some e) none none p1) env) (fun i s' => W p w A (subscriptTail value (.Slice (some e) none none p1) (.ref a) i) Q s') s := by
  refine wpAny_Slice (ep_some (hev _ fun s1 t k1 => ep_none (ep_none ?_)))
  refine r_list_sliceI (F.kept k1) (isList_kept ha k1) (.int _ _) .none hl fun s' b k' F' bX hb => ?_
  rw [cut_from] at hb
  exact h s' b (Go.trans k1 k') F' bX hb
/-- '..'[:size], whole -/
theorem r_names' {p1 : Pos} {value e : Expr} {t : Tok} {k : Nat} {Q : Value → Shared → Prop} (F : Fra B s X φ m own) (h4 : 4 ≤ k) (h6 : k ≤ 6)
    (hev : ∀ R : Value → Shared → Prop, (∀ s1 t, Kept s s1 → R (.int (k : Int) t) s1) → W p w A (eval e env) R s)
    (h : ∀ s' t', Kept s s' → Fra B s' X φ m own → Q (.str (namesF k) t') s') :
    W p w A (eval (.Slice none (some e) none p1) env) (fun i s' => W p w A (subscriptTail value (.Slice none (some e) none p1) (.str ⟨#[34, 92, 32, 10, 35, 9]⟩ t) i) Q s') s := by
  refine wpAny_Slice (ep_none (ep_some (hev _ fun s1 t k1 => ep_none ?_)))
  exact r_names (F.kept k1) h4 h6 fun s' t' k' F' => h s' t' (Go.trans k1 k') F'
/-- list + list -/
theorem r_addL {a b : Addr} {vs ws : List Value} {n k : Nat} {Q : Value → Shared → Prop} (F : Fra B s X φ m own) (ha : s.heap.get? a = some (lst vs n)) (hb : s.heap.get? b = some (lst ws k)) (hz : vs.length + ws.length ≤ 1000)
    (h : ∀ s' c, Kept s s' → Fra B s' X φ m own → c ∉ X → s'.heap.get? c = some (lst (vs ++ ws) 0) → Q (.ref c) s') : W p w A (binaryOp .Add (.ref a) (.ref b)) Q s := by
  refine PySem.P.add_list ha hb ?_ (by rw [List.size_toArray, List.size_toArray]; exact Nat.le_trans hz (by decide))
  obtain ⟨F2, k2, e2, n2⟩ := F.newF (s' := { s with heap := s.heap.push (lst (vs ++ ws) 0) }) (o := lst (vs ++ ws) 0) rfl rfl ⟨rfl, rfl⟩
  have := h _ _ k2 F2 n2 e2
  have e : (vs.toArray ++ ws.toArray) = (vs ++ ws).toArray := by simp
  rw [e]; exact this
/-- data that are the same -/
theorem r_eqD {α : Type} {R : Rel α} {enc : α → PyData} {v1 v2 : Value} {x : α} {k : Nat} {Q : Value → Shared → Prop} (rd : Rd R enc) (hA : Rm A (k + 4)) (h1 : R s.heap X v1 x) (h2 : R s.heap X v2 x) (sh : shaped (enc x) = true) (h : Q (.bool true) s) : W p w A (compareOp .Eq v1 v2) Q s := by
  obtain ⟨as, r1⟩ := rd _ _ _ _ h1
  obtain ⟨bs, r2⟩ := rd _ _ _ _ h2
  refine eq_dataH r1 r2 sh sh (by have := hA.units; omega) ?_
  rw [eqv_refl _ (canLay_of_shaped sh)]; exact h
theorem r_neD {α : Type} {R : Rel α} {enc : α → PyData} {v1 v2 : Value} {x : α} {k : Nat} {Q : Value → Shared → Prop} (rd : Rd R enc) (hA : Rm A (k + 4)) (h1 : R s.heap X v1 x) (h2 : R s.heap X v2 x) (sh : shaped (enc x) = true) (h : Q (.bool false) s) : W p w A (compareOp .NotEq v1 v2) Q s := by
  obtain ⟨as, r1⟩ := rd _ _ _ _ h1
  obtain ⟨bs, r2⟩ := rd _ _ _ _ h2
  refine ne_dataH r1 r2 sh sh (by have := hA.units; omega) ?_
  rw [eqv_refl _ (canLay_of_shaped sh)]; exact h
end
/-! shapes -/
def Shp (d : PyData) (k : Nat) : Prop := d.canLay0 = true ∧ d.depth ≤ k
theorem Shp.ok {d : PyData} {k : Nat} (h : Shp d k) (hk : k ≤ 64) : shaped d = true := by
  unfold shaped
  rw [h.1, decide_eq_true (Nat.le_trans h.2 hk)]; rfl
theorem Shp.list {α : Type} {enc : α → PyData} {k : Nat} {l : List α} (h : ∀ x ∈ l, Shp (enc x) k) : Shp (.list (l.map enc)) (k + 1) := by
  have : PyData.canLayAll0 (l.map enc) = true ∧ PyData.depthAll (l.map enc) ≤ k := by
    induction l with
    | nil => exact ⟨rfl, Nat.zero_le _⟩
    | cons x r ih =>
      obtain ⟨a, b⟩ := ih fun y hy => h y (by simp [hy])
      obtain ⟨c, e⟩ := h x (by simp)
      refine ⟨?_, ?_⟩
      · show ((enc x).canLay0 && PyData.canLayAll0 (r.map enc)) = true
        rw [c, a]; rfl
      · show max (enc x).depth (PyData.depthAll (r.map enc)) ≤ k
        exact Nat.max_le.mpr ⟨e, b⟩
  exact ⟨this.1, Nat.succ_le_succ this.2⟩
theorem Shp.str {x : Str} (h : PyData.strOk x = true) : Shp (.str x) 0 := ⟨h, Nat.le_refl _⟩
theorem Shp.int {i : Int} : Shp (.int i) 0 := ⟨rfl, Nat.le_refl _⟩
theorem ok_add {x y : Str} (hx : PyData.strOk x = true) (hy : PyData.strOk y = true) : PyData.strOk (x ++ y) = true := by
  unfold PyData.strOk at *
  rw [Str.cps_append, Array.all_append, hx, hy]; rfl
theorem ok_sg {x : Str} (hx : PyData.strOk x = true) (i : Nat) : PyData.strOk (sg x i) = true := by
  unfold PyData.strOk sg
  simp only [List.all_toArray, List.all_cons, List.all_nil, Bool.and_true, decide_eq_true_eq]
  unfold PyData.strOk at hx
  rw [Array.all_eq_true] at hx
  by_cases h : i < x.cps.size
  · have := hx i h
    simpa [h] using this
  · simp [h]
theorem ok_names (n : Nat) : PyData.strOk (namesF n) = true := by
  unfold PyData.strOk namesF
  simp only [List.all_toArray, List.all_eq_true]
  intro x hx
  have : x ∈ [34, 92, 32, 10, 35, 9] := List.mem_of_mem_take hx
  have h : ∀ y ∈ [34, 92, 32, 10, 35, 9], y < 0x110000 := by decide
  exact decide_eq_true (h x this)
theorem ok_pm : PyData.strOk "-+" = true := by decide +kernel
theorem rdKN : Rd RKN (fun d => .list [.str d.1, .int d.2]) := fun h X v d ⟨a, n, v1, v2, e, _, ho, ⟨t, e1⟩, ⟨u, e2⟩⟩ => by
  subst e; subst e1; subst e2
  exact ⟨_, Reads.list (as := _) ho rfl rfl (.cons (.str _ _) (.cons (.int _ _) .nil))⟩
theorem Shp.kn {d : KN} (h : PyData.strOk d.1 = true) : Shp (.list [.str d.1, .int d.2]) 1 := by
  refine ⟨?_, Nat.le_refl _⟩
  show (PyData.strOk d.1 && true) = true
  rw [h]; rfl
end Mine
end

-- LawF
section
open PySem PySem.W PyProof.Rows
set_option maxRecDepth 100000
set_option linter.all false
set_option autoImplicit false
namespace Mine
/-! frames, some more; the law's plain data -/
theorem all2_take {α : Type} {P : Value → α → Prop} : ∀ {vs : List Value} {l : List α}, All2 P vs l → ∀ k, All2 P (vs.take k) (l.take k)
  | _, _, .nil, k => by simp; exact .nil
  | _, _, .cons h r, 0 => by simp; exact .nil
  | _, _, .cons h r, k + 1 => .cons h (all2_take r k)
theorem all2_drop {α : Type} {P : Value → α → Prop} : ∀ {vs : List Value} {l : List α}, All2 P vs l → ∀ k, All2 P (vs.drop k) (l.drop k)
  | _, _, .nil, k => by simp; exact .nil
  | _, _, .cons h r, 0 => .cons h r
  | _, _, .cons h r, k + 1 => all2_drop r k
theorem all2_ints {h : Heap} {X : List Addr} : ∀ {vs : List Value} {ns : List Int}, IntsAre vs ns → All2 (RInt h X) vs ns
  | _, _, .nil => .nil
  | _, _, .cons n t r => .cons ⟨t, rfl⟩ (all2_ints r)
section
variable {s : Shared} {B : Heap} {X : List Addr} {φ : Fm} {m : Str → Option Value} {own : List (Addr × Obj)}
theorem Fra.perm {own' : List (Addr × Obj)} (F : Fra B s X φ m own) (h : own'.Perm own) : Fra B s X φ m own' := by
  have hm : (φ.adr ++ own'.map (·.1)).Perm (φ.adr ++ own.map (·.1)) := (h.map _).append_left _
  exact ⟨F.keep, fun x hx => F.fresh x (hm.mem_iff.mp hx), F.ns, F.cell, fun q hq => F.has q (h.mem_iff.mp hq), hm.nodup_iff.mpr F.nd, fun x hx => F.inX x (hm.mem_iff.mp hx), F.live⟩
theorem Fra.setX {X' : List Addr} (F : Fra B s X φ m own) (h : ∀ x, x ∈ X' ↔ x ∈ X) : Fra B s X' φ m own :=
  ⟨F.keep, F.fresh, F.ns, F.cell, F.has, F.nd, fun x hx => (h x).mpr (F.inX x hx), fun x hx => F.live x ((h x).mp hx)⟩
theorem Fra.addO {a : Addr} {o : Obj} (F : Fra B s X φ m own) (ha : s.heap.get? a = some o) (hX : a ∉ X) (hB : B.get? a = none) : Fra B s (a :: X) φ m (own ++ [(a, o)]) := by
  have sp : ∀ x ∈ φ.adr ++ (own ++ [(a, o)]).map (·.1), x ∈ φ.adr ++ own.map (·.1) ∨ x = a := fun x hx => by
    simpa [or_assoc] using hx
  refine ⟨F.keep, fun x hx => ?_, F.ns, F.cell, fun q hq => ?_, ?_, fun x hx => ?_, fun x hx => ?_⟩
  · rcases sp x hx with h | h
    · exact F.fresh x h
    · exact h ▸ hB
  · rcases List.mem_append.mp hq with h | h
    · exact F.has q h
    · simp at h; subst h; exact ha
  · rw [List.map_append, ← List.append_assoc]
    refine List.nodup_append.mpr ⟨F.nd, by simp, fun x hx y hy e => ?_⟩
    simp at hy; subst hy
    exact hX (e ▸ F.inX x hx)
  · rcases sp x hx with h | h
    · exact List.mem_cons_of_mem _ (F.inX x h)
    · simp [h]
  · rcases List.mem_cons.mp hx with h | h
    · subst h; exact ⟨o, ha⟩
    · exact F.live x h
theorem go_sub {X' : List Addr} (h : ∀ x ∈ X', x ∈ X) : Go X s X' s := ⟨⟨rfl, rfl⟩, fun b o hb e => ⟨fun q => hb (h b q), e⟩⟩
end
def numsF (script : List Int) : List Int := script.take 6 ++ ([1, 34, 7, 51] : List Int).drop (script.take 6).length
theorem nums_len (script : List Int) : 4 ≤ (numsF script).length ∧ (numsF script).length ≤ 6 := by
  unfold numsF
  simp only [List.length_append, List.length_drop, List.length_take, List.length_cons, List.length_nil]
  omega
def halfF (n : Nat) (x : Int) : Int := (x.fdiv ((n ^ 2 : Nat) : Int)).fdiv (2 : Nat)
theorem names_len {n : Nat} (h : n ≤ 6) : (namesF n).length = n := by
  show (namesF n).cps.size = n
  unfold namesF
  simp only [List.size_toArray, List.length_take, List.length_cons, List.length_nil]
  omega
theorem row_len (names : Str) (n : Nat) (x : Int) : (rowF names n x).length = 3 := rfl
/-- the rows as the law has them -/
def rowsL (n : Nat) (numbers : List Int) : List Str := numbers.map (rowF (namesF n) n)
theorem rows_len (n : Nat) (numbers : List Int) : ∀ r ∈ rowsL n numbers, r.length = 3 := fun r hr => by
  obtain ⟨x, _, e⟩ := List.mem_map.mp hr
  rw [← e]; rfl
def textL (n : Nat) (numbers : List Int) : Str := textF (rowsL n numbers) (numbers.map (halfF n))
end Mine
end

-- LawA
section
open PySem PySem.W PyProof.Rows
set_option maxRecDepth 100000
set_option linter.all false
set_option autoImplicit false
namespace Mine
local macro_rules | `(tactic| walk_at "lkp") => `(tactic| first | assumption | exact upd_same | (refine lks (sne (by decide)) ?_; walk_at "lkp"))
section
variable {p : Program} {w : World} {A : Around} {s : Shared} {B : Heap} {mg mb : Str → Option Value}
set_option maxHeartbeats 2000000 in
theorem law_a1 {X0 : List Addr} {m : Str → Option Value} {L fa asc : Addr} {cd : Value} {vs : List Value} {script : List Int} {own : List (Addr × Obj)} {Q : Flow → Shared → Prop} (G : Gd w mg mb B) (hA : Rm A 20)
    (F : Fra B s X0 ⟨L, cs132 L⟩ m own) (hm : m "script" = some (.ref asc)) (hsc : B.IsList asc vs.toArray) (hvs : IntsAre vs script) (hl : script.length ≤ 63)
    (h : ∀ s' m' n c tn ts, Go X0 s X0 s' → Fra B s' X0 ⟨L, cs132 L⟩ m' own → n = (numsF script).length → m' "numbers" = some (.ref c) → m' "size" = some (.int (n : Int) ts) → m' "names" = some (.str (namesF n) tn) → RList RInt s'.heap X0 (.ref c) (numsF script) → W p w A (execs ((bd 132).drop 3) (E132 L fa cd)) Q s') :
    W p w A (execs (bd 132) (E132 L fa cd)) Q s := by
  have vl : vs.length = script.length := hvs.length
  have h0 : s.heap.IsList asc vs.toArray := by obtain ⟨o, e, r⟩ := hsc; exact ⟨o, F.keep _ _ e, r⟩
  refine wpAny_execs_cons (wpAny_Assign_Name (wpAny_BinOp (Subscript_ (r_loc F hm (r_cut_to (k := 6) F h0 (by omega) (fun R h => r_int fun s1 t1 k1 => h s1 t1 k1.kept) fun s1 b1 k1 F1 b1X hb1 => ?_)))))
  refine Subscript_ (List_ (AC (r_int fun s2 t2 k2 => AC (r_int fun s3 t3 k3 => AC (r_int fun s4 t4 k4 => AC (r_int fun s5 t5 k5 => args_nil (r_newListF ((((F1.tk k2).tk k3).tk k4).tk k5) fun s6 b6 k6 F6 b6X hb6 => ?_)))))))
  have k16 : Kept s1 s6 := Go.trans k2.kept (Go.trans k3.kept (Go.trans k4.kept (Go.trans k5.kept k6)))
  have h6 : s6.heap.IsList asc vs.toArray := isList_kept (isList_kept h0 k1) k16
  refine r_cut_from (k := (script.take 6).length) F6 (isListOf hb6) (by simp) (fun R hR => cb1 G F6 boot_len (Subscript_ (r_loc F6 hm (r_cut_to (k := 6) F6 h6 (by omega) (fun R h => r_int fun s1 t1 k1 => h s1 t1 k1.kept) fun s7 b7 k7 F7 b7X hb7 => r_len hb7 (by simp; omega) fun s8 t8 k8 => ?_)))) fun s9 b9 k9 F9 b9X hb9 => ?_
  · have e : (vs.take 6).length = (script.take 6).length := by rw [List.length_take, List.length_take, vl]
    rw [e]; exact hR s8 t8 (Go.trans k7 k8.kept)
  refine r_addL F9 (k9.get (k16.get hb1)) hb9 (by simp; omega) fun s10 c k10 F10 cX hc => r_store F10 fun s11 g11 F11 => ?_
  have nl := nums_len script
  have hnum11 : RList RInt s11.heap X0 (.ref c) (numsF script) := by
    obtain ⟨q1, q2⟩ := g11.2 c _ cX hc
    refine ⟨c, _, 0, rfl, q1, q2, ?_⟩
    exact (all2_take (all2_ints hvs) 6).append (all2_drop (.cons ⟨t2, rfl⟩ (.cons ⟨t3, rfl⟩ (.cons ⟨t4, rfl⟩ (.cons ⟨t5, rfl⟩ .nil)))) _)
  have g0 : Go X0 s X0 s11 := (k1.go X0).trans ((k16.go _).trans ((k9.go _).trans ((k10.go _).trans g11)))
  generalize hnn : numsF script = nums at *
  generalize hn : nums.length = n at *
  -- size = len(numbers)
  obtain ⟨c', vsn, nn, ec, cX11, hc11, hcr11⟩ := id hnum11
  cases ec
  refine wpAny_execs_cons (wpAny_Assign_Name (cb1 G F11 boot_len (r_loc F11 (by walk_at "lkp") (r_len hc11 (by rw [hcr11.len, hn]; omega) fun s12 t12 k12 => ?_))))
  have F12 := F11.tk k12
  rw [hcr11.len, hn]
  refine r_storeC (c := L + 1) F12 fun s13 g13 F13 => ?_
  -- names
  refine wpAny_execs_cons (wpAny_Assign_Name (Subscript_ (r_strC oNames fun s14 t14 k14 => ?_)))
  have F14 := F13.tk k14
  refine r_names' (k := n) F14 nl.1 nl.2 (fun R hR => r_cell (c := L + 1) F14 (by walk_at "lkp") (hR s14 _ (Go.refl _ _))) fun s15 t15 k15 F15 => ?_
  refine r_storeC (c := L + 2) F15 fun s16 g16 F16 => ?_
  have g1116 : Go X0 s11 X0 s16 := (k12.go X0).trans (g13.trans ((k14.go _).trans ((k15.go _).trans g16)))
  exact h s16 _ n c t15 t12 (g0.trans g1116) F16 rfl (by walk_at "lkp") (by walk_at "lkp") (by walk_at "lkp") (mList mInt g1116 hnum11)
end
end Mine
end

-- LawA2
section
open PySem PySem.W PyProof.Rows
set_option maxRecDepth 100000
set_option linter.all false
set_option autoImplicit false
namespace Mine
local macro_rules | `(tactic| walk_at "lkp") => `(tactic| first | assumption | exact upd_same | (refine lks (sne (by decide)) ?_; walk_at "lkp"))
section
variable {p : Program} {w : World} {A : Around} {s : Shared} {B : Heap} {mg mb : Str → Option Value}
abbrev own3 (ps : Array Value) : List (Addr × Obj) := [(105, tabObj #[]), (98, tabObj #[]), (86, tabObj ps)]
abbrev lexO (e : LD) (n : Int) (l : Lx) (dx pb : Addr) (kk : Nat) (vd : List Value) (ndd : Nat) (qv : List Value) (pn : Nat) : List (Addr × Obj) := [(dx, dictOf (e.es n l.f pb) kk), (l.d, lst vd ndd), (pb, lst qv pn)]
set_option maxHeartbeats 2000000 in
theorem law_a2 {X0 : List Addr} {m : Str → Option Value} {L fa c : Addr} {cd : Value} {n : Nat} {tn ts : Tok} {nums : List Int} {Q : Flow → Shared → Prop} (G : Gd w mg mb B) (n86 : B.get? 86 = none) (hA : Rm A 20)
    (F : Fra B s X0 ⟨L, cs132 L⟩ m (own3 #[])) (hnum : RList RInt s.heap X0 (.ref c) nums) (hn : nums.length = n) (h4 : 4 ≤ n) (h6 : n ≤ 6) (m1 : m "numbers" = some (.ref c)) (m2 : m "size" = some (.int (n : Int) ts)) (m3 : m "names" = some (.str (namesF n) tn))
    (h : ∀ s' m' ps l x dx pb e kk vd ndd pn ar tt, Go X0 s (dx :: l.d :: pb :: X0) s' → Fra B s' (dx :: l.d :: pb :: X0) ⟨L, cs132 L⟩ m' (own3 ps ++ lexO e 1 l dx pb kk vd ndd [] pn) → (∀ y ∈ [dx, l.d, pb], y ∉ X0) →
      m' "size" = some (.int (n : Int) ts) → m' "names" = some (.str (namesF n) tn) → m' "lexer" = some (.ref x) → m' "rows" = some (.ref ar) → m' "text" = some (.str (textL n nums) tt) → s'.heap.get? x = some (instObj 66 dx) → x ∉ dx :: l.d :: pb :: X0 → LexF s'.heap (dx :: l.d :: pb :: X0) l →
      All2 Sgn vd (textL n nums).cps.toList → RList RStr s'.heap (dx :: l.d :: pb :: X0) (.ref ar) (rowsL n nums) → W p w A (execs ((bd 132).drop 6) (E132 L fa cd)) Q s') :
    W p w A (execs ((bd 132).drop 3) (E132 L fa cd)) Q s := by
  -- rows
  refine wpAny_execs_cons (wpAny_Assign_Name (cg2 (a := 77) (o := objAt 77) (d := fd 77) G F rfl (G.K _ _ rfl) rfl ?_))
  refine r_loc F m1 (r_cell (c := L + 2) F m3 ⟨F.keep _ _ (G.K _ _ rfl), ?_⟩)
  refine rows_spec (k := 10) (n := n) (G.keeps F.keep) F.live (hA.le (by decide)) hnum hn (by omega) (by omega) (names_len h6) fun s1 r k1 hr => ?_
  have F1 := F.kept k1
  refine r_store F1 fun s2 g2 F2 => ?_
  have hr2 : RList RStr s2.heap X0 r (rowsL n nums) := mList mStr g2 hr
  have g02 := (k1.go X0).trans g2
  have hnum2 := mList mInt g02 hnum
  obtain ⟨c', vsn, nn, ec, cX2, hc2, hcr2⟩ := id hnum2
  cases ec
  -- text
  refine wpAny_execs_cons (wpAny_Assign_Name (cg2 (a := 84) (o := objAt 84) (d := fd 84) G F2 rfl (G.K _ _ rfl) rfl ?_))
  refine r_loc F2 (by walk_at "lkp") ?_
  refine wp_gen fun Qb hQb => r_listcomp rfl rfl (by decide) (fun _ => rfl) (r_loc F2 (by walk_at "lkp") ?_)
  refine it_list hA.handled F2 hc2 cX2 ?_
  intro s3 it io IO hit g3 F3 hio S
  refine comp_abs (own := own3 #[]) F3 hio hit S (by rw [hcr2.len, hn]; exact Nat.le_trans h6 (by decide)) (by decide) rfl
    (fun X' i s ys => All2 (RInt s.heap X') ys ((nums.take i).map (halfF n))) (fun C D s₄ g => .nil) ?_ ?_
  · intro C D i v s₀ s4 zs k m₃ o B' Q1 Q2 hi hv g0 hP g4 hB1 hB2 F4 hN hE
    obtain ⟨y, hy, ty, rfl⟩ := hcr2.get hv
    refine wpAny_assign_Name (r_store F4 fun s5 g5 F5 => ?_)
    refine wpAny_tests_nil ?_
    simp only [if_true]
    have cS : ∀ {s' X' φ' m' own'}, Fra B' s' X' φ' m' own' → s'.heap.IsCell (L + 1) (some (.int (n : Int) ts)) := fun F' => cell_in (x := "size") (own := own3 #[]) F3 hB1 F' rfl (by walk_at "lkp")
    refine wpAny_BinOp (wpAny_BinOp (r_loc F5 (by walk_at "lkp") (wpAny_BinOp (r_cellB (cS F5) (r_int fun s6 t6 k6 => r_sq (by omega) fun s7 t7 k7 => ?_)))))
    have F7 := (F5.tk k6).tk k7
    refine r_fdiv (by exact Nat.pow_pos (by omega)) (by have : n ^ 2 ≤ 6 ^ 2 := Nat.pow_le_pow_left h6 2; omega) fun s8 t8 k8 => ?_
    refine r_int fun s9 t9 k9 => r_fdiv (b := 2) (by decide) (by decide) fun s10 t10 k10 => ?_
    have F10 := ((F7.tk k8).tk k9).tk k10
    refine hN _ _ _ F10 (g5.trans ((k6.go _).trans ((k7.go _).trans ((k8.go _).trans ((k9.go _).trans (k10.go _)))))) fun s11 g11 => ?_
    have tk : (nums.take (i + 1)).map (halfF n) = (nums.take i).map (halfF n) ++ [halfF n y] := by rw [List.take_add_one, hy, List.map_append]; rfl
    rw [tk]
    exact (hP.imp fun _ _ h => h).snoc ⟨t10, rfl⟩
  intro C D s₀ s4 zs k oC mC g0 hP g4 hCX hDX hD hns F4
  refine comp_val F4 hCX hDX hD hns fun s5 g5 F5 hDX5 hD5 => hQb _ _ ?_
  rw [hcr2.len, List.take_length] at hP
  have g25 : Go X0 s2 X0 s5 := g3.trans (g0.trans (g4.trans g5))
  refine ⟨F5.keep _ _ (G.K _ _ rfl), ?_⟩
  have rl : (rowsL n nums).length = n := by unfold rowsL; rw [List.length_map, hn]
  refine text_spec (k := 10) (G.keeps F5.keep) F5.live (hA.le (by decide)) (mList mStr g25 hr2) ⟨D, zs, k, rfl, hDX5, hD5, hP.imp fun _ _ h => h⟩ (by rw [rl, List.length_map, hn]) (by rw [rl]; omega) (rows_len n nums) fun s6 tt k6 => ?_
  have F6 := F5.kept k6
  refine r_store F6 fun s7 g7 F7 => ?_
  have g07 : Go X0 s X0 s7 := g02.trans (g25.trans ((k6.go _).trans g7))
  -- lexer
  refine wpAny_execs_cons (wpAny_Assign_Name ?_)
  have hK7 : (KH w).In s7.heap := G.K.keeps F7.keep
  refine Call_ (r_glob (v := .ref 66) G F7 rfl (CK hK7 (AC ?_)))
  refine cg1 (a := 91) (o := objAt 91) (d := fd 91) G F7 rfl (G.K _ _ rfl) rfl ?_
  refine r_loc F7 (by walk_at "lkp") ⟨F7.keep _ _ (G.K _ _ rfl), ?_⟩
  have tz : (textL n nums).cps.size ≤ 100 := text_size (rows_len n nums) (by rw [rl]; exact h6)
  refine stream_spec (k := 10) G n86 (fun b o e => F7.keep b o e) F7.live (hA.le (by decide)) (F7.at (k := 2) rfl) (F7.inX 86 (by simp)) (Nat.le_trans tz (by decide)) fun s8 ps l vd ndd kb8 hdn hlv h86 hL hd hvd => ?_
  obtain ⟨F8, g8⟩ := F7.kb1 (k := 2) rfl kb8 h86
  have ldX : l.d ∉ X0 := fun q => by obtain ⟨o, e⟩ := F7.live _ q; rw [hdn] at e; cases e
  have ldB : B.get? l.d = none := by
    cases q : B.get? l.d with
    | none => rfl
    | some o => rw [F7.keep _ _ q] at hdn; cases hdn
  have F8' := F8.addO hd ldX ldB
  have g8' : Go X0 s7 (l.d :: X0) s8 := ⟨kb8.1, fun b o hb e => ⟨fun q => by
    rcases List.mem_cons.mp q with q | q
    · rw [q, hdn] at e; cases e
    · exact hb q, (g8.2 b o hb e).2⟩⟩
  refine args_nil ⟨G.K.keeps F8'.keep, ?_⟩
  refine make_lexer (k := 10) G.K G.nolimit (fun b o e => F8'.keep b o e) F8'.live (hA.le (by decide)) fun s9 x dx e kk pb pn k9 nx ndx npb nd hx hdx hpb => ?_
  simp only [List.nodup_cons, List.mem_cons, List.not_mem_nil, or_false, not_or, List.nodup_nil, not_false_eq_true, and_true] at nd
  obtain ⟨F9, g9, n9⟩ := F8'.newGs k9 [(dx, dictOf (LD.es e 1 l.f pb) kk), (pb, lst [] pn)] (by intro q hq; simp at hq; rcases hq with h | h <;> subst h <;> assumption) (by intro q hq; simp at hq; rcases hq with h | h <;> subst h <;> assumption) (by simpa using nd.2)
  have F9' : Fra B s9 (dx :: l.d :: pb :: X0) ⟨L, cs132 L⟩ _ (own3 ps ++ lexO e 1 l dx pb kk vd ndd [] pn) := (F9.perm (own' := own3 ps ++ lexO e 1 l dx pb kk vd ndd [] pn) (by
    show List.Perm (own3 ps ++ _) ((own3 ps ++ [_]) ++ _)
    rw [List.append_assoc]
    exact (List.Perm.swap _ _ _).append_left _)).setX fun z => by
      simp only [List.map_cons, List.map_nil, List.cons_append, List.nil_append, List.mem_cons]
      constructor <;> (rintro (h | h | h | h) <;> simp [h])
  have g9' : Go (l.d :: X0) s8 (dx :: l.d :: pb :: X0) s9 := g9.trans ⟨⟨rfl, rfl⟩, fun b o hb e => ⟨fun q => hb (by
    simp only [List.map_cons, List.map_nil, List.cons_append, List.nil_append, List.mem_cons] at q ⊢
    rcases q with h | h | h | h <;> simp [h]), e⟩⟩
  refine r_storeC (c := L + 3) F9' fun s10 g10 F10 => ?_
  have g210 : Go X0 s2 (dx :: l.d :: pb :: X0) s10 := g25.trans ((k6.go _).trans (g7.trans (g8'.trans (g9'.trans g10))))
  have hr10 := mList mStr g210 hr2
  obtain ⟨ar, vsr, nr, er, arX, har, harr⟩ := id hr10
  subst er
  have xX : x ∉ dx :: l.d :: pb :: X0 := fun q => by
    have live8 : ∀ z ∈ l.d :: X0, ∃ o, s8.heap.get? z = some o := F8'.live
    rcases List.mem_cons.mp q with q | q
    · exact nd.1.1 q
    · rcases List.mem_cons.mp q with q | q
      · obtain ⟨o, e⟩ := live8 l.d (by simp); rw [← q, nx] at e; cases e
      · rcases List.mem_cons.mp q with q | q
        · exact nd.1.2 q
        · obtain ⟨o, e⟩ := live8 x (by simp [q]); rw [nx] at e; cases e
  have n9a := n9 _ (.head _)
  have n9b := n9 _ (.tail _ (.head _))
  refine h s10 _ ps l x dx pb e kk vd ndd pn ar tt (g07.trans (g8'.trans (g9'.trans g10))) F10 ?_ (by walk_at "lkp") (by walk_at "lkp") (by walk_at "lkp") (by walk_at "lkp") (by walk_at "lkp") (g10.2 _ _ xX hx).2 xX (hL.go (g9'.trans g10)) hvd hr10
  intro y hy
  simp only [List.mem_cons, List.not_mem_nil, or_false] at hy
  rcases hy with h | h | h
  · subst h; exact fun q => n9a (by simp [q])
  · subst h; exact ldX
  · subst h; exact fun q => n9b (by simp [q])
end
end Mine
end

-- LawA3
section
open PySem PySem.W PyProof.Rows
set_option maxRecDepth 100000
set_option linter.all false
set_option autoImplicit false
namespace Mine
local macro_rules | `(tactic| walk_at "lkp") => `(tactic| first | assumption | exact upd_same | (refine lks (sne (by decide)) ?_; walk_at "lkp"))
theorem quo_len (cs : List Nat) {t r : List Nat} (h : quo cs = some (t, r)) : r.length ≤ cs.length := by
  match cs, h with
  | [], h => unfold quo at h; cases h
  | c :: r0, h =>
    unfold quo at h
    split at h
    · cases h; simp
    · split at h
      · split at h
        · cases h
        · rename_i d r'
          obtain ⟨q, hq, e⟩ := Option.map_eq_some_iff.mp h
          cases e
          have := quo_len r' (t := q.1) (r := q.2) hq
          simp only [List.length_cons]; omega
      · obtain ⟨q, hq, e⟩ := Option.map_eq_some_iff.mp h
        cases e
        have := quo_len r0 (t := q.1) (r := q.2) hq
        simp only [List.length_cons]; omega
termination_by cs.length
theorem unq_len (cs : List Nat) {t r : List Nat} (h : unq cs = some (t, r)) : r.length ≤ cs.length := by
  match cs, h with
  | [], h => unfold unq at h; cases h
  | c :: r0, h =>
    unfold unq at h
    split at h
    · cases h; simp
    · split at h
      · split at h
        · cases h
        · rename_i d r'
          obtain ⟨q, hq, e⟩ := Option.map_eq_some_iff.mp h
          cases e
          have := unq_len r' (t := q.1) (r := q.2) hq
          simp only [List.length_cons]; omega
      · obtain ⟨q, hq, e⟩ := Option.map_eq_some_iff.mp h
        cases e
        have := unq_len r0 (t := q.1) (r := q.2) hq
        simp only [List.length_cons]; omega
termination_by cs.length
theorem out_len : ∀ (cs : List Nat) {t r : List Nat}, outT cs = some (t, r) → r.length ≤ cs.length
  | [], t, r, h => by unfold outT at h; cases h; simp
  | c :: r0, t, r, h => by
    unfold outT at h
    split at h
    · have := out_len r0 h; simp only [List.length_cons]; omega
    · split at h
      · have := quo_len r0 h; simp only [List.length_cons]; omega
      · split at h
        · split at h
          · cases h
          · obtain ⟨q, hq, e⟩ := Option.map_eq_some_iff.mp h
            cases e
            rename_i d r'
            have := unq_len r' (t := q.1) (r := q.2) hq
            simp only [List.length_cons]; omega
        · obtain ⟨q, hq, e⟩ := Option.map_eq_some_iff.mp h
          cases e
          have := unq_len r0 (t := q.1) (r := q.2) hq
          simp only [List.length_cons]; omega
section
variable {p : Program} {w : World} {A : Around} {s : Shared} {B : Heap} {mg mb : Str → Option Value}
abbrev toldT (n : Nat) (nums : List Int) : List (List Nat) := (rowsL n nums).map (fun r => r.cps.toList) ++ [[]]
/-- what stands of the lexer at a turn of told -/
inductive ToldI (n : Nat) (nums : List Int) (l : Lx) (dx pb : Addr) (pn : Nat) (X' : List Addr) (i : Nat) (s : Shared) (ys : List Value) (m : Str → Option Value) (rest : List (Addr × Obj)) : Prop
  | mk (e : LD) (nl : Int) (kk : Nat) (vd : List Value) (ndd : Nat) (cs : List Nat) (er : rest = lexO e nl l dx pb kk vd ndd [] pn) (hvd : All2 Sgn vd cs) (hz : cs.length ≤ 1000) (hx : Lexes cs ((toldT n nums).drop i) []) (hc : nl + (cs.count 10 : Nat) = 1 + ((textL n nums).cps.toList.count 10 : Nat)) (hy : All2 RS ys (((toldT n nums).take i).map fun t => (⟨t.toArray⟩ : Str)))
set_option maxHeartbeats 2000000 in
theorem law_a3 {X0 : List Addr} {m : Str → Option Value} {L fa dx pb x : Addr} {l : Lx} {e : LD} {kk ndd pn : Nat} {vd : List Value} {cd : Value} {n : Nat} {tn ts : Tok} {ps : Array Value} {nums : List Int} {Q : Flow → Shared → Prop} (G : Gd w mg mb B) (hA : Rm A 20)
    (F : Fra B s (dx :: l.d :: pb :: X0) ⟨L, cs132 L⟩ m (own3 ps ++ lexO e 1 l dx pb kk vd ndd [] pn)) (hn : nums.length = n) (h4 : 4 ≤ n) (h6 : n ≤ 6) (m2 : m "size" = some (.int (n : Int) ts)) (m4 : m "lexer" = some (.ref x))
    (hx : s.heap.get? x = some (instObj 66 dx)) (xX : x ∉ dx :: l.d :: pb :: X0) (hL : LexF s.heap (dx :: l.d :: pb :: X0) l) (hvd : All2 Sgn vd (textL n nums).cps.toList)
    (h : ∀ s' e' kk' vd' ndd' at1, Go (dx :: l.d :: pb :: X0) s (dx :: l.d :: pb :: X0) s' → Fra B s' (dx :: l.d :: pb :: X0) ⟨L, cs132 L⟩ (upd m "told" (.ref at1)) (own3 ps ++ lexO e' (1 + ((textL n nums).cps.toList.count 10 : Nat)) l dx pb kk' vd' ndd' [] pn) → All2 Sgn vd' [] →
      RList RStr s'.heap (dx :: l.d :: pb :: X0) (.ref at1) (rowsL n nums ++ [⟨#[]⟩]) → W p w A (execs ((bd 132).drop 7) (E132 L fa cd)) Q s') :
    W p w A (execs ((bd 132).drop 6) (E132 L fa cd)) Q s := by
  have TL : (toldT n nums).length = n + 1 := by simp [toldT, rowsL, hn]
  have rl : (rowsL n nums).length = n := by unfold rowsL; rw [List.length_map, hn]
  have lx0 : Lexes (textL n nums).cps.toList (toldT n nums) [] := text_lexes (by rw [rl, List.length_map, hn]) (rows_len n nums)
  have tz : (textL n nums).cps.size ≤ 100 := text_size (rows_len n nums) (by rw [rl]; exact h6)
  generalize hX : dx :: l.d :: pb :: X0 = X at *
  refine wpAny_execs_cons (wpAny_Assign_Name (r_listcomp rfl rfl (by decide) (fun _ => rfl) ?_))
  refine ct1 G F boot_range (wpAny_BinOp (r_cell (c := L + 1) F (by walk_at "lkp") (r_int fun s1 t1 k1 => r_add fun s2 t2 k2 => ?_)))
  have F2 := (F.tk k1).tk k2
  have e1 : (n : Int) + 1 = ((n + 1 : Nat) : Int) := rfl
  rw [e1]
  refine r_range F2 ?_
  intro s3 ra tt uu vv k3 F3 raX hra
  refine it_range hA.handled F3 hra (by omega) ?_
  intro s4 it io IO hit g4 F4 hio S
  have k03 : Kept s s3 := Go.trans k1.kept (Go.trans k2.kept k3)
  have g04 : Go X s (it :: X) s4 := (k03.go X).trans g4
  refine comp_run (own1 := own3 ps) (mv := lexO e 1 l dx pb kk vd ndd [] pn) F4 hio hit S (Nat.le_trans (show n + 1 ≤ 7 by omega) (by decide)) (by decide) rfl (ToldI n nums l dx pb pn) ?_ ?_ ?_ ?_
  · intro C D s5 g5
    exact ⟨e, 1, kk, vd, ndd, (textL n nums).cps.toList, rfl, hvd, by rw [Array.length_toList]; omega, lx0, rfl, .nil⟩
  · intro C D i v s₀ s5 ys k m₁ rest₁ o hi hv g0 hP g5 hBk F5
    obtain ⟨e', nl, kk', vd', ndd', cs, er, hvd', hcz, hlx, hcnt, hys⟩ := hP
    subst er
    refine wpAny_assign_Name (r_store F5 fun s6 g6 F6 => ?_)
    refine wpAny_tests_nil ?_
    simp only [if_true]
    have hK : (KH w).In s6.heap := G.K.keeps fun b o e => F6.keep b o (base_hide F4 b o e)
    have gs6 : Go X s (it :: C :: D :: X) s6 := g04.trans (g0.trans (g5.trans g6))
    have cLx : s6.heap.IsCell (L + 3) (some (.ref x)) := by
      have c0 := F4.cell "lexer" (L + 3) rfl
      rw [m4] at c0
      exact cell_keeps c0 fun o' eo => F6.keep _ _ (hideAll_get _ eo fun q => by
        have hq : L + 3 ∈ (own3 ps ++ lexO e 1 l dx pb kk vd ndd [] pn ++ [(it, io)]).map (·.1) := by
          simp only [List.map_cons, List.map_nil, List.mem_cons, List.not_mem_nil, or_false] at q
          rcases q with q | q | q | q <;> simp [q]
        exact F4.ne (Fm.mem (φ := ⟨L, cs132 L⟩) (x := "lexer") rfl) hq rfl)
    obtain ⟨xX6, hx6⟩ := gs6.2 x _ xX hx
    have hL6 := hL.go gs6
    have hi' : i < (toldT n nums).length := by rw [TL]; exact hi
    have edr : (toldT n nums).drop i = (toldT n nums)[i] :: (toldT n nums).drop (i + 1) := List.drop_eq_getElem_cons hi'
    rw [edr] at hlx
    have hti : (toldT n nums)[i]? = some (toldT n nums)[i] := List.getElem?_eq_getElem hi'
    generalize (toldT n nums)[i] = ti at *
    cases hlx with
    | @cons _ cs2 _ _ _ ho hlx2 =>
    refine MC ?_
    refine r_cellB cLx ?_
    refine r_imeth (f := 56) hK hx6 (F6.at (k := 1) rfl) (es_g ..) ?_
    refine CK0 hK ?_
    have nd0 := (List.nodup_append.mp F6.nd).2.1
    simp only [List.map_cons, List.map_nil, List.cons_append, List.nil_append, List.nodup_cons, List.mem_cons, List.not_mem_nil, or_false, not_or, List.nodup_nil, not_false_eq_true, and_true] at nd0
    have I : LexAt w B s6.heap (it :: C :: D :: X) l x dx pb nl cs [] := ⟨F.fresh dx (by simp), F.fresh l.d (by simp), F.fresh pb (by simp), hx6, xX6, hL6, by simp [← hX], by simp [← hX], by simp [← hX], by
      simp only [List.nodup_cons, List.mem_cons, List.not_mem_nil, or_false, not_or, List.nodup_nil, not_false_eq_true, and_true]
      exact ⟨⟨nd0.2.1.1, nd0.2.1.2.1⟩, nd0.2.2.1.1⟩, ⟨e', kk', F6.at (k := 1) rfl⟩, ⟨vd', ndd', F6.at (k := 2) rfl, hvd'⟩, hcz, ⟨pn, F6.at (k := 3) rfl⟩⟩
    refine wpAny_call (gt_spec (k := 10) G (fun b o e => F6.keep b o (base_hide F4 b o e)) F6.live (hA.le (by decide)) I ho fun s7 e7 kk7 n7v vs7 nn7 t7 kb hd1 hd2 hv7 hc7 => ?_)
    have F7 : Fra (hideAll s4.heap (it :: (lexO e 1 l dx pb kk vd ndd [] pn).map (·.1))) s7 (it :: C :: D :: X) ⟨C, []⟩ _ ((D, lst ys k) :: lexO e7 n7v l dx pb kk7 vs7 nn7 [] pn ++ [(it, o)]) := F6.kb (own' := (D, lst ys k) :: lexO e7 n7v l dx pb kk7 vs7 nn7 [] pn ++ [(it, o)]) kb (by simp) rfl fun q hq => by
      simp only [List.cons_append, List.nil_append, List.mem_cons, List.not_mem_nil, or_false] at hq
      rcases hq with hq | hq | hq | hq | hq <;> subst hq
      · exact kb.get (by simp; exact ⟨nd0.1.1, nd0.1.2.1⟩) (F6.at (k := 0) rfl)
      · exact hd1
      · exact hd2
      · exact kb.get (by simp; exact ⟨fun z => nd0.2.1.2.1 z.symm, fun z => nd0.2.2.1.1 z.symm⟩) (F6.at (k := 3) rfl)
      · exact kb.get (by simp; exact ⟨fun z => nd0.2.1.2.2 z.symm, fun z => nd0.2.2.1.2 z.symm⟩) (F6.at (k := 4) rfl)
    have g67 : Go (it :: C :: D :: X) s6 (it :: C :: D :: X) s7 := kb.go fun z hz => by
      simp only [List.mem_cons, List.not_mem_nil, or_false] at hz
      rcases hz with hz | hz <;> subst hz <;> simp [← hX]
    refine ⟨_, lexO e7 n7v l dx pb kk7 vs7 nn7 [] pn, F7, g6.trans g67, fun s8 g8 => ⟨e7, n7v, kk7, vs7, nn7, cs2, rfl, hv7, ?_, hlx2, hc7.trans hcnt, ?_⟩⟩
    · have := out_len cs ho; omega
    · have tk : (toldT n nums).take (i + 1) = (toldT n nums).take i ++ [ti] := by rw [List.take_add_one, hti]; rfl
      rw [tk, List.map_append]
      exact hys.snoc ⟨t7, rfl⟩
  · rintro X' s5 ys m5 rest ⟨e', nl, kk', vd', ndd', cs, er, _⟩
    rw [er]; rfl
  · intro C D s₀ s5 ys k m₁ mv' oC mC g0 hP g5 hCX hDX hD hns F5
    obtain ⟨e', nl, kk', vd', ndd', cs, er, hvd', hcz, hlx, hcnt, hys⟩ := hP
    subst er
    have ed : (toldT n nums).drop (n + 1) = [] := List.drop_of_length_le (by omega)
    rw [ed] at hlx
    have ecs : cs = [] := by cases hlx; rfl
    subst ecs
    have enl : nl = 1 + ((textL n nums).cps.toList.count 10 : Nat) := by simpa using hcnt
    subst enl
    have et : ((toldT n nums).take (n + 1)).map (fun t => (⟨t.toArray⟩ : Str)) = rowsL n nums ++ [⟨#[]⟩] := by
      rw [List.take_of_length_le (by omega)]
      unfold toldT
      rw [List.map_append, List.map_map]
      congr 1
      exact (List.map_congr_left fun r _ => by show (⟨r.cps.toList.toArray⟩ : Str) = r; simp).trans (List.map_id _)
    rw [et] at hys
    refine comp_val F5 hCX hDX hD hns fun s6 g6 F6 hDX6 hD6 => ?_
    refine r_storeC (c := L + 4) F6 fun s7 g7 F7 => ?_
    obtain ⟨q1, q2⟩ := g7.2 D _ hDX6 hD6
    exact h s7 e' kk' vd' ndd' D (g04.trans (g0.trans (g5.trans (g6.trans g7)))) F7 hvd' ⟨D, ys, k, rfl, q1, q2, hys.imp fun _ _ h => h⟩
end
end Mine
end

-- LawB1
section
open PySem PySem.W PyProof.Rows PySem.SeqAt
set_option maxRecDepth 100000
set_option linter.all false
set_option autoImplicit false
namespace Mine
local macro_rules | `(tactic| walk_at "lkp") => `(tactic| first | assumption | exact upd_same | (refine lks (sne (by decide)) ?_; walk_at "lkp"))
/-- where the letter j leads -/
def rowN (n j : Nat) (y : Int) : Nat := if j = 0 then rA n y else rB n y
def waysL (n : Nat) (nums : List Int) : List (List Nat) := [nums.map (rowN n 0), nums.map (rowN n 1)]
def goodL (n : Nat) (nums : List Int) : List Bool := nums.map fun y => decide (sg (rowF (namesF n) n y) 2 = ⟨#[43]⟩)
theorem rowN_lt {n j : Nat} (hn : 0 < n) (y : Int) : rowN n j y < n := by
  have f : ∀ a : Int, (a.fmod n).toNat < n := fun a => by
    have h0 : 0 ≤ a.fmod n := Int.fmod_nonneg_of_pos a (by omega)
    have h1 : a.fmod n < n := Int.fmod_lt_of_pos a (by omega)
    omega
  unfold rowN rA rB
  split
  · exact f _
  · exact f _
theorem row_sign (names : Str) (n : Nat) (y : Int) {j : Nat} (hj : j < 2) : sg (rowF names n y) j = ⟨#[names.cps.getD (rowN n j y) 0]⟩ := by
  match j, hj with
  | 0, _ => rfl
  | 1, _ => rfl
theorem ways_take (n : Nat) (nums : List Int) {j : Nat} (hj : j < 2) : (waysL n nums).take (j + 1) = (waysL n nums).take j ++ [nums.map (rowN n j)] := by
  match j, hj with
  | 0, _ => rfl
  | 1, _ => rfl
theorem names_at {n i : Nat} (h6 : n ≤ 6) (hi : i < n) : (namesF n).cps.toList[i]? = some ((namesF n).cps.getD i 0) ∧ ∀ k, k < i → (namesF n).cps.toList[k]? ≠ some ((namesF n).cps.getD i 0) := by
  have hl : (namesF n).cps.size = n := names_len h6
  have e : (namesF n).cps.toList[i]? = some ((namesF n).cps.getD i 0) := by
    rw [Array.getElem?_toList]
    simp [hl, hi]
  refine ⟨e, fun k hk h => ?_⟩
  have nd : (namesF n).cps.toList.Nodup := by
    show (([34, 92, 32, 10, 35, 9] : List Nat).take n).Nodup
    exact List.Sublist.nodup (List.take_sublist _ _) (by decide)
  have := (List.getElem?_inj (by rw [Array.length_toList, hl]; omega) nd).mp (h.trans e.symm)
  omega
section
variable {p : Program} {w : World} {A : Around} {s : Shared} {B : Heap} {mg mb : Str → Option Value}
theorem r_neI {a b : Int} {t u : Tok} {Q : Value → Shared → Prop} (h : Q (.bool (decide (a ≠ b))) s) : W p w A (compareOp .NotEq (.int a t) (.int b u)) Q s := by
  refine PyProof.Rows.ne_int ?_
  have : (a != b) = decide (a ≠ b) := by rw [Bool.eq_iff_iff]; simp
  rw [this]; exact h
set_option maxHeartbeats 2000000 in
theorem law_b1 {X : List Addr} {m : Str → Option Value} {own : List (Addr × Obj)} {L fa dx pb x at1 ar : Addr} {l : Lx} {e : LD} {kk : Nat} {cd : Value} {n : Nat} {tn ts tt : Tok} {nums : List Int} {Q : Flow → Shared → Prop} (G : Gd w mg mb B) (hA : Rm A 20)
    (F : Fra B s X ⟨L, cs132 L⟩ m own) (hn : nums.length = n) (h4 : 4 ≤ n) (h6 : n ≤ 6) (m1 : m "size" = some (.int (n : Int) ts)) (m2 : m "names" = some (.str (namesF n) tn)) (m3 : m "lexer" = some (.ref x)) (m4 : m "told" = some (.ref at1)) (m5 : m "rows" = some (.ref ar)) (m6 : m "text" = some (.str (textL n nums) tt))
    (hx : s.heap.get? x = some (instObj 66 dx)) (xX : x ∉ X) (hdx : (dx, dictOf (LD.es e (1 + ((textL n nums).cps.toList.count 10 : Nat)) l.f pb) kk) ∈ own) (ht : RList RStr s.heap X (.ref at1) (rowsL n nums ++ [⟨#[]⟩])) (hr : RList RStr s.heap X (.ref ar) (rowsL n nums))
    (h : ∀ s' m' aw ag, Go X s X s' → Fra B s' X ⟨L, cs132 L⟩ m' own → m' "size" = some (.int (n : Int) ts) → m' "names" = some (.str (namesF n) tn) → m' "lexer" = some (.ref x) → m' "ways" = some (.ref aw) → m' "good" = some (.ref ag) →
      RPs s'.heap X (.ref aw) (waysL n nums) → RList RBool s'.heap X (.ref ag) (goodL n nums) → W p w A (execs ((bd 132).drop 10) (E132 L fa cd)) Q s') :
    W p w A (execs ((bd 132).drop 7) (E132 L fa cd)) Q s := by
  have rl : (rowsL n nums).length = n := by unfold rowsL; rw [List.length_map, hn]
  obtain ⟨at1', vst, nt, e1, atX, hat, hatr⟩ := id ht
  cases e1
  obtain ⟨ar', vsr, nr, e1, arX, har, harr⟩ := id hr
  cases e1
  have shT : shaped (.list ((rowsL n nums ++ [(⟨#[]⟩ : Str)]).map PyData.str)) = true := by
    refine (Shp.list (k := 0) fun z hz => Shp.str ?_).ok (by decide)
    rcases List.mem_append.mp hz with q | q
    · obtain ⟨y, _, ey⟩ := List.mem_map.mp q
      rw [← ey]
      exact ok_add (ok_add (ok_sg (ok_names n) _) (ok_sg (ok_names n) _)) (ok_sg ok_pm _)
    · simp only [List.mem_singleton] at q; subst q; unfold PyData.strOk; simp
  -- the check
  refine wpAny_execs_cons (wpAny_If (isTrue_or (wpAny_isTrue_Compare1 (r_cell (c := L + 4) F m4 (wpAny_BinOp (r_loc F m5 (List_ (AC (r_strC oNil fun s1 t1 k1 => args_nil (r_newListF (F.tk k1) fun s2 b k2 F2 bX hb => ?_))))))))))
  have k02 : Kept s s2 := Go.trans k1.kept k2
  refine r_addL F2 (k02.get har) hb (by rw [harr.len, rl]; simp; omega) fun s3 c k3 F3 cX hc => ?_
  have k03 : Kept s s3 := Go.trans k02 k3
  refine r_neD (k := 16) (R := RList RStr) (X := X) (rdList rdStr) hA (mList mStr (k03.go X) ht) ⟨c, _, 0, rfl, cX, hc, (harr.imp fun _ _ h => h).append (.cons ⟨t1, rfl⟩ .nil)⟩ shT (wpAny_truthy_bool ?_)
  simp only [Bool.false_eq_true, if_false]
  have hx3 := k03.get hx
  have hd3 : s3.heap.get? dx = some (dictOf (LD.es e (1 + ((textL n nums).cps.toList.count 10 : Nat)) l.f pb) kk) := F3.has _ hdx
  have hK3 : (KH w).In s3.heap := G.K.keeps F3.keep
  refine isTrue_or (wpAny_isTrue_Compare1 (Attribute_any_ (r_cell (c := L + 3) F3 m3 ?_)))
  refine r_iget hK3 hx3 hd3 (es_l ..) rfl fun s4 k4 => ?_
  have F4 := F3.tk k4
  refine wpAny_BinOp (r_int fun s5 t5 k5 => ?_)
  have F5 := F4.tk k5
  refine MC (r_loc F5 m6 ?_)
  refine PySem.GM.count (CM1 (AC (r_strC o10 fun s6 t6 k6 => args_nil (r_count fun s7 t7 k7 => r_add fun s8 t8 k8 => r_neI (wpAny_truthy_bool ?_)))))
  have F8 := ((F5.tk k6).tk k7).tk k8
  rw [decide_eq_false (fun z => z rfl)]
  simp only [Bool.false_eq_true, if_false]
  refine isTrue_or_nil ?_
  simp only [Bool.false_eq_true, if_false]
  refine wpAny_execs_nil ?_
  have k08 : Kept s s8 := Go.trans k03 (Go.trans k4.kept (Go.trans k5.kept (Go.trans k6.kept (Go.trans k7.kept k8.kept))))
  obtain ⟨atX8, hat8⟩ := (k08.go X).2 at1 _ atX hat
  have LN : L + 2 ∈ X := F.inX _ (List.mem_append_left _ (Fm.mem (φ := ⟨L, cs132 L⟩) (x := "names") rfl))
  have hatn : All2 (RStr s.heap X) (vst.take n) (rowsL n nums) := by
    have := all2_take hatr n
    rw [List.take_left' rl] at this
    exact this
  have en : nums.take n = nums := List.take_of_length_le (by omega)
  -- ways
  refine wpAny_execs_cons (wp_gen fun Qb hQb => r_compAssign rfl rfl rfl (by decide) (fun _ => rfl) ?_)
  refine ct1 G F8 boot_range (r_int fun s9 t9 k9 => r_range (n := 2) (F8.tk k9) ?_)
  intro s10 ra ta tb tc k10 F10 raX hra
  refine it_range hA.handled F10 hra (by omega) ?_
  intro s11 it io IO hit g11 F11 hio S
  have g811 : Go X s8 (it :: X) s11 := (k9.go X).trans ((k10.go _).trans g11)
  refine comp_abs1 (y := "place") (own := own) F11 hio hit S (Nat.le_trans (show 2 ≤ 6 by omega) (by decide)) (fun n acc => rfl) (fun h => rfl)
    (fun X' j s ys => All2 (RList RNat s.heap X') ys ((waysL n nums).take j)) (fun C c D s₄ g => .nil) ?_ ?_
  · intro C c D j v s₀ s12 zs c' m₃ o B' Q1 Q2 hj hv g0 hP g12 hB1 hB2 F12 hN hE
    obtain ⟨tj, rfl⟩ := hv
    refine wpAny_assign_Name (r_storeC (c := c) F12 fun s13 g13 F13 => ?_)
    refine wpAny_tests_nil ?_
    simp only [if_true]
    have cN : ∀ {s' X' φ' m' own'}, Fra B' s' X' φ' m' own' → s'.heap.IsCell (L + 2) (some (.str (namesF n) tn)) := fun F' => cell_in (x := "names") (own := own) F11 hB1 F' rfl (by walk_at "lkp")
    have cS : ∀ {s' X' φ' m' own'}, Fra B' s' X' φ' m' own' → s'.heap.IsCell (L + 1) (some (.int (n : Int) ts)) := fun F' => cell_in (x := "size") (own := own) F11 hB1 F' rfl (by walk_at "lkp")
    have cT : ∀ {s' X' φ' m' own'}, Fra B' s' X' φ' m' own' → s'.heap.IsCell (L + 4) (some (.ref at1)) := fun F' => cell_in (x := "told") (own := own) F11 hB1 F' rfl (by walk_at "lkp")
    have gA : Go X s8 (it :: C :: c :: D :: X) s13 := g811.trans (g0.trans (g12.trans g13))
    obtain ⟨atX13, hat13⟩ := gA.2 at1 _ atX8 hat8
    refine r_listcomp rfl rfl (by decide) (fun _ => rfl) ?_
    refine Subscript_ (r_cellB (cT F13) (r_cut_to (k := n) F13 (isListOf hat13) (by rw [hatr.len]; simp; omega) (fun R hR => r_cellB (cS F13) (hR s13 _ (Go.refl _ _))) fun s14 b14 k14 F14 b14X hb14 => ?_))
    refine it_list hA.handled F14 hb14 b14X ?_
    intro s15 it2 io2 IO2 hit2 g15 F15 hio2 S2
    have hcN := cN F15
    have hcP : s15.heap.IsCell c (some (.int (j : Int) tj)) := by
      have := F15.cell "place" c rfl
      rw [show upd m₃ "place" (.int (j : Int) tj) "place" = some (.int (j : Int) tj) from upd_same] at this
      exact this
    have neN : L + 2 ≠ it2 := fun q => hit2 (by rw [← q]; simp [LN])
    have neP : c ≠ it2 := fun q => hit2 (by rw [← q]; simp)
    have lenv : (vst.take n).length = n := by rw [hatn.len, rl]
    refine comp_abs (own := [(D, lst zs c'), (it, o)]) F15 hio2 hit2 S2 (by rw [lenv]; exact Nat.le_trans h6 (by decide)) (by decide) rfl
      (fun X' i s ys => All2 (RNat s.heap X') ys ((nums.take i).map (rowN n j))) (fun C D s₄ g => .nil) ?_ ?_
    · intro C2 D2 i v2 s₀2 s16 zs2 c2 m₄ o4 B2 Q3 Q4 hi hv2 g02 hP2 g16 hB3 hB4 F16 hN2 hE2
      obtain ⟨rw1, hrw, trw, rfl⟩ := hatn.get hv2
      have hy : ∃ y, nums[i]? = some y ∧ rw1 = rowF (namesF n) n y := by
        unfold rowsL at hrw
        rw [List.getElem?_map] at hrw
        obtain ⟨y, hy, e⟩ := Option.map_eq_some_iff.mp hrw
        exact ⟨y, hy, e.symm⟩
      obtain ⟨y, hy, erw⟩ := hy
      refine wpAny_assign_Name (r_store F16 fun s17 g17 F17 => ?_)
      refine wpAny_tests_nil ?_
      simp only [if_true]
      refine MC (r_cellB (cell_up hcN neN hB3 F17) ?_)
      refine PySem.GM.index (CM1 (AC (Subscript_ (r_loc F17 (by walk_at "lkp") (r_cellB (cell_up hcP neP hB3 F17) (r_itemS (i := j) (by rw [erw, row_len]; omega) (by rw [erw, row_len]; decide) fun s18 t18 k18 => args_nil ?_))))))
      rw [erw, row_sign _ _ _ hj]
      have na := names_at h6 (rowN_lt (n := n) (j := j) (by omega) y)
      refine r_index (i := rowN n j y) na.1 na.2 fun s19 t19 k19 => ?_
      have F19 := (F17.tk k18).tk k19
      refine hN2 _ _ _ F19 (g17.trans ((k18.go _).trans (k19.go _))) fun s20 g20 => ?_
      have tk : (nums.take (i + 1)).map (rowN n j) = (nums.take i).map (rowN n j) ++ [rowN n j y] := by rw [List.take_add_one, hy, List.map_append]; rfl
      rw [tk]
      exact (hP2.imp fun _ _ h => h).snoc ⟨t19, rfl⟩
    · intro C2 D2 s₀2 s16 zs2 c2 oC2 mC2 g02 hP2 g16 hCX2 hDX2 hD2 hns2 F16
      refine comp_val F16 hCX2 hDX2 hD2 hns2 fun s17 g17 F17 hDX2' hD2' => ?_
      rw [lenv, en] at hP2
      have gB : Go (it :: C :: c :: D :: X) s13 (it :: C :: c :: D :: X) s17 := (k14.go _).trans (g15.trans (g02.trans (g16.trans g17)))
      refine hN _ _ _ F17 (g13.trans gB) fun s18 g18 => ?_
      obtain ⟨q1, q2⟩ := g18.2 D2 _ hDX2' hD2'
      rw [ways_take n nums hj]
      have hnew : RList RNat s18.heap (it :: C :: c :: D :: X) (.ref D2) (nums.map (rowN n j)) := ⟨D2, zs2, c2, rfl, q1, q2, hP2.imp fun _ _ h => h⟩
      have gC : Go (it :: C :: c :: D :: X) s₀ (it :: C :: c :: D :: X) s18 := g12.trans (g13.trans (gB.trans g18))
      exact (hP.imp fun _ _ h => mList mNat gC h).snoc hnew
  intro C c D s₀ s12 zs c' oC mC g0 hP g12 hCX hDX hD hns F12
  refine comp_use F12 hCX hDX hD hns fun s13 g13 F13 hDX13 hD13 => hQb _ _ ?_
  have g813 : Go X s8 X s13 := g811.trans (g0.trans (g12.trans g13))
  have hways : RPs s13.heap X (.ref D) (waysL n nums) := by
    have e : (waysL n nums).take 2 = waysL n nums := rfl
    rw [e] at hP
    exact ⟨D, zs, c', rfl, hDX13, hD13, hP.imp fun _ _ h => mList mNat (g12.trans g13) h⟩
  -- good
  have g013 : Go X s X s13 := (k08.go X).trans g813
  obtain ⟨atX13, hat13⟩ := g013.2 at1 _ atX hat
  refine wpAny_execs_cons (wp_gen fun Qc hQc => r_compAssign rfl rfl rfl (by decide) (fun _ => rfl) ?_)
  refine Subscript_ (r_cell (c := L + 4) F13 (by walk_at "lkp") (r_cut_to (k := n) F13 (isListOf hat13) (by rw [hatr.len]; simp; omega) (fun R hR => r_cell (c := L + 1) F13 (by walk_at "lkp") (hR s13 _ (Go.refl _ _))) fun s14 b14 k14 F14 b14X hb14 => ?_))
  refine it_list hA.handled F14 hb14 b14X ?_
  intro s15 it2 io2 IO2 hit2 g15 F15 hio2 S2
  have lenv : (vst.take n).length = n := by rw [hatn.len, rl]
  refine comp_abs (own := own) F15 hio2 hit2 S2 (by rw [lenv]; exact Nat.le_trans h6 (by decide)) (by decide) rfl
    (fun X' i s ys => All2 (RBool s.heap X') ys ((goodL n nums).take i)) (fun C D s₄ g => .nil) ?_ ?_
  · intro C2 D2 i v2 s₀2 s16 zs2 c2 m₄ o4 B2 Q3 Q4 hi hv2 g02 hP2 g16 hB3 hB4 F16 hN2 hE2
    obtain ⟨rw1, hrw, trw, rfl⟩ := hatn.get hv2
    have hy : ∃ y, nums[i]? = some y ∧ rw1 = rowF (namesF n) n y := by
      unfold rowsL at hrw
      rw [List.getElem?_map] at hrw
      obtain ⟨y, hy, e⟩ := Option.map_eq_some_iff.mp hrw
      exact ⟨y, hy, e.symm⟩
    obtain ⟨y, hy, erw⟩ := hy
    refine wpAny_assign_Name (r_store F16 fun s17 g17 F17 => ?_)
    refine wpAny_tests_nil ?_
    simp only [if_true]
    refine wpAny_Compare1 (Subscript_ (r_loc F17 (by walk_at "lkp") (r_int fun s18 t18 k18 => r_itemS (i := 2) (by rw [erw, row_len]; decide) (by rw [erw, row_len]; decide) fun s19 t19 k19 => ?_)))
    refine r_strC o43 fun s20 t20 k20 => r_eqS ?_
    have F20 := ((F17.tk k18).tk k19).tk k20
    refine hN2 _ _ _ F20 (g17.trans ((k18.go _).trans ((k19.go _).trans (k20.go _)))) fun s21 g21 => ?_
    have tk : (goodL n nums).take (i + 1) = (goodL n nums).take i ++ [decide (sg (rowF (namesF n) n y) 2 = ⟨#[43]⟩)] := by
      unfold goodL
      rw [List.take_add_one, List.getElem?_map, hy]; rfl
    rw [tk, ← erw]
    exact All2.snoc (P := RBool s21.heap (it2 :: C2 :: D2 :: X)) rfl (hP2.imp fun _ _ h => h)
  intro C2 D2 s₀2 s16 zs2 c2 oC2 mC2 g02 hP2 g16 hCX2 hDX2 hD2 hns2 F16
  refine comp_use F16 hCX2 hDX2 hD2 hns2 fun s17 g17 F17 hDX17 hD17 => hQc _ _ ?_
  have lg : (goodL n nums).take n = goodL n nums := List.take_of_length_le (by unfold goodL; rw [List.length_map]; omega)
  rw [lenv, lg] at hP2
  have g1317 : Go X s13 X s17 := (k14.go X).trans (g15.trans (g02.trans (g16.trans g17)))
  exact h s17 _ D D2 (g013.trans g1317) F17 (by walk_at "lkp") (by walk_at "lkp") (by walk_at "lkp") (by walk_at "lkp") (by walk_at "lkp") (mPs g1317 hways) ⟨D2, zs2, c2, rfl, hDX17, hD17, hP2.imp fun _ _ h => h⟩
end
end Mine
end

-- LawB2
section
open PySem PySem.W PyProof.Rows PySem.SeqAt
set_option maxRecDepth 100000
set_option linter.all false
set_option autoImplicit false
namespace Mine
local macro_rules | `(tactic| walk_at "lkp") => `(tactic| first | assumption | exact upd_same | (refine lks (sne (by decide)) ?_; walk_at "lkp"))
theorem Cl.len {lt : Nat → Nat → Prop} : ∀ {P : List (List Nat)} {U : List Nat}, Cl lt U P → P.length ≤ U.length
  | [], _, _ => Nat.zero_le _
  | p :: r, U, ⟨f, h1, h2, _, _, h5⟩ => by
    have ih := Cl.len h5
    have h3 : 0 < (U.filter f).length := by rw [← h1]; exact List.length_pos_iff.mpr h2
    have h4 := filter_len f U
    rw [List.length_cons]; omega
theorem rounds_size {good : List Bool} {ways : List (List Nat)} {n : Nat} {rs : List (List (List Nat))} (M : Mach good ways n) (h0 : 0 < n) (hr : IsRounds good ways rs) (hs : ∀ r, rs.getLast? = some r → ¬ r.length < (finerF r ways).length) : rs.length ≤ n + 1 := by
  have hpos : 0 < rs.length := (List.getElem?_eq_some_iff.mp hr.head).1
  have inc : ∀ i (h : i < rs.length), i ≤ (rs[i]).length := by
    intro i
    induction i with
    | zero => intro h; exact Nat.zero_le _
    | succ i ih =>
      intro h
      have := (hr.step i rs[i] rs[i + 1] (List.getElem?_eq_getElem (by omega)) (List.getElem?_eq_getElem h)).2
      have := ih (by omega)
      omega
  have h1 := inc (rs.length - 1) (by omega)
  have h2 := (rounds_cl M h0 hr hs (rs.length - 1)).len
  rw [Nat.min_self, List.getD_eq_getElem?_getD, List.getElem?_eq_getElem (by omega), List.length_range] at h2
  have h3 : (rs[rs.length - 1]).length ≤ n := h2
  omega
theorem machL {n : Nat} {nums : List Int} (hn : nums.length = n) (h0 : 0 < n) : Mach (goodL n nums) (waysL n nums) n := by
  refine ⟨by unfold goodL; rw [List.length_map, hn], rfl, fun way hw => ?_, fun way hw x hx => ?_⟩
  · unfold waysL at hw
    simp only [List.mem_cons, List.not_mem_nil, or_false] at hw
    rcases hw with e | e <;> (rw [e, List.length_map, hn])
  · unfold waysL at hw
    simp only [List.mem_cons, List.not_mem_nil, or_false] at hw
    rcases hw with e | e <;> (rw [e] at hx; obtain ⟨y, _, ey⟩ := List.mem_map.mp hx; rw [← ey]; exact rowN_lt h0 y)
section
variable {p : Program} {w : World} {A : Around} {s : Shared} {B : Heap} {mg mb : Str → Option Value}
set_option maxHeartbeats 2000000 in
theorem law_b2 {X : List Addr} {m : Str → Option Value} {rest : List (Addr × Obj)} {L fa x aw ag : Addr} {cd : Value} {n : Nat} {tn ts : Tok} {nums : List Int} {Q : Flow → Shared → Prop} (G : Gd w mg mb B) (n98 : B.get? 98 = none) (n105 : B.get? 105 = none) (hA : Rm A 20)
    (F : Fra B s X ⟨L, cs132 L⟩ m ((105, tabObj #[]) :: (98, tabObj #[]) :: rest)) (hn : nums.length = n) (h4 : 4 ≤ n) (h6 : n ≤ 6) (m1 : m "size" = some (.int (n : Int) ts)) (m2 : m "names" = some (.str (namesF n) tn)) (m3 : m "lexer" = some (.ref x)) (m4 : m "ways" = some (.ref aw)) (m5 : m "good" = some (.ref ag))
    (hw : RPs s.heap X (.ref aw) (waysL n nums)) (hg : RList RBool s.heap X (.ref ag) (goodL n nums))
    (h : ∀ s' m' aR aP rs p1 p2, Go X s X s' → Fra B s' X ⟨L, cs132 L⟩ m' ((105, tabObj p1) :: (98, tabObj p2) :: rest) → m' "names" = some (.str (namesF n) tn) → m' "lexer" = some (.ref x) → m' "good" = some (.ref ag) → m' "rounds" = some (.ref aR) → m' "pairs" = some (.ref aP) →
      RList RBool s'.heap X (.ref ag) (goodL n nums) → RList RPs s'.heap X (.ref aR) rs → IsRounds (goodL n nums) (waysL n nums) rs → (∀ r, rs.getLast? = some r → ¬ r.length < (finerF r (waysL n nums)).length) → RList RTri s'.heap X (.ref aP) (pairsF (namesF n) (waysL n nums)) → W p w A (execs ((bd 132).drop 13) (E132 L fa cd)) Q s') :
    W p w A (execs ((bd 132).drop 10) (E132 L fa cd)) Q s := by
  have M := machL hn (show 0 < n by omega)
  -- rounds
  refine wpAny_execs_cons (wpAny_Assign_Name (cg2 (a := 110) (o := objAt 110) (d := fd 110) G F rfl (G.K _ _ rfl) rfl ?_))
  refine r_loc F m5 (r_loc F m4 ⟨F.keep _ _ (G.K _ _ rfl), ?_⟩)
  refine rounds_spec (k := 10) (n := n) G n98 n105 (fun b o e => F.keep b o e) F.live (hA.le (by decide)) (F.at (k := 0) rfl) (F.inX 105 (by simp)) (.inl rfl) (F.at (k := 1) rfl) (F.inX 98 (by simp)) (.inl rfl) hg hw M.gn (by omega) (by omega) M.wn fun s1 r rs p1 p2 kb h105 h98 hrs hIs hlast => ?_
  obtain ⟨F1, g1⟩ := F.kb2 kb h105 h98
  obtain ⟨aR, vsR, nR, er, aRX, haR, haRr⟩ := id hrs
  subst er
  refine r_storeC (c := L + 5) F1 fun s2 g2 F2 => ?_
  have g02 := g1.trans g2
  have hrs2 := mList mPs g2 hrs
  obtain ⟨aRX2, haR2⟩ := g2.2 aR _ aRX haR
  have haRr2 := haRr.imp fun _ _ h => mPs g2 h
  have hpos : 0 < rs.length := (List.getElem?_eq_some_iff.mp hIs.head).1
  have lenR : vsR.length = rs.length := haRr.len
  have lenrs : rs.length ≤ 1000 := by have := rounds_size M (show 0 < n by omega) hIs hlast; omega
  -- the kinds
  refine wpAny_execs_cons (wpAny_If (wpAny_isTrue_Compare1 (wp_gen fun Qb hQb => r_listcomp rfl rfl (by decide) (fun _ => rfl) ?_)))
  refine ct1 G F2 boot_range (r_cell (c := L + 1) F2 (by walk_at "lkp") (r_range F2 ?_))
  intro s3 ra ta tb tc k3 F3 raX hra
  refine it_range hA.handled F3 hra (by omega) ?_
  intro s4 it io IO hit g4 F4 hio S
  have g24 : Go X s2 (it :: X) s4 := (k3.go X).trans g4
  refine comp_abs (own := (105, tabObj p1) :: (98, tabObj p2) :: rest) F4 hio hit S (Nat.le_trans h6 (by decide)) (by decide) rfl
    (fun X' j s ys => All2 (RPs s.heap X') ys ((List.range j).map fun t => rs.getD (min t (rs.length - 1)) [])) (fun C D s₄ g => .nil) ?_ ?_
  · intro C D j v s₀ s5 zs c m₃ o B' Q1 Q2 hj hv g0 hP g5 hB1 hB2 F5 hN hE
    obtain ⟨tj, rfl⟩ := hv
    refine wpAny_assign_Name (r_store F5 fun s6 g6 F6 => ?_)
    refine wpAny_tests_nil ?_
    simp only [if_true]
    have cR : ∀ {s' X' φ' m' own'}, Fra B' s' X' φ' m' own' → s'.heap.IsCell (L + 5) (some (.ref aR)) := fun F' => cell_in (x := "rounds") (own := (105, tabObj p1) :: (98, tabObj p2) :: rest) F4 hB1 F' rfl (by walk_at "lkp")
    have gA : Go X s2 (it :: C :: D :: X) s6 := g24.trans (g0.trans (g5.trans g6))
    obtain ⟨aRX6, haR6⟩ := gA.2 aR _ aRX2 haR2
    refine Subscript_ (r_cellB (cR F6) ?_)
    refine cb2 (G.keeps hB2) F6 boot_min (r_loc F6 (by walk_at "lkp") (wpAny_BinOp (cb1 (G.keeps hB2) F6 boot_len (r_cellB (cR F6) (r_len haR6 (by omega) fun s7 t7 k7 => r_int fun s8 t8 k8 => r_sub fun s9 t9 k9 => ?_)))))
    have k69 : Kept s6 s9 := Go.trans k7.kept (Go.trans k8.kept k9.kept)
    have F9 := F6.kept k69
    have e1 : ((vsR.length : Nat) : Int) - 1 = ((rs.length - 1 : Nat) : Int) := by omega
    rw [e1]
    refine r_min hA.handled fun s10 t10 k10 => ?_
    have F10 := F9.kept k10
    have hmin : min j (rs.length - 1) < rs.length := by omega
    obtain ⟨vr, hvr, hvR⟩ := haRr2.get' (List.getElem?_eq_getElem hmin)
    refine r_item (k10.get (k69.get haR6)) (by omega) hvr ?_
    have g610 : Go (it :: C :: D :: X) s6 (it :: C :: D :: X) s10 := (k69.go _).trans (k10.go _)
    refine hN _ _ _ F10 (g6.trans g610) fun s11 g11 => ?_
    rw [List.range_succ, List.map_append]
    refine (hP.imp fun _ _ h => mPs (g5.trans (g6.trans (g610.trans g11))) h).snoc ?_
    have e2 : rs.getD (min j (rs.length - 1)) [] = rs[min j (rs.length - 1)] := by rw [List.getD_eq_getElem?_getD, List.getElem?_eq_getElem hmin]; rfl
    show RPs s11.heap (it :: C :: D :: X) vr (rs.getD (min j (rs.length - 1)) [])
    rw [e2]
    exact mPs (gA.trans (g610.trans g11)) hvR
  intro C D s₀ s5 zs c oC mC g0 hP g5 hCX hDX hD hns F5
  refine comp_val F5 hCX hDX hD hns fun s6 g6 F6 hDX6 hD6 => hQb _ _ ?_
  have g26 : Go X s2 X s6 := g24.trans (g0.trans (g5.trans g6))
  have g06 := g02.trans g26
  refine cg2 (a := 115) (o := objAt 115) (d := fd 115) G F6 rfl (G.K _ _ rfl) rfl ?_
  refine r_loc F6 (by walk_at "lkp") (r_loc F6 (by walk_at "lkp") ⟨F6.keep _ _ (G.K _ _ rfl), ?_⟩)
  refine kinds_spec (k := 10) (G.keeps F6.keep) F6.live (hA.le (by decide)) (mList mBool g06 hg) (mPs g06 hw) M.gn h6 M.wl M.wn M.wv fun s7 vk ks k7 hks hkl hkk => ?_
  have F7 := F6.kept k7
  have ekk := rounds_kinds M (show 0 < n by omega) hIs hlast hkk hkl
  have hL7 : RList RPs s7.heap X (.ref D) ks := by
    rw [← ekk]
    exact mList mPs (k7.go X) ⟨D, zs, c, rfl, hDX6, hD6, hP.imp fun _ _ h => mPs (g5.trans g6) h⟩
  refine r_neD (k := 16) (R := RList RPs) (X := X) (rdList (rdList (rdList rdNat))) hA hL7 hks ((Shp.list fun _ _ => Shp.list fun _ _ => Shp.list fun _ _ => Shp.int).ok (by decide)) (wpAny_truthy_bool ?_)
  simp only [Bool.false_eq_true, if_false]
  refine wpAny_execs_nil ?_
  have g07 := g06.trans (k7.go X)
  -- pairs
  refine wpAny_execs_cons (wpAny_Assign_Name (cg2 (a := 120) (o := objAt 120) (d := fd 120) G F7 rfl (G.K _ _ rfl) rfl ?_))
  refine r_cell (c := L + 2) F7 (by walk_at "lkp") (r_loc F7 (by walk_at "lkp") ⟨F7.keep _ _ (G.K _ _ rfl), ?_⟩)
  refine pairs_spec (k := 10) (n := n) (G.keeps F7.keep) F7.live (hA.le (by decide)) (mPs g07 hw) (names_len h6) (by omega) (by rw [M.wl]; decide) M.wn M.wv fun s8 vp k8 hps => ?_
  have F8 := F7.kept k8
  obtain ⟨aP, vsP, nP, rfl, aPX, haP, haPr⟩ := id hps
  refine r_store F8 fun s9 g9 F9 => ?_
  have g09 : Go X s X s9 := g07.trans ((k8.go X).trans g9)
  have g29 : Go X s2 X s9 := g26.trans ((k7.go X).trans ((k8.go X).trans g9))
  exact h s9 _ aR aP rs p1 p2 g09 F9 (by walk_at "lkp") (by walk_at "lkp") (by walk_at "lkp") (by walk_at "lkp") (by walk_at "lkp") (mList mBool g09 hg) (mList mPs g29 hrs2) hIs hlast (mList mTri g9 hps)
end
end Mine
end

-- LawB3
section
open PySem PySem.W PyProof.Rows PySem.SeqAt
set_option maxRecDepth 100000
set_option linter.all false
set_option autoImplicit false
namespace Mine
local macro_rules | `(tactic| walk_at "lkp") => `(tactic| first | assumption | exact upd_same | (refine lks (sne (by decide)) ?_; walk_at "lkp"))
abbrev togB (t : Tri) (part : List Nat) : Bool := part.contains t.1 && part.contains t.2.1
abbrev togR (t : Tri) (parts : List (List Nat)) : Bool := parts.any fun part => part.contains t.1 && part.contains t.2.1
theorem filter_snoc {α : Type} (f : α → Bool) {l : List α} {i : Nat} {x : α} (h : l[i]? = some x) : (l.take (i + 1)).filter f = (l.take i).filter f ++ (if f x = true then [x] else []) := by
  rw [List.take_add_one, h]
  simp only [Option.toList_some, List.filter_append]
  congr 1
  cases q : f x <;> simp [List.filter_cons, q]
theorem all2_empty {α : Type} {P : Value → α → Prop} {vs : List Value} {l : List α} (h : All2 P vs l) : vs.isEmpty = l.isEmpty := by cases h <;> rfl
theorem due_snoc {names : Str} {rs : List (List (List Nat))} {pairs : List Tri} {j : Nat} {t : Tri} (h : pairs[j]? = some t) : dueF names rs (pairs.take (j + 1)) = dueF names rs (pairs.take j) ++ (if wholeF rs t < rs.length then [(keyF names t, wholeF rs t)] else []) := by
  unfold dueF
  rw [filter_snoc _ h, List.map_append]
  congr 1
  by_cases q : wholeF rs t < rs.length <;> simp [q]
theorem any_filter {α : Type} (f : α → Bool) : ∀ l : List α, (l.filter f).isEmpty = !l.any f
  | [] => rfl
  | x :: r => by
    cases q : f x <;> simp [List.filter_cons, q]
    have := any_filter f r
    simpa using this
section
variable {p : Program} {w : World} {A : Around} {s : Shared} {B : Heap} {mg mb : Str → Option Value}
theorem r_lt {a b : Int} {t u : Tok} {Q : Value → Shared → Prop} (h : Q (.bool (decide (a < b))) s) : W p w A (compareOp .Lt (.int a t) (.int b u)) Q s := PyProof.Rows.lt_int h
theorem ifT {A B : Prop} (h : A) : if true = true then A else B := h
theorem ifF {A B : Prop} (h : B) : if false = true then A else B := h
inductive B31 (n : Nat) (tn : Tok) (rs : List (List (List Nat))) (pairs : List Tri) (X' : List Addr) (own0 : List (Addr × Obj)) (x ag aR aP aD : Addr) (j : Nat) (s : Shared) (m : Str → Option Value) (own : List (Addr × Obj)) : Prop
  | mk (vs : List Value) (nv : Nat) (e : own = own0 ++ [(aD, lst vs nv)]) (b1 : m "names" = some (.str (namesF n) tn)) (b2 : m "lexer" = some (.ref x)) (b3 : m "good" = some (.ref ag)) (b4 : m "rounds" = some (.ref aR)) (b5 : m "pairs" = some (.ref aP)) (b6 : m "due" = some (.ref aD)) (hvs : All2 (RKN s.heap X') vs (dueF (namesF n) rs (pairs.take j)))
set_option maxHeartbeats 2000000 in
theorem law_b3 {X : List Addr} {m : Str → Option Value} {p1 p2 : Array Value} {q1 q2 q3 q4 : Addr × Obj} {L fa x ag aR aP : Addr} {cd : Value} {n : Nat} {tn : Tok} {rs : List (List (List Nat))} {pairs : List Tri} {Q : Flow → Shared → Prop} (G : Gd w mg mb B) (hA : Rm A 20)
    (F : Fra B s X ⟨L, cs132 L⟩ m [(105, tabObj p1), (98, tabObj p2), q1, q2, q3, q4]) (h6 : n ≤ 6) (m2 : m "names" = some (.str (namesF n) tn)) (m3 : m "lexer" = some (.ref x)) (m5 : m "good" = some (.ref ag)) (m6 : m "rounds" = some (.ref aR)) (m7 : m "pairs" = some (.ref aP))
    (hR : RList RPs s.heap X (.ref aR) rs) (hP : RList RTri s.heap X (.ref aP) pairs) (hz : rs.length ≤ 100) (hz2 : ∀ r ∈ rs, r.length ≤ 100) (hpz : pairs.length ≤ 100) (hpn : ∀ t ∈ pairs, t.1 < n ∧ t.2.1 < n)
    (h : ∀ s' m' aD vs nv, aD ∉ X → Go X s (aD :: X) s' → Fra B s' (aD :: X) ⟨L, cs132 L⟩ m' [(105, tabObj p1), (98, tabObj p2), q1, q2, q3, q4, (aD, lst vs nv)] → m' "names" = some (.str (namesF n) tn) → m' "lexer" = some (.ref x) → m' "good" = some (.ref ag) → m' "pairs" = some (.ref aP) → m' "due" = some (.ref aD) →
      All2 (RKN s'.heap (aD :: X)) vs (dueF (namesF n) rs pairs) → W p w A (execs ((bd 132).drop 15) (E132 L fa cd)) Q s') :
    W p w A (execs ((bd 132).drop 13) (E132 L fa cd)) Q s := by
  -- due = []
  refine wpAny_execs_cons (wpAny_Assign_Name (List_ (args_nil (r_newListO F fun s1 aD aDX g1 F1 => r_store F1 fun s2 g2 F2 => ?_))))
  have g02 := g1.trans g2
  generalize hY : aD :: X = Y at *
  obtain ⟨aP', vsP, nP, er, aPX, haP, haPr⟩ := mList mTri g02 hP
  cases er
  obtain ⟨aR', vsR, nR, er, aRX, haR, haRr⟩ := mList mPs g02 hR
  cases er
  have lenR : vsR.length = rs.length := haRr.len
  have LP : L + 6 ∈ Y := F2.inX _ (List.mem_append_left _ (Fm.mem (φ := ⟨L, cs132 L⟩) (x := "p") rfl))
  have LQ : L + 7 ∈ Y := F2.inX _ (List.mem_append_left _ (Fm.mem (φ := ⟨L, cs132 L⟩) (x := "q") rfl))
  refine wpAny_execs_cons (wpAny_For (r_loc F2 (by walk_at "lkp") ?_))
  refine it_list hA.handled F2 haP aPX ?_
  intro s3 it io IO hit g3 F3 hio S
  refine loop_abs (own := [(105, tabObj p1), (98, tabObj p2), q1, q2, q3, q4, (aD, lst [] 0)]) _ _ _ F3 hio hit S (fun j s m own => B31 n tn rs pairs (it :: Y) [(105, tabObj p1), (98, tabObj p2), q1, q2, q3, q4] x ag aR aP aD j s m own) ?_ ?_ ?_
  · exact ⟨[], 0, rfl, by walk_at "lkp", by walk_at "lkp", by walk_at "lkp", by walk_at "lkp", by walk_at "lkp", by walk_at "lkp", .nil⟩
  · intro j v s₀ s4 m₁ own₁ o Q1 hj hv g0 hI g04 F4 hQ1
    obtain ⟨vs, nv, rfl, b1, b2, b3, b4, b5, b6, hvs⟩ := hI
    obtain ⟨t, ht, hRt⟩ := haPr.get hv
    have tm : t ∈ pairs := List.mem_of_getElem? ht
    obtain ⟨hn1, hn2⟩ := hpn t tm
    have g24 : Go Y s2 (it :: Y) s4 := g3.trans (g0.trans g04)
    obtain ⟨a, nn, v1, v2, v3, rfl, aX, ha, ⟨ta, rfl⟩, ⟨tb, rfl⟩, h3⟩ := mTri g24 hRt
    refine r_unpack_list hA.handled ha rfl rfl fun s5 k5 => ?_
    have F5 := F4.kept k5
    refine assignInOrder_cons (wpAny_assign_Name (r_storeC (c := L + 6) F5 fun s6 g6 F6 => ?_))
    refine assignInOrder_cons (wpAny_assign_Name (r_storeC (c := L + 7) F6 fun s7 g7 F7 => ?_))
    refine assignInOrder_cons (wpAny_assign_Name (r_store F7 fun s8 g8 F8 => assignInOrder_nil ?_))
    have g48 : Go (it :: Y) s4 (it :: Y) s8 := (k5.go _).trans (g6.trans (g7.trans g8))
    have g28 := g24.trans g48
    obtain ⟨aRX8, haR8⟩ := g28.2 aR _ aRX haR
    have haRr8 := haRr.imp fun _ _ h => mPs g28 h
    -- whole
    refine wpAny_execs_cons (wp_gen fun Qb hQb => r_compAssign rfl rfl rfl (by decide) (fun _ => rfl) (r_cell (c := L + 5) F8 (by walk_at "lkp") ?_))
    refine it_list hA.handled F8 haR8 aRX8 ?_
    intro s9 it2 io2 IO2 hit2 g9 F9 hio2 S2
    refine comp_abs (own := [(105, tabObj p1), (98, tabObj p2), q1, q2, q3, q4, (aD, lst vs nv), (it, o)]) F9 hio2 hit2 S2 (by rw [lenR]; exact Nat.le_trans hz (by decide)) (by decide) rfl
      (fun X' i s ys => All2 (RPs s.heap X') ys ((rs.take i).filter (togR t))) (fun C D s₄ g => .nil) ?_ ?_
    · intro C D i v s₀' s10 zs c m₃ o2 B' Q2 Q3 hi hv' g0' hP' g10 hB1 hB2 F10 hN hE
      obtain ⟨parts, hparts, hpR⟩ := haRr8.get hv'
      have pm : parts ∈ rs := List.mem_of_getElem? hparts
      have plen := hz2 parts pm
      refine wpAny_assign_Name (r_store F10 fun s11 g11 F11 => ?_)
      have g811 := g9.trans (g0'.trans (g10.trans g11))
      obtain ⟨ap, vsp, np, rfl, apX, hap, hapr⟩ := mPs g811 hpR
      have cP : ∀ {s' X' φ' m' own'}, Fra B' s' X' φ' m' own' → s'.heap.IsCell (L + 6) (some (.int (t.1 : Int) ta)) := fun F' => cell_in (x := "p") (own := [(105, tabObj p1), (98, tabObj p2), q1, q2, q3, q4, (aD, lst vs nv), (it, o)]) F9 hB1 F' rfl (by walk_at "lkp")
      have cQ : ∀ {s' X' φ' m' own'}, Fra B' s' X' φ' m' own' → s'.heap.IsCell (L + 7) (some (.int (t.2.1 : Int) tb)) := fun F' => cell_in (x := "q") (own := [(105, tabObj p1), (98, tabObj p2), q1, q2, q3, q4, (aD, lst vs nv), (it, o)]) F9 hB1 F' rfl (by walk_at "lkp")
      refine wpAny_tests_one (wpAny_isTrue_Compare1 (wp_gen fun Qc hQc => r_listcomp rfl rfl (by decide) (fun _ => rfl) (r_loc F11 (by walk_at "lkp") ?_)))
      refine it_list hA.handled F11 hap apX ?_
      intro s12 it3 io3 IO3 hit3 g12 F12 hio3 S3
      have hcP := cP F12
      have hcQ := cQ F12
      have neP : L + 6 ≠ it3 := fun q => hit3 (by rw [← q]; simp [LP])
      have neQ : L + 7 ≠ it3 := fun q => hit3 (by rw [← q]; simp [LQ])
      refine comp_abs (own := [(D, lst zs c), (it2, o2)]) F12 hio3 hit3 S3 (by rw [hapr.len]; exact Nat.le_trans plen (by decide)) (by decide) rfl
        (fun X' i s ys => All2 (RList RNat s.heap X') ys ((parts.take i).filter (togB t))) (fun C D s₄ g => .nil) ?_ ?_
      · intro C2 D2 i2 v2 s₀2 s13 zs2 c2 m₄ o4 B2 Q4 Q5 hi2 hv2 g02' hP2 g13 hB3 hB4 F13 hN2 hE2
        obtain ⟨part, hpart, hptR⟩ := hapr.get hv2
        refine wpAny_assign_Name (r_store F13 fun s14 g14 F14 => ?_)
        have g1214 := g12.trans (g02'.trans (g13.trans g14))
        obtain ⟨apt, vpt, npt, rfl, aptX, hapt, haptr⟩ := mList mNat g1214 hptR
        have hel : ∀ s15, Go (it3 :: C2 :: D2 :: it2 :: C :: D :: it :: Y) s14 (it3 :: C2 :: D2 :: it2 :: C :: D :: it :: Y) s15 → RList RNat s15.heap (it3 :: C2 :: D2 :: it2 :: C :: D :: it :: Y) (.ref apt) part := fun s15 g15 => mList mNat g15 ⟨apt, vpt, npt, rfl, aptX, hapt, haptr⟩
        have fs := filter_snoc (togB t) hpart
        refine wpAny_tests_one ?_
        refine isTrue_and (wpAny_isTrue_Compare1 (r_cellB (cell_up hcP neP hB3 F14) (r_loc F14 (by walk_at "lkp") (r_in_nats hapt haptr (wpAny_truthy_bool ?_)))))
        cases e1 : part.contains t.1 with
        | false =>
          refine ifF ?_
          refine hE2 _ _ F14 g14 ?_
          rw [fs, if_neg (by rw [togB, e1]; simp), List.append_nil]
          exact hP2.imp fun _ _ h => mList mNat (g13.trans g14) h
        | true =>
          refine ifT ?_
          refine isTrue_and (wpAny_isTrue_Compare1 (r_cellB (cell_up hcQ neQ hB3 F14) (r_loc F14 (by walk_at "lkp") (r_in_nats hapt haptr (wpAny_truthy_bool ?_)))))
          cases e2 : part.contains t.2.1 with
          | false =>
            refine ifF ?_
            refine hE2 _ _ F14 g14 ?_
            rw [fs, if_neg (by rw [togB, e1, e2]; simp), List.append_nil]
            exact hP2.imp fun _ _ h => mList mNat (g13.trans g14) h
          | true =>
            refine ifT ?_
            refine isTrue_and_nil ?_
            refine ifT ?_
            refine r_loc F14 (by walk_at "lkp") (hN2 _ _ _ F14 g14 fun s15 g15 => ?_)
            rw [fs, if_pos (by rw [togB, e1, e2]; rfl)]
            exact (hP2.imp fun _ _ h => mList mNat (g13.trans (g14.trans g15)) h).snoc (hel s15 g15)
      · intro C2 D2 s₀2 s13 zs2 c2 oC2 mC2 g02' hP2 g13 hCX2 hDX2 hD2 hns2 F13
        refine comp_val F13 hCX2 hDX2 hD2 hns2 fun s14 g14 F14 hDX14 hD14 => hQc _ _ ?_
        have g1114 : Go (it2 :: C :: D :: it :: Y) s11 (it2 :: C :: D :: it :: Y) s14 := g12.trans (g02'.trans (g13.trans g14))
        refine List_ (args_nil (r_newListF F14 fun s15 b k15 F15 bX hb => ?_))
        refine r_ne_nil (hA.le (by decide)) (k15.get hD14) hb (wpAny_truthy_bool ?_)
        have g1115 := g1114.trans (k15.go _)
        have ez : zs2.isEmpty = ((parts.take vsp.length).filter (togB t)).isEmpty := all2_empty hP2
        rw [hapr.len, List.take_length, any_filter] at ez
        rw [ez, Bool.not_not]
        have fs := filter_snoc (togR t) hparts
        cases e1 : parts.any (togB t) with
        | false =>
          refine ifF ?_
          refine hE _ _ F15 (g11.trans g1115) ?_
          rw [fs, if_neg (by rw [togR, e1]; simp), List.append_nil]
          exact hP'.imp fun _ _ h => mPs (g10.trans (g11.trans g1115)) h
        | true =>
          refine ifT ?_
          refine r_loc F15 (by walk_at "lkp") (hN _ _ _ F15 (g11.trans g1115) fun s16 g16 => ?_)
          rw [fs, if_pos (by rw [togR, e1])]
          exact (hP'.imp fun _ _ h => mPs (g10.trans (g11.trans (g1115.trans g16))) h).snoc (mPs (g811.trans (g1115.trans g16)) hpR)
    intro C D s₀' s10 zs c oC mC g0' hP' g10 hCX hDX hD hns F10
    refine comp_use F10 hCX hDX hD hns fun s11 g11 F11 hDX11 hD11 => hQb _ _ ?_
    have g811 : Go (it :: Y) s8 (it :: Y) s11 := g9.trans (g0'.trans (g10.trans g11))
    obtain ⟨aRX11, haR11⟩ := g811.2 aR _ aRX8 haR8
    have lw : zs.length = wholeF rs t := by rw [hP'.len, lenR, List.take_length]; rfl
    have lwz : wholeF rs t ≤ rs.length := List.length_filter_le _ _
    have nml := names_len h6
    refine wpAny_execs_cons (wpAny_If (wpAny_isTrue_Compare1 (cb1 G F11 boot_len (r_loc F11 (by walk_at "lkp") (r_len hD11 (by omega) fun s12 t12 k12 => ?_)))))
    have F12 := F11.tk k12
    refine cb1 G F12 boot_len (r_cell (c := L + 5) F12 (by walk_at "lkp") (r_len (k12.kept.get haR11) (by omega) fun s13 t13 k13 => r_lt (wpAny_truthy_bool ?_)))
    have F13 := F12.tk k13
    have k1113 : Kept s11 s13 := Go.trans k12.kept k13.kept
    rw [lw, lenR]
    have ds := due_snoc (names := namesF n) (rs := rs) ht
    have g413 : Go (it :: Y) s4 (it :: Y) s13 := g48.trans (g811.trans (k1113.go _))
    by_cases hlt : wholeF rs t < rs.length
    · rw [decide_eq_true (by omega)]
      refine ifT ?_
      rw [if_pos hlt] at ds
      refine wpAny_execs_cons (wpAny_Expr_any (MC (r_loc F13 (by walk_at "lkp") (r_method_append (F13.at (k := 6) rfl) (CM1 (AC ?_))))))
      refine List_ (AC (wpAny_BinOp (Subscript_ (r_cell (c := L + 2) F13 (by walk_at "lkp") (r_cell (c := L + 6) F13 (by walk_at "lkp") (r_itemS (by omega) (by omega) fun s14 t14 k14 => ?_))))))
      have F14 := F13.tk k14
      refine Subscript_ (r_cell (c := L + 2) F14 (by walk_at "lkp") (r_cell (c := L + 7) F14 (by walk_at "lkp") (r_itemS (by omega) (by omega) fun s15 t15 k15 => ?_)))
      refine r_addS (by simp [sg, Str.length]) fun s16 t16 k16 => ?_
      have F16 := (F14.tk k15).tk k16
      have k1116 : Kept s11 s16 := Go.trans k1113 (Go.trans k14.kept (Go.trans k15.kept k16.kept))
      refine AC (cb1 G F16 boot_len (r_loc F16 (by walk_at "lkp") (r_len (k1116.get hD11) (by omega) fun s17 t17 k17 => ?_)))
      have F17 := F16.tk k17
      refine args_nil (r_newListF F17 fun s18 b k18 F18 bX hb => ?_)
      have lenv : vs.length ≤ 100 := by
        rw [hvs.len]
        unfold dueF
        rw [List.length_map]
        have e1 := List.length_filter_le (fun t => decide (wholeF rs t < rs.length)) (pairs.take j)
        have e2 : (pairs.take j).length ≤ pairs.length := by simp; omega
        omega
      refine args_nil (r_append F18 6 rfl (fun s19 g19 F19 => ?_) (Nat.le_trans lenv (by decide)))
      have gA : Go (it :: Y) s4 (it :: Y) s19 := g48.trans (g811.trans ((k1116.go _).trans ((k17.go _).trans ((k18.go _).trans g19))))
      refine wpAny_execs_nil (wpAny_execs_nil (hQ1 _ _ [(105, tabObj p1), (98, tabObj p2), q1, q2, q3, q4, (aD, lst (vs ++ [.ref b]) (nv + 1))] F19 gA ⟨vs ++ [.ref b], nv + 1, rfl, by walk_at "lkp", by walk_at "lkp", by walk_at "lkp", by walk_at "lkp", by walk_at "lkp", by walk_at "lkp", ?_⟩).1)
      rw [ds]
      obtain ⟨z1, z2⟩ := g19.2 b _ bX hb
      exact (hvs.imp fun _ _ h => mKN (g04.trans gA) h).snoc ⟨b, 0, _, _, rfl, z1, z2, ⟨t16, rfl⟩, ⟨t17, by rw [lw]⟩⟩
    · rw [decide_eq_false (by omega)]
      refine ifF ?_
      rw [if_neg hlt, List.append_nil] at ds
      refine wpAny_execs_nil (wpAny_execs_nil (hQ1 _ _ [(105, tabObj p1), (98, tabObj p2), q1, q2, q3, q4, (aD, lst vs nv)] F13 g413 ⟨vs, nv, rfl, by walk_at "lkp", by walk_at "lkp", by walk_at "lkp", by walk_at "lkp", by walk_at "lkp", by walk_at "lkp", ?_⟩).1)
      rw [ds]
      exact hvs.imp fun _ _ h => mKN (g04.trans g413) h
  · intro s₀ s4 m₁ own₁ g0 hI g04 F4
    obtain ⟨vs, nv, rfl, b1, b2, b3, b4, b5, b6, hvs⟩ := hI
    rw [haPr.len, List.take_length] at hvs
    subst hY
    exact h s4 _ aD vs nv aDX (g02.trans (g3.trans (g0.trans g04))) F4 (by walk_at "lkp") (by walk_at "lkp") (by walk_at "lkp") (by walk_at "lkp") (by walk_at "lkp") (hvs.imp fun _ _ h => mKN g04 h)
end
end Mine
end

-- LawB4
section
open PySem PySem.W PyProof.Rows PySem.SeqAt
set_option maxRecDepth 100000
set_option linter.all false
set_option autoImplicit false
namespace Mine
local macro_rules | `(tactic| walk_at "lkp") => `(tactic| first | assumption | exact upd_same | (refine lks (sne (by decide)) ?_; walk_at "lkp"))
theorem sgInjL {n : Nat} (h6 : n ≤ 6) : SgInj (namesF n) n := fun i j hi hj e => by
  have h1 : (namesF n).cps.getD i 0 = (namesF n).cps.getD j 0 := by
    have := congrArg (fun x : Str => x.cps.toList) e
    simpa [sg] using this
  rcases Nat.lt_trichotomy i j with q | q | q
  · exact absurd ((names_at h6 hi).1.trans (by rw [h1])) ((names_at h6 hj).2 i q)
  · exact q
  · exact absurd ((names_at h6 hj).1.trans (by rw [h1])) ((names_at h6 hi).2 j q)
section
variable {p : Program} {w : World} {A : Around} {s : Shared} {B : Heap} {mg mb : Str → Option Value}
set_option maxHeartbeats 2000000 in
theorem law_b4 {X0 : List Addr} {m : Str → Option Value} {p1 p2 p3 : Array Value} {L fa x ag aP aD dx pb : Addr} {l : Lx} {e : LD} {nl : Int} {kk ndd pn nv : Nat} {vd vs : List Value} {cd : Value} {n : Nat} {tn : Tok} {good : List Bool} {ways : List (List Nat)} {rs : List (List (List Nat))} {Q : Flow → Shared → Prop} (G : Gd w mg mb B) (hA : Rm A 20)
    (F : Fra B s (aD :: dx :: l.d :: pb :: X0) ⟨L, cs132 L⟩ m [(105, tabObj p1), (98, tabObj p2), (86, tabObj p3), (dx, dictOf (LD.es e nl l.f pb) kk), (l.d, lst vd ndd), (pb, lst [] pn), (aD, lst vs nv)]) (hX : ∀ y ∈ [dx, l.d, pb], y ∉ aD :: X0)
    (h4 : 4 ≤ n) (h6 : n ≤ 6) (m2 : m "names" = some (.str (namesF n) tn)) (m3 : m "lexer" = some (.ref x)) (m5 : m "good" = some (.ref ag)) (m7 : m "pairs" = some (.ref aP)) (m8 : m "due" = some (.ref aD))
    (hx : s.heap.get? x = some (instObj 66 dx)) (xX : x ∉ aD :: dx :: l.d :: pb :: X0) (hL : LexF s.heap (aD :: dx :: l.d :: pb :: X0) l) (hvd : All2 Sgn vd [])
    (M : Mach good ways n) (hIs : IsRounds good ways rs) (hlast : ∀ r, rs.getLast? = some r → ¬ r.length < (finerF r ways).length)
    (hg : RList RBool s.heap (aD :: dx :: l.d :: pb :: X0) (.ref ag) good) (hP : RList RTri s.heap (aD :: dx :: l.d :: pb :: X0) (.ref aP) (pairsF (namesF n) ways)) (hvs : All2 (RKN s.heap (aD :: dx :: l.d :: pb :: X0)) vs (dueF (namesF n) rs (pairsF (namesF n) ways)))
    (h : ∀ s', SG s s' → (∀ b o, B.get? b = some o → s'.heap.get? b = some o) → s'.heap.get? 105 = some (tabObj p1) → s'.heap.get? 98 = some (tabObj p2) → s'.heap.get? 86 = some (tabObj p3) → Q (.ret (.bool true)) s') :
    W p w A (execs ((bd 132).drop 15) (E132 L fa cd)) Q s := by
  have inj := sgInjL h6
  have nml := names_len h6
  have pl := pairs_len (ways := ways) nml h6
  have pnd := pairs_nodup (ways := ways) inj nml
  have pn6 : ∀ t ∈ pairsF (namesF n) ways, t.1 < n ∧ t.2.1 < n := fun t ht => by
    obtain ⟨a, b, hab, hb, et⟩ := (mem_pairs nml).mp ht
    subst et
    exact ⟨Nat.lt_trans hab hb, hb⟩
  have nd0 := (List.nodup_append.mp F.nd).2.1
  simp only [List.map_cons, List.map_nil, List.nodup_cons, List.mem_cons, List.not_mem_nil, or_false, not_or, List.nodup_nil, not_false_eq_true, and_true] at nd0
  have I : LexAt w B s.heap (aD :: dx :: l.d :: pb :: X0) l x dx pb nl [] [] := ⟨F.fresh dx (by simp), F.fresh l.d (by simp), F.fresh pb (by simp), hx, xX, hL, by simp, by simp, by simp, by
    simp only [List.nodup_cons, List.mem_cons, List.not_mem_nil, or_false, not_or, List.nodup_nil, not_false_eq_true, and_true]
    exact ⟨⟨nd0.2.2.2.1.1, nd0.2.2.2.1.2.1⟩, nd0.2.2.2.2.1.1⟩, ⟨e, kk, F.at (k := 3) rfl⟩, ⟨vd, ndd, F.at (k := 4) rfl, hvd⟩, by simp, ⟨pn, F.at (k := 5) rfl⟩⟩
  have h127 : s.heap.get? 127 = some (objAt 127) := F.keep _ _ (G.K _ _ rfl)
  -- came, put = ..
  refine wpAny_execs_cons (Assign_Tuple ?_)
  refine Call_ (r_glob (v := .ref 127) G F rfl (CDA (o := objAt 127) (fd := fd 127) h127 rfl ?_))
  refine AC (r_cell (c := L + 3) F m3 ?_)
  refine AC (r_cell (c := L + 2) F m2 ?_)
  refine AC (r_loc F m5 ?_)
  refine AC (r_loc F m7 (args_nil ⟨h127, ?_⟩))
  refine line_spec (k := 10) (n := n) G (fun b o e => F.keep b o e) F.live (hA.le (by decide)) I hg hP nml M.gn (by omega) (by omega) pn6 pnd fun s1 r D kb hRun hr => ?_
  obtain ⟨a, na, v1, v2, rfl, aX, ha, hcame, hput⟩ := hr
  have F0 : Fra B s ([(dx, dictOf (LD.es e nl l.f pb) kk), (l.d, lst vd ndd), (pb, lst [] pn)].map (·.1) ++ (aD :: X0)) ⟨L, cs132 L⟩ m ([(105, tabObj p1), (98, tabObj p2), (86, tabObj p3), (aD, lst vs nv)] ++ [(dx, dictOf (LD.es e nl l.f pb) kk), (l.d, lst vd ndd), (pb, lst [] pn)]) :=
    (F.perm (own' := [(105, tabObj p1), (98, tabObj p2), (86, tabObj p3), (aD, lst vs nv)] ++ [(dx, dictOf (LD.es e nl l.f pb) kk), (l.d, lst vd ndd), (pb, lst [] pn)]) (by
      show List.Perm (_ :: _ :: _ :: (aD, lst vs nv) :: _) (_ :: _ :: _ :: ([_, _, _] ++ [(aD, lst vs nv)]))
      exact .cons _ (.cons _ (.cons _ (List.perm_append_comm (l₁ := [(aD, lst vs nv)])))))).setX fun z => by
      simp only [List.map_cons, List.map_nil, List.cons_append, List.nil_append, List.mem_cons]
      constructor <;> (rintro (h | h | h | h | h) <;> simp [h])
  have F1 : Fra B s1 (aD :: X0) ⟨L, cs132 L⟩ m [(105, tabObj p1), (98, tabObj p2), (86, tabObj p3), (aD, lst vs nv)] := F0.dropY (M := [dx, l.d, pb]) (fun z hz q => by
    simp only [List.map_cons, List.map_nil, List.mem_cons, List.not_mem_nil, or_false] at q
    exact hX z (by simpa using q) hz) kb.2 (fun z hz => by simpa using hz)
  have g01 : Go (aD :: dx :: l.d :: pb :: X0) s (aD :: X0) s1 := ⟨kb.1, fun b o hb eb => ⟨fun q => hb (by
    rcases List.mem_cons.mp q with q | q
    · simp [q]
    · simp [q]), kb.2 b o (fun q => hb (by
    simp only [List.mem_cons, List.not_mem_nil, or_false] at q
    rcases q with q | q | q <;> simp [q])) eb⟩⟩
  have fz : Go (aD :: dx :: l.d :: pb :: X0) s1 (aD :: X0) s1 := go_sub fun z hz => by
    rcases List.mem_cons.mp hz with q | q <;> simp [q]
  have hvs1 : All2 (RKN s1.heap (aD :: X0)) vs (dueF (namesF n) rs (pairsF (namesF n) ways)) := hvs.imp fun _ _ h => mKN g01 h
  have hcame1 := mList mKN fz hcame
  have hput1 := mList mStr fz hput
  have sg1 : SG s s1 := kb.1
  obtain ⟨hperm, hnd⟩ := march_due M (show 0 < n by omega) nml inj hIs hlast hRun
  have hok := (run_ok M nml inj hRun).ok
  have okk : ∀ k ∈ D.map (·.1), PyData.strOk k = true := fun k hk => by
    obtain ⟨t, _, et⟩ := List.mem_map.mp (hok.sub k hk)
    rw [← et]
    exact ok_add (ok_sg (ok_names n) _) (ok_sg (ok_names n) _)
  have lenD : D.length ≤ 15 := by have := hok.len; omega
  refine r_unpack_list hA.handled ha rfl rfl fun s2 k2 => ?_
  have F2 := F1.kept k2
  refine assignInOrder_cons (wpAny_assign_Name (r_store F2 fun s3 g3 F3 => ?_))
  refine assignInOrder_cons (wpAny_assign_Name (r_store F3 fun s4 g4 F4 => assignInOrder_nil ?_))
  have g14 : Go (aD :: X0) s1 (aD :: X0) s4 := (k2.go _).trans (g3.trans g4)
  obtain ⟨ac, vsc, nc, e1, acX, hac, hacr⟩ := mList mKN g14 hcame1
  subst e1
  have hput4 := mList mStr g14 hput1
  have hvs4 := hvs1.imp fun _ _ h => mKN g14 h
  have lenc : vsc.length = D.length := hacr.len
  have shK : shaped (.list ((D.map (·.1)).map PyData.str)) = true := (Shp.list (k := 0) fun z hz => Shp.str (okk z hz)).ok (by decide)
  -- return
  refine wpAny_execs_cons (wpAny_Return_some ?_)
  refine BoolOp_and (wpAny_Compare1 (wp_gen fun Qb hQb => r_listcomp rfl rfl (by decide) (fun _ => rfl) (r_loc F4 (by walk_at "lkp") ?_)))
  refine it_list hA.handled F4 hac acX ?_
  intro s5 it io IO hit g5 F5 hio S
  refine comp_abs (own := [(105, tabObj p1), (98, tabObj p2), (86, tabObj p3), (aD, lst vs nv)]) F5 hio hit S (by rw [lenc]; exact Nat.le_trans lenD (by decide)) (by decide) rfl
    (fun X' i s ys => All2 (RStr s.heap X') ys ((D.take i).map (·.1))) (fun C D s₄ g => .nil) ?_ ?_
  · intro C D1 i v s₀ s6 zs c m₃ o B' Q1 Q2 hi hv g0 hPP g6 hB1 hB2 F6 hN hE
    obtain ⟨d, hd, hR⟩ := hacr.get hv
    obtain ⟨a2, n2, u1, u2, rfl, a2X, ha2, ⟨t1, rfl⟩, ⟨t2, rfl⟩⟩ := mKN (g5.trans (g0.trans g6)) hR
    refine r_unpack_list hA.handled ha2 rfl rfl fun s7 k7 => ?_
    have F7 := F6.kept k7
    refine assignInOrder_cons (wpAny_assign_Name (r_store F7 fun s8 g8 F8 => ?_))
    refine assignInOrder_cons (wpAny_assign_Name (r_store F8 fun s9 g9 F9 => assignInOrder_nil ?_))
    refine wpAny_tests_nil ?_
    simp only [if_true]
    refine r_loc F9 (by walk_at "lkp") (hN _ _ _ F9 ((k7.go _).trans (g8.trans g9)) fun s10 g10 => ?_)
    have tk : (D.take (i + 1)).map (·.1) = (D.take i).map (·.1) ++ [d.1] := by rw [List.take_add_one, hd, List.map_append]; rfl
    rw [tk]
    exact (hPP.imp fun _ _ h => h).snoc ⟨t1, rfl⟩
  intro C D1 s₀ s6 zs c oC mC g0 hPP g6 hCX hDX hD hns F6
  refine comp_val F6 hCX hDX hD hns fun s7 g7 F7 hDX7 hD7 => hQb _ _ ?_
  rw [lenc, List.take_length] at hPP
  have g47 : Go (aD :: X0) s4 (aD :: X0) s7 := g5.trans (g0.trans (g6.trans g7))
  refine r_loc F7 (by walk_at "lkp") ?_
  refine r_eqD (k := 16) (R := RList RStr) (X := (aD :: X0)) (rdList rdStr) hA ⟨D1, zs, c, rfl, hDX7, hD7, hPP.imp fun _ _ h => h⟩ (mList mStr g47 hput4) shK (wpAny_truthy_bool ?_)
  simp only [if_true]
  obtain ⟨acX7, hac7⟩ := g47.2 ac _ acX hac
  have hacr7 := hacr.imp fun _ _ h => mKN g47 h
  have hvs7 := hvs4.imp fun _ _ h => mKN g47 h
  refine BoolOp_one (wpAny_Compare1 (cb1 G F7 boot_sorted (r_loc F7 (by walk_at "lkp") ?_)))
  refine sorted_kn (k := 10) (X := (aD :: X0)) (hA.le (by decide)) hac7 hacr7 hnd (by omega) fun s8 r1 w1 o1 z1 k8 fr1 hr1 al1 pm1 pw1 => ?_
  have F8 := F7.kept k8
  have r1Z : r1 ∉ (aD :: X0) := fun q => by obtain ⟨o, eo⟩ := F7.live r1 q; rw [fr1] at eo; cases eo
  have hvs8 := hvs7.imp fun _ _ h => mKN (k8.go (aD :: X0)) h
  have pmk := hperm.map (fun d : KN => d.1)
  refine cb1 G F8 boot_sorted (r_loc F8 (by walk_at "lkp") ?_)
  refine sorted_kn (k := 10) (X := (aD :: X0)) (hA.le (by decide)) (F8.at (k := 3) rfl) hvs8 (pmk.nodup_iff.mp hnd) (by rw [← hperm.length_eq]; omega) fun s9 r2 w2 o2 z2 k9 fr2 hr2 al2 pm2 pw2 => ?_
  have F9 := F8.kept k9
  have r2Z : r2 ∉ (aD :: X0) := fun q => by obtain ⟨o, eo⟩ := F8.live r2 q; rw [fr2] at eo; cases eo
  have eo : o1 = o2 := sorted_same (pm1.trans (hperm.trans pm2.symm)) pw1 pw2
  subst eo
  have shD : shaped (.list (o1.map fun d : KN => .list [.str d.1, .int d.2])) = true := (Shp.list (k := 1) fun d hd => Shp.kn (okk d.1 (List.mem_map.mpr ⟨d, pm1.mem_iff.mp hd, rfl⟩))).ok (by decide)
  refine r_eqD (k := 16) (R := RList RKN) (X := (aD :: X0)) (rdList rdKN) hA (x := o1) ⟨r1, w1, z1, rfl, r1Z, k9.get hr1, al1.imp fun _ _ h => mKN ((k8.go (aD :: X0)).trans (k9.go (aD :: X0))) h⟩ ⟨r2, w2, z2, rfl, r2Z, hr2, al2.imp fun _ _ h => mKN (k9.go (aD :: X0)) h⟩ shD ?_
  have gAll : Go (aD :: X0) s1 (aD :: X0) s9 := g14.trans (g47.trans ((k8.go _).trans (k9.go _)))
  exact h s9 ⟨gAll.1.1.trans sg1.1, gAll.1.2.trans sg1.2⟩ F9.keep (F9.at (k := 0) rfl) (F9.at (k := 1) rfl) (F9.at (k := 2) rfl)
end
end Mine
end

-- LawW
section
open PySem PySem.W PyProof.Rows PySem.SeqAt
set_option maxRecDepth 100000
set_option linter.all false
set_option autoImplicit false
namespace Mine
theorem rounds_parts {good : List Bool} {ways : List (List Nat)} {n : Nat} {rs : List (List (List Nat))} (M : Mach good ways n) (h0 : 0 < n) (hr : IsRounds good ways rs) (hs : ∀ r, rs.getLast? = some r → ¬ r.length < (finerF r ways).length) : ∀ r ∈ rs, r.length ≤ n := fun r hm => by
  obtain ⟨i, hi, e⟩ := List.mem_iff_getElem.mp hm
  have h2 := (rounds_cl M h0 hr hs i).len
  rw [Nat.min_eq_left (by omega), List.getD_eq_getElem?_getD, List.getElem?_eq_getElem hi, List.length_range] at h2
  rw [← e]; exact h2
section
variable {p : Program} {w : World} {A : Around} {s : Shared} {B : Heap} {mg mb : Str → Option Value}
theorem law_walk {m : Str → Option Value} {L fa asc : Addr} {cd : Value} {vs : List Value} {script : List Int} {Q : Flow → Shared → Prop} (G : Gd w mg mb B) (n86 : B.get? 86 = none) (n98 : B.get? 98 = none) (n105 : B.get? 105 = none) (hA : Rm A 20)
    (F : Fra B s (L :: (cs132 L).map (·.2) ++ own132.map (·.1)) ⟨L, cs132 L⟩ m own132) (hm : m "script" = some (.ref asc)) (hsc : B.IsList asc vs.toArray) (hvs : IntsAre vs script) (hl : script.length ≤ 63)
    (h : ∀ s' ps1 ps2 ps3, SG s s' → (∀ b o, B.get? b = some o → s'.heap.get? b = some o) → s'.heap.get? 105 = some (tabObj ps1) → s'.heap.get? 98 = some (tabObj ps2) → s'.heap.get? 86 = some (tabObj ps3) → Q (.ret (.bool true)) s') :
    W p w A (execs (bd 132) (E132 L fa cd)) Q s := by
  generalize L :: (cs132 L).map (·.2) ++ own132.map (·.1) = X0 at *
  obtain ⟨nl4, nl6⟩ := nums_len script
  refine law_a1 G hA F hm hsc hvs hl fun s1 m1 n c tn ts g1 F1 hn b1 b2 b3 hnum => ?_
  have h4 : 4 ≤ n := by omega
  have h6 : n ≤ 6 := by omega
  generalize hnn : numsF script = nums at *
  refine law_a2 G n86 hA F1 hnum hn.symm h4 h6 b1 b2 b3 fun s2 m2 ps l x dx pb e kk vd ndd pn ar tt g2 F2 hX c1 c2 c3 c4 c5 hx xX hL hvd hrows => ?_
  refine law_a3 (tn := tn) G hA F2 hn.symm h4 h6 c1 c3 hx xX hL hvd fun s3 e3 kk3 vd3 ndd3 at3 g3 F3 hvd3 htold => ?_
  have L4 : ∀ {y : Str} {v : Value}, y ≠ "told" → m2 y = some v → upd m2 "told" (.ref at3) y = some v := fun hy e => (upd_ne hy).trans e
  refine law_b1 (X := dx :: l.d :: pb :: X0) (own := own3 ps ++ lexO e3 (1 + ((textL n nums).cps.toList.count 10 : Nat)) l dx pb kk3 vd3 ndd3 [] pn) (l := l) (e := e3) (pb := pb) (kk := kk3) G hA F3 hn.symm h4 h6 (L4 (sne (by decide)) c1) (L4 (sne (by decide)) c2) (L4 (sne (by decide)) c3) upd_same (L4 (sne (by decide)) c4) (L4 (sne (by decide)) c5) (g3.2 x _ xX hx).2 xX (by simp) htold (mList mStr g3 hrows) fun s4 m4 aw ag g4 F4 d1 d2 d3 d4 d5 hways hgood => ?_
  have M := machL (n := n) (nums := nums) hn.symm (by omega)
  refine law_b2 (rest := (86, tabObj ps) :: lexO e3 (1 + ((textL n nums).cps.toList.count 10 : Nat)) l dx pb kk3 vd3 ndd3 [] pn) G n98 n105 hA F4 hn.symm h4 h6 d1 d2 d3 d4 d5 hways hgood fun s5 m5 aR aP rs p1 p2 g5 F5 e1 e2 e3' e4 e5 hg5 hR5 hIs hlast hP5 => ?_
  have rz := rounds_size M (by omega) hIs hlast
  have rp := rounds_parts M (by omega) hIs hlast
  have nml := names_len h6
  have pl := pairs_len (ways := waysL n nums) nml h6
  refine law_b3 (X := dx :: l.d :: pb :: X0) (q1 := (86, tabObj ps)) (q2 := (dx, dictOf (LD.es e3 (1 + ((textL n nums).cps.toList.count 10 : Nat)) l.f pb) kk3)) (q3 := (l.d, lst vd3 ndd3)) (q4 := (pb, lst [] pn)) G hA F5 h6 e1 e2 e3' e4 e5 hR5 hP5 (by omega) (fun r hr => by have := rp r hr; omega) (by omega) (fun t ht => by
    obtain ⟨a, b, hab, hb, et⟩ := (mem_pairs nml).mp ht
    subst et
    exact ⟨Nat.lt_trans hab hb, hb⟩) fun s6 m6 aD vsd nvd aDX g6 F6 f1 f2 f3 f4 f5 hdue => ?_
  have g35 : Go (dx :: l.d :: pb :: X0) s3 (dx :: l.d :: pb :: X0) s5 := g4.trans g5
  have g36 : Go (dx :: l.d :: pb :: X0) s3 (aD :: dx :: l.d :: pb :: X0) s6 := g35.trans g6
  have g26 : Go (dx :: l.d :: pb :: X0) s2 (aD :: dx :: l.d :: pb :: X0) s6 := g3.trans g36
  obtain ⟨xX6, hx6⟩ := g26.2 x _ xX hx
  have sg : SG s s6 := (g1.trans (g2.trans g26)).1
  refine law_b4 (X0 := X0) G hA F6 (fun y hy q => ?_) h4 h6 f1 f2 f3 f4 f5 hx6 xX6 (hL.go g26) hvd3 M hIs hlast (mList mBool g6 hg5) (mList mTri g6 hP5) hdue fun s7 sg7 hk t1 t2 t3 => ?_
  · rcases List.mem_cons.mp q with q | q
    · subst q
      simp only [List.mem_cons, List.not_mem_nil, or_false] at hy
      rcases hy with hy | hy | hy <;> exact aDX (by simp [hy])
    · exact hX y hy q
  · exact h s7 _ _ _ ⟨sg7.1.trans sg.1, sg7.2.trans sg.2⟩ hk t1 t2 t3
end
end Mine
end

-- Join
section
open PySem PySem.W PyProof.Rows
set_option maxRecDepth 100000
set_option linter.all false
namespace Mine
set_option maxHeartbeats 8000000
theorem law_holds : PySem.Challenge.rw_ph0034_01.Holds := hd (by
  k_go0
  rename_i w s₀ s₁ mg mb G Y fa o pm cd doc ho hcd hg X1 V T B TE TW script _ _ _ _ _ _ _ asc vs _ hL ra w1 r0 hI _ hlen _ hD h1 tk1 o1 o2 o3 o4 o5 o6 o7 c1 c2 c3 c4 c5 c6 c7 cells X' T' K' F' cH1 cH2 N' l0
  clear ho hcd hD
  have hns : ∃ ml, h1.Ns s₁.heap.objs.size ml ∧ ml "script" = some (.ref asc) := ⟨_, F'.ns, rfl⟩
  have hGd : Gd w mg mb (ghostOf s₁.heap [(102, 98), (109, 105), (90, 86)]) := ⟨X', T'.g, T'.b, T'.nolimit, T'.builtins, T'.bmain, by assumption, cH1, cH2⟩
  have hown : ∀ q ∈ own132, h1.get? q.1 = some q.2 ∧ (ghostOf s₁.heap [(102, 98), (109, 105), (90, 86)]).get? q.1 = none := by
    intro q hq
    unfold own132 at hq
    simp only [List.mem_cons, List.not_mem_nil, or_false] at hq
    have a1 := N' (105, tabObj #[]) (by simp)
    have a2 := N' (98, tabObj #[]) (by simp)
    have a3 := N' (86, tabObj #[]) (by simp)
    rcases hq with h | h | h <;> subst h
    · exact ⟨a1.1, a1.2.2⟩
    · exact ⟨a2.1, a2.2.2⟩
    · exact ⟨a3.1, a3.2.2⟩
  have hcell : ∀ i : Nat, 1 ≤ i → i ≤ 7 → ∃ v, h1.IsCell (s₁.heap.objs.size + i) v := by
    intro i i1 i7
    have b1 := N' _ (.head _)
    have b2 := N' _ (.tail _ (.head _))
    have b3 := N' _ (.tail _ (.tail _ (.head _)))
    have b4 := N' _ (.tail _ (.tail _ (.tail _ (.head _))))
    have b5 := N' _ (.tail _ (.tail _ (.tail _ (.tail _ (.head _)))))
    have b6 := N' _ (.tail _ (.tail _ (.tail _ (.tail _ (.tail _ (.head _))))))
    have b7 := N' _ (.tail _ (.tail _ (.tail _ (.tail _ (.tail _ (.tail _ (.head _)))))))
    match i, i1, i7 with
    | 1, _, _ => exact ⟨_, _, b7.1, c7⟩
    | 2, _, _ => exact ⟨_, _, b6.1, c6⟩
    | 3, _, _ => exact ⟨_, _, b5.1, c5⟩
    | 4, _, _ => exact ⟨_, _, b4.1, c4⟩
    | 5, _, _ => exact ⟨_, _, b3.1, c3⟩
    | 6, _, _ => exact ⟨_, _, b2.1, c2⟩
    | 7, _, _ => exact ⟨_, _, b1.1, c1⟩
  have hkeep := F'.keep
  have habove := F'.above
  have hlist := lifted
  clear F' N' cells c1 c2 c3 c4 c5 c6 c7
  obtain ⟨ml, hml, hscr⟩ := hns
  obtain ⟨m, F, hm⟩ := fra_top (s := { heap := h1, gens := s₁.gens, drawn := s₁.drawn, toks := tk1, os := s₁.os }) hkeep hml habove hcell hown l0.2.1
  refine wpAny_mono (law_walk (B := ghostOf s₁.heap [(102, 98), (109, 105), (90, 86)]) (L := s₁.heap.objs.size) (fa := fa) (cd := cd) (asc := asc) (vs := vs) (script := script) (mg := mg) (mb := mb) (m := m) hGd (hown _ (.tail _ (.tail _ (.head _)))).2 (hown _ (.tail _ (.head _))).2 (hown _ (.head _)).2 ?_ F ((hm "script" rfl).trans hscr) hlist hI ?_ ?_) (fun f s' h => h) (fun _ _ h => h.elim)
  · exact rm_caller _
  · omega
  · intro s' ps1 ps2 ps3 sg hk p1 p2 p3
    exact ⟨⟨.inl ⟨.bool true, .bool true, [], rfl, fun _ => rfl, .bool true, by kc_post, fun _ => ⟨.nil, fun _ h => nomatch h⟩⟩, hk, sg.2, sg.1.trans hg⟩, ⟨_, p2⟩, ⟨_, p1⟩, ⟨_, p3⟩, trivial⟩)
end Mine
end

theorem PySem.Challenge.cw_ph0034_01_holds : PySem.Challenge.rw_ph0034_01.Holds := by
  exact Mine.law_holds
