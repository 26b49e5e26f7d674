import PyProof.Rows.All
import Wide.All
import OpenK.AllK
import Wide.FinOn
import PySem.Challenge.RW_rk0005_05
set_option Elab.async false

section
set_option maxRecDepth 100000
namespace Mine
open PySem PySem.W PySem.W.X

abbrev Mem := List (Addr × Obj)
abbrev GMem := List (Nat × GenState)
noncomputable def denF : Code → Sem Fin := PySem.W.Fast.tw11892475500146522536 PySem.W.Fast.tw14364793385576792824
noncomputable def quietF : Code → Bool := PySem.W.ZFast.zw17772548960776305114
theorem denF_eq : denote table = denF := by
  show denote table = PySem.W.Fast.tw11892475500146522536 PySem.W.Fast.tw14364793385576792824
  rw [← PySem.W.Fast.te11892475500146522536, ← PySem.W.Fast.te14364793385576792824, table_eq_tree]
theorem quietF_eq : Code.quiet = quietF := PySem.W.ZFast.ze17772548960776305114

def memGet : Mem → Nat → Option (Addr × Obj)
  | [], _ => none
  | x :: r, n => match n with
    | 0 => some x
    | n + 1 => memGet r n
def memUpd (f : Obj → Obj) : Mem → Nat → Mem
  | [], _ => []
  | x :: r, n => match n with
    | 0 => (x.1, f x.2) :: r
    | n + 1 => x :: memUpd f r n
def gmGet : GMem → Nat → Option (Nat × GenState)
  | [], _ => none
  | x :: r, n => match n with
    | 0 => some x
    | n + 1 => gmGet r n
def gmSet (st : GenState) : GMem → Nat → GMem
  | [], _ => []
  | x :: r, n => match n with
    | 0 => (x.1, st) :: r
    | n + 1 => x :: gmSet st r n

inductive Ob where
  | n (x y : Nat)
  | o (x y : Obj)
  | c (x y : Code)
def Ob.holds : Ob → Prop
  | .n x y => x = y
  | .o x y => x = y
  | .c x y => x = y
def Ob.diag : Ob → Ob
  | .n _ y => .n y y
  | .o _ y => .o y y
  | .c _ y => .c y y
theorem Ob.holds_of {e : Ob} (h : e = e.diag) : e.holds := by
  cases e <;> (simp only [Ob.diag] at h; injection h)

structure Spec where
  code : Code
  pre : List (Nat × Addr × Obj)
  post : List (Nat × Addr × Obj)
  res : Nat → Nat → Result
  dt : Nat
  new : Nat → List Obj
  calm : Bool

inductive Hint where
  | b
  | o (i : Nat)
  | s (j d : Nat)

structure V where
  prog : Program
  P : Params
  kt : KT
  tabs : List Nat
  B : Nat
  W : List (Code × Pos)
  N : Nat
  T : Nat
  G : Nat
  specs : List Spec

structure Out where
  t : Sem Fin
  c : Code
  p : Pos
  fs : List Frame
  mem : Mem
  m : Nat
  i : Nat
  gm : GMem
  gn : Nat
  hs : List Hint
  eqs : List Ob

def specAt : List Spec → Nat → Option Spec
  | [], _ => none
  | x :: r, n => match n with
    | 0 => some x
    | n + 1 => specAt r n
def preObs (d : Nat) (mem : Mem) : List (Nat × Addr × Obj) → List Ob → Option (List Ob)
  | [], eqs => some eqs
  | x :: r, eqs => match memGet mem (x.1 + d) with
    | some y => preObs d mem r (.n x.2.1 y.1 :: .o y.2 x.2.2 :: eqs)
    | none => none
def postObs (d : Nat) : List (Nat × Addr × Obj) → Mem → List Ob → Option (Mem × List Ob)
  | [], mem, eqs => some (mem, eqs)
  | x :: r, mem, eqs => match memGet mem (x.1 + d) with
    | some y => postObs d r (memUpd (fun _ => x.2.2) mem (x.1 + d)) (.n x.2.1 y.1 :: eqs)
    | none => none
def newObs : Nat → List Obj → Mem → Mem
  | _, [], mem => mem
  | a, o :: r, mem => newObs (a + 1) r ((a, o) :: mem)
def noTab (tabs : List Nat) (a : Nat) : Bool := match tabs with
  | [] => true
  | t :: r => match Nat.beq t a with
    | true => false
    | false => noTab r a

def calmOk (b : Bool) (h : Option Value) : Bool := match b with
  | false => true
  | true => match h with
    | none => true
    | some _ => false

noncomputable section
abbrev SimT := Sem Fin → Code → Pos → List Frame → Mem → Nat → Nat → GMem → Nat → List Hint → List Ob → Out

def retS (ih : SimT) (r : Result) (stop : Out) (fs : List Frame) (mem : Mem) (m i : Nat) (gm : GMem) (gn : Nat) (hs : List Hint) (eqs : List Ob) : Out := match fs with
  | [] => stop
  | f :: fs => match f with
    | .ret k _ _ _ c p _ => ih (k r) c p fs mem m i gm gn hs eqs
    | .gen g k _ c p => match hs with
      | .o h :: hs => match gmGet gm h with
        | some x => ih (k (End.ret r).result) c p fs mem m i (gmSet .finished gm h) gn hs (.n g x.1 :: eqs)
        | none => stop
      | _ => stop

def stepS (V : V) (ih : SimT) : SimT := fun t c p fs mem m i gm gn hs eqs =>
  match t with
  | .pure fin => match fin with
    | .done f => retS ih (.ok f) ⟨t, c, p, fs, mem, m, i, gm, gn, hs, eqs⟩ fs mem m i gm gn hs eqs
    | .again c' => match quietF c' with
      | true => ih (denF c') c' p fs mem m i gm gn hs eqs
      | false => ⟨t, c, p, fs, mem, m, i, gm, gn, hs, eqs⟩
  | .raise e => retS ih (.error e) ⟨t, c, p, fs, mem, m, i, gm, gn, hs, eqs⟩ fs mem m i gm gn hs eqs
  | .rule _ k => ih (k ()) c p fs mem m i gm gn hs eqs
  | .at p' k => ih (k ()) c p' fs mem m i gm gn hs eqs
  | .point _ k => ih (k ()) c p fs mem m i gm gn hs eqs
  | .ask k => ih (k ⟨V.prog, V.P⟩) c p fs mem m i gm gn hs eqs
  | .load a _ k => match hs with
    | .b :: hs' => match Nat.blt a V.B with
      | true => match noTab V.tabs a with
        | true => match V.kt.get a with
          | some o => ih (k o) c p fs mem m i gm gn hs' eqs
          | none => ⟨t, c, p, fs, mem, m, i, gm, gn, hs, eqs⟩
        | false => ⟨t, c, p, fs, mem, m, i, gm, gn, hs, eqs⟩
      | false => ⟨t, c, p, fs, mem, m, i, gm, gn, hs, eqs⟩
    | .o h :: hs' => match memGet mem h with
      | some x => ih (k x.2) c p fs mem m i gm gn hs' (.n a x.1 :: eqs)
      | none => ⟨t, c, p, fs, mem, m, i, gm, gn, hs, eqs⟩
    | _ => ⟨t, c, p, fs, mem, m, i, gm, gn, hs, eqs⟩
  | .loadIfAlive a k => match hs with
    | .o h :: hs' => match memGet mem h with
      | some x => ih (k (some x.2)) c p fs mem m i gm gn hs' (.n a x.1 :: eqs)
      | none => ⟨t, c, p, fs, mem, m, i, gm, gn, hs, eqs⟩
    | _ => ⟨t, c, p, fs, mem, m, i, gm, gn, hs, eqs⟩
  | .update a _ f k => match hs with
    | .o h :: hs' => match memGet mem h with
      | some x => match (f x.2).isFreed with
        | false => ih (k ()) c p fs (memUpd f mem h) m i gm gn hs' (.n a x.1 :: eqs)
        | true => ⟨t, c, p, fs, mem, m, i, gm, gn, hs, eqs⟩
      | none => ⟨t, c, p, fs, mem, m, i, gm, gn, hs, eqs⟩
    | _ => ⟨t, c, p, fs, mem, m, i, gm, gn, hs, eqs⟩
  | .alloc o k => match o.isFreed with
    | false => ih (k (V.N + m)) c p fs ((V.N + m, o) :: mem) (m + 1) i gm gn hs eqs
    | true => ⟨t, c, p, fs, mem, m, i, gm, gn, hs, eqs⟩
  | .fresh k => ih (k (V.T + i)) c p fs mem m (i + 1) gm gn hs eqs
  | .handled own k => match own with
    | false => ih (k (topHandled fs)) c p fs mem m i gm gn hs eqs
    | true => match splitAtGen fs with
      | some x => ih (k (topHandled x.1)) c p fs mem m i gm gn hs eqs
      | none => ⟨t, c, p, fs, mem, m, i, gm, gn, hs, eqs⟩
  | .stack k => ih (k ((c, p) :: (fs.map Frame.where_ ++ V.W))) c p fs mem m i gm gn hs eqs
  | .call c' hd g l k => match hs with
    | .s j d :: hs' => match specAt V.specs j with
      | some S => match preObs d mem S.pre (.c c' S.code :: eqs) with
        | some eqs₁ => match postObs d S.post mem eqs₁ with
          | some y => match calmOk S.calm (topHandled (.ret k hd g l c p [] :: fs)) with
            | true => ih (k (S.res (V.T + i) (V.N + m))) c p fs (newObs (V.N + m) (S.new (V.N + m)) y.1) (m + (S.new (V.N + m)).length) (i + S.dt) gm gn hs' y.2
            | false => ⟨t, c, p, fs, mem, m, i, gm, gn, hs, eqs⟩
          | none => ⟨t, c, p, fs, mem, m, i, gm, gn, hs, eqs⟩
        | none => ⟨t, c, p, fs, mem, m, i, gm, gn, hs, eqs⟩
      | none => ih (denF c') c' p (.ret k hd g l c p [] :: fs) mem m i gm gn hs' eqs
    | _ => ih (denF c') c' p (.ret k hd g l c p [] :: fs) mem m i gm gn hs eqs
  | .newGen c' k => ih (k (V.G + gn)) c p fs mem m i ((V.G + gn, .fresh c') :: gm) (gn + 1) hs eqs
  | .genState g k => match hs with
    | .o h :: hs' => match gmGet gm h with
      | some x => ih (k x.2.seen) c p fs mem m i gm gn hs' (.n g x.1 :: eqs)
      | none => ⟨t, c, p, fs, mem, m, i, gm, gn, hs, eqs⟩
    | _ => ⟨t, c, p, fs, mem, m, i, gm, gn, hs, eqs⟩
  | .resume g r l k => match hs with
    | .o h :: hs' => match gmGet gm h with
      | some x => match x.2 with
        | .fresh c₀ => match r with
          | .send v => match v with
            | .none => ih (denF c₀) c₀ p (.gen g k l c p :: fs) mem m i (gmSet .running gm h) gn hs' (.n g x.1 :: eqs)
            | _ => ⟨t, c, p, fs, mem, m, i, gm, gn, hs, eqs⟩
          | .throw _ => ⟨t, c, p, fs, mem, m, i, gm, gn, hs, eqs⟩
        | .suspended k₀ _ c₀ p₀ fs₀ _ => ih (k₀ r) c₀ p₀ (fs₀ ++ .gen g k l c p :: fs) mem m i (gmSet .running gm h) gn hs' (.n g x.1 :: eqs)
        | .running => ⟨t, c, p, fs, mem, m, i, gm, gn, hs, eqs⟩
        | .finished => ih (k .finished) c p fs mem m i gm gn hs' (.n g x.1 :: eqs)
      | none => ⟨t, c, p, fs, mem, m, i, gm, gn, hs, eqs⟩
    | _ => ⟨t, c, p, fs, mem, m, i, gm, gn, hs, eqs⟩
  | .yield v gd l k => match hs with
    | .o h :: hs' => match splitAtGen fs with
      | some y => match (gd || y.1.any Frame.guarded) with
        | false => match gmGet gm h with
          | some x => ih (y.2.1.2.1 (.yielded v)) y.2.1.2.2.1 y.2.1.2.2.2 y.2.2 mem m i (gmSet (.suspended k l c p y.1 false) gm h) gn hs' (.n y.2.1.1 x.1 :: eqs)
          | none => ⟨t, c, p, fs, mem, m, i, gm, gn, hs, eqs⟩
        | true => ⟨t, c, p, fs, mem, m, i, gm, gn, hs, eqs⟩
      | none => ⟨t, c, p, fs, mem, m, i, gm, gn, hs, eqs⟩
    | _ => ⟨t, c, p, fs, mem, m, i, gm, gn, hs, eqs⟩
  | _ => ⟨t, c, p, fs, mem, m, i, gm, gn, hs, eqs⟩

def run (V : V) : Nat → SimT
  | 0 => fun t c p fs mem m i gm gn hs eqs => ⟨t, c, p, fs, mem, m, i, gm, gn, hs, eqs⟩
  | n + 1 => stepS V (run V n)
end
end Mine
end

section
set_option maxRecDepth 100000
namespace Mine
open PySem PySem.W PySem.W.X

theorem memGet_mem : ∀ {mem : Mem} {n : Nat} {x : Addr × Obj}, memGet mem n = some x → x ∈ mem
  | [], _, _, h => nomatch h
  | y :: r, 0, x, h => by cases h; exact List.mem_cons_self ..
  | y :: r, n + 1, x, h => List.mem_cons_of_mem _ (memGet_mem (mem := r) h)
theorem gmGet_mem : ∀ {mem : GMem} {n : Nat} {x : Nat × GenState}, gmGet mem n = some x → x ∈ mem
  | [], _, _, h => nomatch h
  | y :: r, 0, x, h => by cases h; exact List.mem_cons_self ..
  | y :: r, n + 1, x, h => List.mem_cons_of_mem _ (gmGet_mem (mem := r) h)
theorem memUpd_fst (f : Obj → Obj) : ∀ (mem : Mem) (n : Nat), (memUpd f mem n).map (·.1) = mem.map (·.1)
  | [], _ => rfl
  | x :: r, 0 => rfl
  | x :: r, n + 1 => by show x.1 :: (memUpd f r n).map (·.1) = x.1 :: r.map (·.1); rw [memUpd_fst f r n]
theorem gmSet_fst (st : GenState) : ∀ (mem : GMem) (n : Nat), (gmSet st mem n).map (·.1) = mem.map (·.1)
  | [], _ => rfl
  | x :: r, 0 => rfl
  | x :: r, n + 1 => by show x.1 :: (gmSet st r n).map (·.1) = x.1 :: r.map (·.1); rw [gmSet_fst st r n]
theorem memUpd_mem {f : Obj → Obj} : ∀ {mem : Mem} {n : Nat} {x y : Addr × Obj}, (mem.map (·.1)).Nodup → memGet mem n = some x → y ∈ memUpd f mem n → (y = (x.1, f x.2)) ∨ (y ∈ mem ∧ y.1 ≠ x.1)
  | [], _, _, _, _, h, _ => nomatch h
  | z :: r, 0, x, y, hd, h, hy => by
    cases h
    have hd' := List.nodup_cons.mp hd
    rcases List.mem_cons.mp hy with rfl | hy
    · exact .inl rfl
    · exact .inr ⟨List.mem_cons_of_mem _ hy, fun e => hd'.1 (by have q := List.mem_map_of_mem (f := fun x => x.1) hy; simp only [e] at q; exact q)⟩
  | z :: r, n + 1, x, y, hd, h, hy => by
    have hd' := List.nodup_cons.mp hd
    have h' : memGet r n = some x := h
    rcases List.mem_cons.mp hy with rfl | hy
    · exact .inr ⟨List.mem_cons_self .., fun e => hd'.1 (by have q := List.mem_map_of_mem (f := fun x => x.1) (memGet_mem h'); simp only [← e] at q; exact q)⟩
    · rcases memUpd_mem (mem := r) hd'.2 h' hy with q | q
      · exact .inl q
      · exact .inr ⟨List.mem_cons_of_mem _ q.1, q.2⟩
theorem gmSet_mem {st : GenState} : ∀ {mem : GMem} {n : Nat} {x y : Nat × GenState}, (mem.map (·.1)).Nodup → gmGet mem n = some x → y ∈ gmSet st mem n → (y = (x.1, st)) ∨ (y ∈ mem ∧ y.1 ≠ x.1)
  | [], _, _, _, _, h, _ => nomatch h
  | z :: r, 0, x, y, hd, h, hy => by
    cases h
    have hd' := List.nodup_cons.mp hd
    rcases List.mem_cons.mp hy with rfl | hy
    · exact .inl rfl
    · exact .inr ⟨List.mem_cons_of_mem _ hy, fun e => hd'.1 (by have q := List.mem_map_of_mem (f := fun x => x.1) hy; simp only [e] at q; exact q)⟩
  | z :: r, n + 1, x, y, hd, h, hy => by
    have hd' := List.nodup_cons.mp hd
    have h' : gmGet r n = some x := h
    rcases List.mem_cons.mp hy with rfl | hy
    · exact .inr ⟨List.mem_cons_self .., fun e => hd'.1 (by have q := List.mem_map_of_mem (f := fun x => x.1) (gmGet_mem h'); simp only [← e] at q; exact q)⟩
    · rcases gmSet_mem (mem := r) hd'.2 h' hy with q | q
      · exact .inl q
      · exact .inr ⟨List.mem_cons_of_mem _ q.1, q.2⟩
theorem noTab_not : ∀ {tabs : List Nat} {a : Nat}, noTab tabs a = true → a ∉ tabs
  | [], _, _ => by simp
  | t :: r, a, h => by
    unfold noTab at h
    split at h
    · cases h
    · rename_i q
      have := Nat.ne_of_beq_eq_false q
      exact fun hm => (List.mem_cons.mp hm).elim (fun e => this e.symm) (noTab_not h)

structure Rep (V : V) (A GA : List Nat) (mem : Mem) (m i : Nat) (gm : GMem) (gn : Nat) (s₀ s : Shared) : Prop where
  size : s.heap.objs.size = V.N + m
  toks : s.toks = V.T + i
  gsize : s.gens.size = V.G + gn
  own : ∀ x ∈ mem, s.heap.get? x.1 = some x.2
  nodup : (mem.map (·.1)).Nodup
  src : ∀ x ∈ mem, x.1 ∈ V.tabs ∨ V.B ≤ x.1
  gown : ∀ x ∈ gm, s.gens[x.1]? = some x.2
  gnodup : (gm.map (·.1)).Nodup
  keep : ∀ b o, s₀.heap.get? b = some o → b ∉ V.tabs → b < V.B → s.heap.get? b = some o
  drawn : s.drawn = s₀.drawn
  os : s.os = s₀.os
  org : ∀ x ∈ mem, x.1 ∈ A ∨ V.N ≤ x.1
  gnew : ∀ g, V.G ≤ g → g < s.gens.size → ∃ x ∈ gm, x.1 = g
  gids : ∀ g ∈ GA, g ∈ gm.map (·.1)

structure Frm (A : List Addr) (GA : List Nat) (s s' : Shared) : Prop where
  size : s.heap.objs.size ≤ s'.heap.objs.size
  gsize : s.gens.size ≤ s'.gens.size
  keep : ∀ b o, s.heap.get? b = some o → b ∉ A → s'.heap.get? b = some o
  gkeep : ∀ g st, s.gens[g]? = some st → g ∉ GA → s'.gens[g]? = some st

structure HeapEff (post : List (Nat × Addr × Obj)) (h h' : Heap) : Prop where
  size : h'.objs.size = h.objs.size
  here : ∀ b, (∀ x ∈ post, x.2.1 ≠ b) → h'.get? b = h.get? b
def lastOf (a : Addr) : List (Nat × Addr × Obj) → Option Obj → Option Obj
  | [], d => d
  | x :: r, d => lastOf a r (if x.2.1 = a then some x.2.2 else d)

def pushAll : Heap → List Obj → Heap
  | h, [] => h
  | h, o :: r => pushAll (h.push o) r
def SpecOK (M : Model) (S : Spec) : Prop := ∀ (s : Shared) (p : Pos) (k : Result → Sem Fin) (hd : Option Value) (g : Bool) (l : List Value) (c : Code) (st : List Frame),
  (∀ x ∈ S.pre, s.heap.get? x.2.1 = some x.2.2) → (S.calm = true → topHandled (.ret k hd g l c p [] :: st) = none) → ∃ s', Comes M s ⟨M.den S.code, S.code, p, .ret k hd g l c p [] :: st⟩ s' ⟨k (S.res s.toks s.heap.objs.size), c, p, st⟩ ∧
    (∃ h₁ : Heap, (h₁.objs.size = s.heap.objs.size ∧ ∀ b, h₁.get? b = lastOf b S.post (s.heap.get? b)) ∧ s'.heap = pushAll h₁ (S.new s.heap.objs.size)) ∧ s'.toks = s.toks + S.dt ∧ s'.gens = s.gens ∧ s'.drawn = s.drawn ∧ s'.os = s.os

structure RestOK (W : List (Code × Pos)) (rest : List Frame) : Prop where
  codes : rest.map Frame.where_ = W
  top : topHandled rest = none
  past : topHandled.go true rest = none

section
variable {V : V} {A GA : List Nat} {mem : Mem} {m i gn : Nat} {gm : GMem} {s₀ s : Shared}
theorem Rep.get (R : Rep V A GA mem m i gm gn s₀ s) {n : Nat} {x : Addr × Obj} (h : memGet mem n = some x) : s.heap.get? x.1 = some x.2 := R.own x (memGet_mem h)
theorem Rep.upd (R : Rep V A GA mem m i gm gn s₀ s) {n : Nat} {x : Addr × Obj} (h : memGet mem n = some x) {f : Obj → Obj} (hf : (f x.2).isFreed = false) : Rep V A GA (memUpd f mem n) m i gm gn s₀ { s with heap := s.heap.update x.1 f } := by
  have hs : Heap.SameBut x.1 s.heap (s.heap.update x.1 f) := Heap.SameBut.update ..
  refine ⟨by show (s.heap.update x.1 f).objs.size = _; rw [hs.1, R.size], R.toks, R.gsize, fun y hy => ?_, by rw [memUpd_fst]; exact R.nodup, fun y hy => ?_, R.gown, R.gnodup, fun b o e ht hb => ?_, R.drawn, R.os, fun y hy => ?_, R.gnew, R.gids⟩
  · rcases memUpd_mem R.nodup h hy with rfl | ⟨hm, hne⟩
    · exact Heap.get?_update_self f (R.get h) hf
    · exact (hs.2 y.1 hne).trans (R.own y hm)
  · have : y.1 ∈ mem.map (·.1) := by rw [← memUpd_fst f mem n]; exact List.mem_map_of_mem hy
    obtain ⟨z, hz, e⟩ := List.mem_map.mp this
    rw [← e]; exact R.src z hz
  · have hne : b ≠ x.1 := fun e => by
      rcases R.src x (memGet_mem h) with q | q
      · exact ht (e ▸ q)
      · exact Nat.lt_irrefl _ (Nat.lt_of_lt_of_le hb (e ▸ q))
    exact (hs.2 b hne).trans (R.keep b o e ht hb)
  · have : y.1 ∈ mem.map (·.1) := by rw [← memUpd_fst f mem n]; exact List.mem_map_of_mem hy
    obtain ⟨z, hz, e⟩ := List.mem_map.mp this
    rw [← e]; exact R.org z hz
theorem Rep.alloc (R : Rep V A GA mem m i gm gn s₀ s) {o : Obj} (hf : o.isFreed = false) (hB : V.B ≤ V.N) : Rep V A GA ((V.N + m, o) :: mem) (m + 1) i gm gn s₀ { s with heap := s.heap.push o } := by
  refine ⟨by show (s.heap.push o).objs.size = _; rw [Heap.size_push, R.size]; rfl, R.toks, R.gsize, fun y hy => ?_, ?_, fun y hy => ?_, R.gown, R.gnodup, fun b o' e ht hb => Heap.get?_push_of_some _ (R.keep b o' e ht hb), R.drawn, R.os, fun y hy => ?_, R.gnew, R.gids⟩
  · rcases List.mem_cons.mp hy with rfl | hy
    · show (s.heap.push o).get? (V.N + m) = some o
      rw [← R.size]; exact Heap.get?_push_size _ hf
    · exact Heap.get?_push_of_some _ (R.own y hy)
  · refine List.nodup_cons.mpr ⟨fun hm => ?_, R.nodup⟩
    obtain ⟨z, hz, e⟩ := List.mem_map.mp hm
    have := Heap.lt_size (R.own z hz)
    rw [R.size] at this
    exact Nat.lt_irrefl _ (e ▸ this)
  · rcases List.mem_cons.mp hy with rfl | hy
    · exact .inr (Nat.le_trans hB (Nat.le_add_right ..))
    · exact R.src y hy
  · rcases List.mem_cons.mp hy with rfl | hy
    · exact .inr (Nat.le_add_right ..)
    · exact R.org y hy
theorem Rep.allocs (hB : V.B ≤ V.N) : ∀ {l : List Obj} {mem : Mem} {m : Nat} {s : Shared}, Rep V A GA mem m i gm gn s₀ s → (∀ o ∈ l, o.isFreed = false) → Rep V A GA (newObs (V.N + m) l mem) (m + l.length) i gm gn s₀ { s with heap := pushAll s.heap l }
  | [], _, _, _, R, _ => R
  | o :: l, mem, m, s, R, hf => by
    have := Rep.allocs hB (l := l) (R.alloc (hf o (List.mem_cons_self ..)) hB) (fun x hx => hf x (List.mem_cons_of_mem _ hx))
    have e : m + (o :: l).length = m + 1 + l.length := by rw [List.length_cons]; omega
    rw [e]
    exact this
theorem calmOk_true {b : Bool} {h : Option Value} (q : calmOk b h = true) (hb : b = true) : h = none := by
  subst hb
  cases h with
  | none => rfl
  | some _ => cases q
theorem newObs_fst : ∀ (l : List Obj) (a : Nat) (mem : Mem) (b : Nat), b < a → b ∈ (newObs a l mem).map (·.1) → b ∈ mem.map (·.1)
  | [], _, _, _, _, h => h
  | o :: l, a, mem, b, hb, h => by
    have := newObs_fst l (a + 1) _ b (Nat.lt_succ_of_lt hb) h
    rcases List.mem_cons.mp this with e | e
    · exact absurd e (Nat.ne_of_lt hb)
    · exact e
theorem pushAll_keep : ∀ (l : List Obj) {h : Heap} {b : Nat} {o : Obj}, h.get? b = some o → (pushAll h l).get? b = some o
  | [], _, _, _, e => e
  | _ :: l, _, _, _, e => pushAll_keep l (Heap.get?_push_of_some _ e)
theorem pushAll_size : ∀ (l : List Obj) (h : Heap), h.objs.size ≤ (pushAll h l).objs.size
  | [], _ => Nat.le_refl _
  | o :: l, h => Nat.le_trans (by rw [Heap.size_push]; exact Nat.le_succ _) (pushAll_size l (h.push o))
theorem Rep.setGen (R : Rep V A GA mem m i gm gn s₀ s) {n : Nat} {x : Nat × GenState} (h : gmGet gm n = some x) (st : GenState) : Rep V A GA mem m i (gmSet st gm n) gn s₀ (s.setGen x.1 st) := by
  refine ⟨R.size, R.toks, by show (s.gens.setIfInBounds x.1 st).size = _; rw [Array.size_setIfInBounds, R.gsize], R.own, R.nodup, R.src, fun y hy => ?_, by rw [gmSet_fst]; exact R.gnodup, R.keep, R.drawn, R.os, R.org, fun g hg hl => ?_, fun g hg => by rw [gmSet_fst]; exact R.gids g hg⟩
  rotate_left
  · have hl' : g < s.gens.size := by
      have : (s.gens.setIfInBounds x.1 st).size = s.gens.size := Array.size_setIfInBounds
      exact this ▸ hl
    obtain ⟨z, hz, e⟩ := R.gnew g hg hl'
    have : z.1 ∈ (gmSet st gm n).map (·.1) := by rw [gmSet_fst]; exact List.mem_map_of_mem hz
    obtain ⟨z', hz', e'⟩ := List.mem_map.mp this
    exact ⟨z', hz', e'.trans e⟩
  show (s.gens.setIfInBounds x.1 st)[y.1]? = some y.2
  rcases gmSet_mem R.gnodup h hy with rfl | ⟨hm, hne⟩
  · have hx := R.gown x (gmGet_mem h)
    have hlt : x.1 < s.gens.size := (Array.getElem?_eq_some_iff.mp hx).1
    rw [Array.getElem?_setIfInBounds]
    simp [hlt]
  · rw [Array.getElem?_setIfInBounds]
    rw [if_neg (Ne.symm hne)]
    exact R.gown y hm
theorem Rep.newGen (R : Rep V A GA mem m i gm gn s₀ s) (c : Code) : Rep V A GA mem m i ((V.G + gn, .fresh c) :: gm) (gn + 1) s₀ { s with gens := s.gens.push (.fresh c) } := by
  refine ⟨R.size, R.toks, by show (s.gens.push _).size = _; rw [Array.size_push, R.gsize]; rfl, R.own, R.nodup, R.src, fun y hy => ?_, ?_, R.keep, R.drawn, R.os, R.org, fun g hg hl => ?_, fun g hg => List.mem_cons_of_mem _ (R.gids g hg)⟩
  · show (s.gens.push (.fresh c))[y.1]? = some y.2
    rcases List.mem_cons.mp hy with rfl | hy
    · rw [← R.gsize]; exact Array.getElem?_push_size ..
    · have := R.gown y hy
      have hlt := (Array.getElem?_eq_some_iff.mp this).1
      rw [Array.getElem?_push, if_neg (Nat.ne_of_lt hlt)]
      exact this
  · refine List.nodup_cons.mpr ⟨fun hm => ?_, R.gnodup⟩
    obtain ⟨z, hz, e⟩ := List.mem_map.mp hm
    have := (Array.getElem?_eq_some_iff.mp (R.gown z hz)).1
    rw [R.gsize] at this
    exact Nat.lt_irrefl _ (e ▸ this)
  · have hl' : g < s.gens.size + 1 := by
      have : (s.gens.push (GenState.fresh c)).size = s.gens.size + 1 := Array.size_push ..
      exact this ▸ hl
    rcases Nat.lt_succ_iff_lt_or_eq.mp hl' with q | q
    · obtain ⟨z, hz, e⟩ := R.gnew g hg q
      exact ⟨z, List.mem_cons_of_mem _ hz, e⟩
    · exact ⟨_, List.mem_cons_self .., by rw [q, R.gsize]⟩
end
theorem Frm.refl (A : List Addr) (GA : List Nat) (s : Shared) : Frm A GA s s := ⟨Nat.le_refl _, Nat.le_refl _, fun _ _ e _ => e, fun _ _ e _ => e⟩
end Mine
end

section
set_option maxRecDepth 100000
namespace Mine
open PySem PySem.W PySem.W.X

theorem Frm.trans {A A' : List Addr} {GA GA' : List Nat} {s s₁ s' : Shared} (x : Frm A GA s s₁) (y : Frm A' GA' s₁ s') (hA : ∀ b, b < s.heap.objs.size → b ∈ A' → b ∈ A) (hG : ∀ b, b < s.gens.size → b ∈ GA' → b ∈ GA) : Frm A GA s s' :=
  ⟨Nat.le_trans x.size y.size, Nat.le_trans x.gsize y.gsize, fun b o e h => y.keep b o (x.keep b o e h) fun q => h (hA b (Heap.lt_size e) q),
    fun g st e h => y.gkeep g st (x.gkeep g st e h) fun q => h (hG g (Array.getElem?_eq_some_iff.mp e).1 q)⟩

def Inc (ih : SimT) : Prop := ∀ t c p fs mem m i gm gn hs eqs, ∀ e ∈ eqs, e ∈ (ih t c p fs mem m i gm gn hs eqs).eqs

theorem preObs_inc {d : Nat} {mem : Mem} : ∀ {l : List (Nat × Addr × Obj)} {eqs eqs' : List Ob}, preObs d mem l eqs = some eqs' → ∀ e ∈ eqs, e ∈ eqs'
  | [], _, _, h, e, he => by cases h; exact he
  | x :: r, eqs, eqs', h, e, he => by
    unfold preObs at h
    split at h
    · exact preObs_inc h e (List.mem_cons_of_mem _ (List.mem_cons_of_mem _ he))
    · cases h
theorem postObs_inc {d : Nat} : ∀ {l : List (Nat × Addr × Obj)} {mem : Mem} {eqs : List Ob} {y : Mem × List Ob}, postObs d l mem eqs = some y → ∀ e ∈ eqs, e ∈ y.2
  | [], _, _, _, h, e, he => by cases h; exact he
  | x :: r, mem, eqs, y, h, e, he => by
    unfold postObs at h
    split at h
    · exact postObs_inc h e (List.mem_cons_of_mem _ he)
    · cases h

theorem retS_inc {ih : SimT} (I : Inc ih) (r : Result) {stop : Out} (fs : List Frame) (mem : Mem) (m i : Nat) (gm : GMem) (gn : Nat) (hs : List Hint) (eqs : List Ob) (hst : stop.eqs = eqs) : ∀ e ∈ eqs, e ∈ (retS ih r stop fs mem m i gm gn hs eqs).eqs := by
  intro e he
  unfold retS
  repeat' split
  all_goals first
    | (rw [hst]; exact he)
    | exact I _ _ _ _ _ _ _ _ _ _ _ e he
    | exact I _ _ _ _ _ _ _ _ _ _ _ e (List.mem_cons_of_mem _ he)
theorem step_inc (V : V) {ih : SimT} (I : Inc ih) : Inc (stepS V ih) := by
  intro t c p fs mem m i gm gn hs eqs e he
  unfold stepS
  repeat' split
  all_goals first
    | exact he
    | exact I _ _ _ _ _ _ _ _ _ _ _ e he
    | exact I _ _ _ _ _ _ _ _ _ _ _ e (List.mem_cons_of_mem _ he)
    | exact retS_inc I _ _ _ _ _ _ _ _ _ rfl e he
    | (rename_i h1 _ _ h2 _ ; exact I _ _ _ _ _ _ _ _ _ _ _ e (postObs_inc h2 e (preObs_inc h1 e (List.mem_cons_of_mem _ he))))
    | (rename_i h1 _ _ h2 _ _; exact I _ _ _ _ _ _ _ _ _ _ _ e (postObs_inc h2 e (preObs_inc h1 e (List.mem_cons_of_mem _ he))))
theorem run_inc (V : V) : ∀ n, Inc (run V n)
  | 0 => fun _ _ _ _ _ _ _ _ _ _ _ _ he => he
  | n + 1 => step_inc V (run_inc V n)

section
variable (V : V) (w : World) (rest : List Frame) (A GA : List Nat) (s₀ : Shared)
def Reach (s : Shared) (t : Sem Fin) (c : Code) (p : Pos) (fs : List Frame) (mem : Mem) (gm : GMem) (o : Out) : Prop :=
  ∃ s', Comes (model V.prog w) s ⟨t, c, p, fs ++ rest⟩ s' ⟨o.t, o.c, o.p, o.fs ++ rest⟩ ∧ Rep V A GA o.mem o.m o.i o.gm o.gn s₀ s' ∧ Frm (mem.map (·.1)) (gm.map (·.1)) s s'
def Sound (ih : SimT) : Prop := ∀ t c p fs mem m i gm gn hs eqs s, Rep V A GA mem m i gm gn s₀ s → (∀ e ∈ (ih t c p fs mem m i gm gn hs eqs).eqs, e.holds) →
  Reach V w rest A GA s₀ s t c p fs mem gm (ih t c p fs mem m i gm gn hs eqs)
variable {V w rest A GA s₀}
theorem Reach.stop {s : Shared} {t : Sem Fin} {c : Code} {p : Pos} {fs : List Frame} {mem : Mem} {m i : Nat} {gm : GMem} {gn : Nat} {hs : List Hint} {eqs : List Ob} (R : Rep V A GA mem m i gm gn s₀ s) :
    Reach V w rest A GA s₀ s t c p fs mem gm ⟨t, c, p, fs, mem, m, i, gm, gn, hs, eqs⟩ := ⟨s, .refl _ _, R, Frm.refl _ _ _⟩
theorem Reach.step {s s₁ : Shared} {t t₁ : Sem Fin} {c c₁ : Code} {p p₁ : Pos} {fs fs₁ : List Frame} {mem mem₁ : Mem} {gm gm₁ : GMem} {o : Out}
    (hs : (model V.prog w).step s ⟨t, c, p, fs ++ rest⟩ = .go s₁ ⟨t₁, c₁, p₁, fs₁ ++ rest⟩) (F : Frm (mem.map (·.1)) (gm.map (·.1)) s s₁)
    (hA : ∀ b, b < s.heap.objs.size → b ∈ mem₁.map (·.1) → b ∈ mem.map (·.1)) (hG : ∀ b, b < s.gens.size → b ∈ gm₁.map (·.1) → b ∈ gm.map (·.1))
    (h : Reach V w rest A GA s₀ s₁ t₁ c₁ p₁ fs₁ mem₁ gm₁ o) : Reach V w rest A GA s₀ s t c p fs mem gm o := by
  obtain ⟨s', a, b, d⟩ := h
  exact ⟨s', .step hs a, b, F.trans d hA hG⟩
theorem Reach.same {s : Shared} {t t₁ : Sem Fin} {c c₁ : Code} {p p₁ : Pos} {fs fs₁ : List Frame} {mem : Mem} {gm : GMem} {o : Out}
    (hs : (model V.prog w).step s ⟨t, c, p, fs ++ rest⟩ = .go s ⟨t₁, c₁, p₁, fs₁ ++ rest⟩)
    (h : Reach V w rest A GA s₀ s t₁ c₁ p₁ fs₁ mem gm o) : Reach V w rest A GA s₀ s t c p fs mem gm o := h.step hs (Frm.refl _ _ _) (fun _ _ q => q) (fun _ _ q => q)

theorem den_eq : (model V.prog w).den = denF := denF_eq
theorem Frm.upd {s : Shared} {a : Addr} {f : Obj → Obj} {A : List Addr} {GA : List Nat} (ha : a ∈ A) : Frm A GA s { s with heap := s.heap.update a f } := by
  have hs : Heap.SameBut a s.heap (s.heap.update a f) := Heap.SameBut.update ..
  exact ⟨by show _ ≤ (s.heap.update a f).objs.size; rw [hs.1]; exact Nat.le_refl _, Nat.le_refl _, fun b o e h => (hs.2 b fun q => h (q ▸ ha)).trans e, fun _ _ e _ => e⟩
theorem Frm.setGen {s : Shared} {g : Nat} {x : GenState} {A : List Addr} {GA : List Nat} (ha : g ∈ GA) : Frm A GA s (s.setGen g x) :=
  ⟨Nat.le_refl _, by show _ ≤ (s.gens.setIfInBounds g x).size; rw [Array.size_setIfInBounds]; exact Nat.le_refl _, fun _ _ e _ => e, fun b st e h => by
    show (s.gens.setIfInBounds g x)[b]? = some st
    rw [Array.getElem?_setIfInBounds, if_neg (fun q : g = b => h (q ▸ ha))]; exact e⟩
theorem fst_mem {mem : Mem} {n : Nat} {x : Addr × Obj} (h : memGet mem n = some x) : x.1 ∈ mem.map (·.1) := List.mem_map_of_mem (memGet_mem h)
theorem gfst_mem {gm : GMem} {n : Nat} {x : Nat × GenState} (h : gmGet gm n = some x) : x.1 ∈ gm.map (·.1) := List.mem_map_of_mem (gmGet_mem h)

variable (hP : w.params = V.P) (hB : V.B ≤ V.N) (hkt : ∀ a o, V.kt.get a = some o → a ∉ V.tabs → a < V.B → s₀.heap.get? a = some o)
  (hspec : ∀ S ∈ V.specs, SpecOK (model V.prog w) S) (hr : RestOK V.W rest)

theorem retS_sound {ih : SimT} (I : Inc ih) (IH : Sound V w rest A GA s₀ ih) (r : Result) {t : Sem Fin} (ht : t = leafOf r) {c : Code} {p : Pos} (fs : List Frame) (mem : Mem) (m i : Nat) (gm : GMem) (gn : Nat) (hs : List Hint) (eqs : List Ob) {s : Shared} (R : Rep V A GA mem m i gm gn s₀ s)
    (H : ∀ e ∈ (retS ih r ⟨t, c, p, fs, mem, m, i, gm, gn, hs, eqs⟩ fs mem m i gm gn hs eqs).eqs, e.holds) :
    Reach V w rest A GA s₀ s t c p fs mem gm (retS ih r ⟨t, c, p, fs, mem, m, i, gm, gn, hs, eqs⟩ fs mem m i gm gn hs eqs) := by
  subst ht
  cases fs with
  | nil => exact .stop R
  | cons f fs =>
    cases f with
    | ret k hd g l c₁ p₁ kp => exact .same (step_leaf_ret ..) (IH _ _ _ _ _ _ _ _ _ _ _ _ R H)
    | gen g k l c₁ p₁ =>
      cases hs with
      | nil => exact .stop R
      | cons h hs' =>
        cases h with
        | b => exact .stop R
        | s j d => exact .stop R
        | o h =>
          cases hx : gmGet gm h with
          | none => simp only [retS, hx] at H ⊢; exact .stop R
          | some x =>
            simp only [retS, hx] at H ⊢
            have e : g = x.1 := H _ (I _ _ _ _ _ _ _ _ _ _ _ _ (List.mem_cons_self ..))
            have st := step_leaf_gen (M := model V.prog w) s c p (fs ++ rest) r g k l c₁ p₁
            rw [e] at st
            exact .step (mem₁ := mem) (gm₁ := gmSet .finished gm h) (by rw [e]; exact st) (.setGen (gfst_mem hx)) (fun _ _ q => q) (fun _ _ q => by rw [gmSet_fst] at q; exact q) (IH _ _ _ _ _ _ _ _ _ _ _ _ (R.setGen hx _) H)

theorem top_base {rest : List Frame} {W : List (Code × Pos)} (hr : RestOK W rest) (fs : List Frame) : topHandled (fs ++ rest) = topHandled fs := by
  have h1 := topHandled_append fs rest
  have h2 := topHandled_append fs []
  rw [hr.top, hr.past] at h1
  rw [List.append_nil] at h2
  rw [h1, h2]; rfl

def effOf (post : List (Nat × Addr × Obj)) (h h' : Heap) : Prop := h'.objs.size = h.objs.size ∧ ∀ b, h'.get? b = lastOf b post (h.get? b)

theorem preObs_holds {d : Nat} {mem : Mem} : ∀ {l : List (Nat × Addr × Obj)} {eqs eqs' : List Ob}, preObs d mem l eqs = some eqs' → (∀ e ∈ eqs', e.holds) → ∀ x ∈ l, (x.2.1, x.2.2) ∈ mem
  | [], _, _, _, _, x, hx => nomatch hx
  | y :: r, eqs, eqs', h, H, x, hx => by
    unfold preObs at h
    split at h
    · rename_i z hz
      have h1 : y.2.1 = z.1 := H _ (preObs_inc h _ (List.mem_cons_self ..))
      have h2 : z.2 = y.2.2 := H _ (preObs_inc h _ (List.mem_cons_of_mem _ (List.mem_cons_self ..)))
      rcases List.mem_cons.mp hx with rfl | hx
      · rw [h1, ← h2]; exact memGet_mem hz
      · exact preObs_holds h H x hx
    · cases h
theorem postObs_rep {d m i gn : Nat} {gm : GMem} : ∀ {l : List (Nat × Addr × Obj)} {mem : Mem} {eqs : List Ob} {y : Mem × List Ob} {s s' : Shared}, postObs d l mem eqs = some y → (∀ e ∈ y.2, e.holds) →
    Rep V A GA mem m i gm gn s₀ s → effOf l s.heap s'.heap → (∀ x ∈ l, x.2.2.isFreed = false) → s'.toks = s.toks → s'.gens = s.gens → s'.drawn = s.drawn → s'.os = s.os →
    Rep V A GA y.1 m i gm gn s₀ s' ∧ y.1.map (·.1) = mem.map (·.1) ∧ ∀ b o, s.heap.get? b = some o → b ∉ mem.map (·.1) → s'.heap.get? b = some o
  | [], mem, eqs, y, s, s', h, H, R, E, _, ht, hg, hd, ho => by
    cases h
    have e : ∀ b, s'.heap.get? b = s.heap.get? b := E.2
    exact ⟨⟨E.1.trans R.size, ht.trans R.toks, by rw [hg]; exact R.gsize, fun x hx => (e _).trans (R.own x hx), R.nodup, R.src, fun x hx => by rw [hg]; exact R.gown x hx, R.gnodup, fun b o q1 q2 q3 => (e b).trans (R.keep b o q1 q2 q3), hd.trans R.drawn, ho.trans R.os, R.org, by rw [hg]; exact R.gnew, R.gids⟩, rfl, fun b o q _ => (e b).trans q⟩
  | x :: r, mem, eqs, y, s, s', h, H, R, E, hf, ht, hg, hd, ho => by
    unfold postObs at h
    split at h
    · rename_i z hz
      have h1 : x.2.1 = z.1 := H _ (postObs_inc h _ (List.mem_cons_self ..))
      have R1 := R.upd hz (f := fun _ => x.2.2) (hf x (List.mem_cons_self ..))
      have hs : Heap.SameBut z.1 s.heap (s.heap.update z.1 fun _ => x.2.2) := Heap.SameBut.update ..
      have hz' := Heap.get?_update_self (fun _ => x.2.2) (R.get hz) (hf x (List.mem_cons_self ..))
      have E1 : effOf r (s.heap.update z.1 fun _ => x.2.2) s'.heap := by
        refine ⟨E.1.trans hs.1.symm, fun b => ?_⟩
        rw [E.2 b]
        show lastOf b r (if x.2.1 = b then some x.2.2 else s.heap.get? b) = _
        by_cases hb : x.2.1 = b
        · rw [if_pos hb]
          have : b = z.1 := hb.symm.trans h1
          rw [this, hz']
        · rw [if_neg hb, hs.2 b (fun q => hb (h1.trans q.symm))]
      obtain ⟨a1, a2, a3⟩ := postObs_rep (s := { s with heap := s.heap.update z.1 fun _ => x.2.2 }) h H R1 E1 (fun q hq => hf q (List.mem_cons_of_mem _ hq)) ht hg hd ho
      rw [memUpd_fst] at a2
      refine ⟨a1, a2, fun b o q hb => a3 b o ?_ (by rw [memUpd_fst]; exact hb)⟩
      exact (hs.2 b (fun e => hb (e ▸ fst_mem hz))).trans q
    · cases h

variable (hsf : ∀ S ∈ V.specs, (∀ x ∈ S.post, x.2.2.isFreed = false) ∧ ∀ b, ∀ o ∈ S.new b, o.isFreed = false)
theorem specAt_mem : ∀ {l : List Spec} {n : Nat} {S : Spec}, specAt l n = some S → S ∈ l
  | [], _, _, h => nomatch h
  | y :: r, 0, x, h => by cases h; exact List.mem_cons_self ..
  | y :: r, n + 1, x, h => List.mem_cons_of_mem _ (specAt_mem (l := r) h)
include hP hB hkt hspec hr hsf in
theorem step_sound {ih : SimT} (I : Inc ih) (IH : Sound V w rest A GA s₀ ih) : Sound V w rest A GA s₀ (stepS V ih) := by
  intro t c p fs mem m i gm gn hs eqs s R H
  cases t with
  | pure fin =>
    cases fin with
    | done f => exact retS_sound I IH (.ok f) rfl fs mem m i gm gn hs eqs R H
    | again c' =>
      cases q : quietF c' with
      | false => simp only [stepS, q] at H ⊢; exact .stop R
      | true =>
        simp only [stepS, q] at H ⊢
        refine .same (step_again _ _ _ _ _ _ (by rw [quietF_eq]; exact q)) ?_
        rw [den_eq]
        exact IH _ _ _ _ _ _ _ _ _ _ _ _ R H
  | raise e => exact retS_sound I IH (.error e) rfl fs mem m i gm gn hs eqs R H
  | rule tag k => exact .same (step_rule ..) (IH _ _ _ _ _ _ _ _ _ _ _ _ R H)
  | «at» p' k => exact .same (step_at ..) (IH _ _ _ _ _ _ _ _ _ _ _ _ R H)
  | point l k => exact .same (step_point ..) (IH _ _ _ _ _ _ _ _ _ _ _ _ R H)
  | ask k =>
    refine .same (step_ask ..) ?_
    have e : (⟨(model V.prog w).prog, (model V.prog w).w.params⟩ : Setting) = ⟨V.prog, V.P⟩ := by rw [← hP]; rfl
    rw [e]
    exact IH _ _ _ _ _ _ _ _ _ _ _ _ R H
  | load a part k =>
    cases hs with
    | nil => exact .stop R
    | cons h hs' =>
      cases h with
      | s j d => exact .stop R
      | b =>
        cases q1 : Nat.blt a V.B with
        | false => simp only [stepS, q1] at H ⊢; exact .stop R
        | true =>
          cases q2 : noTab V.tabs a with
          | false => simp only [stepS, q1, q2] at H ⊢; exact .stop R
          | true =>
            cases q3 : V.kt.get a with
            | none => simp only [stepS, q1, q2, q3] at H ⊢; exact .stop R
            | some o =>
              simp only [stepS, q1, q2, q3] at H ⊢
              have hb : a < V.B := blt_true q1
              have ho := R.keep a o (hkt a o q3 (noTab_not q2) hb) (noTab_not q2) hb
              exact .same (step_load _ _ _ _ _ _ _ ho) (IH _ _ _ _ _ _ _ _ _ _ _ _ R H)
      | o h =>
        cases hx : memGet mem h with
        | none => simp only [stepS, hx] at H ⊢; exact .stop R
        | some x =>
          simp only [stepS, hx] at H ⊢
          have e : a = x.1 := H _ (I _ _ _ _ _ _ _ _ _ _ _ _ (List.mem_cons_self ..))
          exact .same (step_load _ _ _ _ _ _ _ (by rw [e]; exact R.get hx)) (IH _ _ _ _ _ _ _ _ _ _ _ _ R H)
  | loadIfAlive a k =>
    cases hs with
    | nil => exact .stop R
    | cons h hs' =>
      cases h with
      | s j d => exact .stop R
      | b => exact .stop R
      | o h =>
        cases hx : memGet mem h with
        | none => simp only [stepS, hx] at H ⊢; exact .stop R
        | some x =>
          simp only [stepS, hx] at H ⊢
          have e : a = x.1 := H _ (I _ _ _ _ _ _ _ _ _ _ _ _ (List.mem_cons_self ..))
          have st := step_loadIfAlive (M := model V.prog w) s c p (fs ++ rest) a k
          rw [show s.heap.get? a = some x.2 by rw [e]; exact R.get hx] at st
          exact .same st (IH _ _ _ _ _ _ _ _ _ _ _ _ R H)
  | update a part f k =>
    cases hs with
    | nil => exact .stop R
    | cons h hs' =>
      cases h with
      | s j d => exact .stop R
      | b => exact .stop R
      | o h =>
        cases hx : memGet mem h with
        | none => simp only [stepS, hx] at H ⊢; exact .stop R
        | some x =>
          cases hf : (f x.2).isFreed with
          | true => simp only [stepS, hx, hf] at H ⊢; exact .stop R
          | false =>
            simp only [stepS, hx, hf] at H ⊢
            have e : a = x.1 := H _ (I _ _ _ _ _ _ _ _ _ _ _ _ (List.mem_cons_self ..))
            refine .step (mem₁ := memUpd f mem h) (gm₁ := gm) (step_update _ _ _ _ _ _ _ _ (by rw [e, R.get hx]; rfl)) (.upd (e ▸ fst_mem hx)) (fun _ _ q => by rw [memUpd_fst] at q; exact q) (fun _ _ q => q) (IH _ _ _ _ _ _ _ _ _ _ _ _ ?_ H)
            rw [e]; exact R.upd hx hf
  | alloc o k =>
    cases hf : o.isFreed with
    | true => simp only [stepS, hf] at H ⊢; exact .stop R
    | false =>
      simp only [stepS, hf] at H ⊢
      have st := step_alloc (M := model V.prog w) s c p (fs ++ rest) o k
      rw [R.size] at st
      refine .step (mem₁ := (V.N + m, o) :: mem) (gm₁ := gm) st ⟨by show _ ≤ (s.heap.push o).objs.size; rw [Heap.size_push]; exact Nat.le_succ _, Nat.le_refl _, fun b o' e _ => Heap.get?_push_of_some _ e, fun _ _ e _ => e⟩ (fun b hb q => ?_) (fun _ _ q => q) (IH _ _ _ _ _ _ _ _ _ _ _ _ (R.alloc hf hB) H)
      rcases List.mem_cons.mp q with rfl | q
      · rw [R.size] at hb; exact absurd hb (Nat.lt_irrefl _)
      · exact q
  | fresh k =>
    have st := step_fresh (M := model V.prog w) s c p (fs ++ rest) k
    rw [R.toks] at st
    refine .step (mem₁ := mem) (gm₁ := gm) st ⟨Nat.le_refl _, Nat.le_refl _, fun _ _ e _ => e, fun _ _ e _ => e⟩ (fun _ _ q => q) (fun _ _ q => q) (IH _ _ _ _ _ _ _ _ _ _ _ _ ?_ H)
    exact ⟨R.size, by show V.T + i + 1 = _; rw [Nat.add_assoc], R.gsize, R.own, R.nodup, R.src, R.gown, R.gnodup, R.keep, R.drawn, R.os, R.org, R.gnew, R.gids⟩
  | handled own k =>
    cases own with
    | false =>
      have st := step_handled (M := model V.prog w) s c p (fs ++ rest) false k
      rw [if_neg Bool.false_ne_true, top_base hr] at st
      exact .same st (IH _ _ _ _ _ _ _ _ _ _ _ _ R H)
    | true =>
      cases q : splitAtGen fs with
      | none => simp only [stepS, q] at H ⊢; exact .stop R
      | some x =>
        simp only [stepS, q] at H ⊢
        have st := step_handled (M := model V.prog w) s c p (fs ++ rest) true k
        obtain ⟨x1, x2, x3⟩ := x
        rw [if_pos rfl] at st
        have e : ownFrames (fs ++ rest) = x1 := by unfold ownFrames; rw [splitAtGen_append_some rest q]
        rw [e] at st
        exact .same st (IH _ _ _ _ _ _ _ _ _ _ _ _ R H)
  | stack k =>
    have st := step_stack (M := model V.prog w) s c p (fs ++ rest) k
    rw [List.map_append, hr.codes] at st
    exact .same st (IH _ _ _ _ _ _ _ _ _ _ _ _ R H)
  | call c' hd g l k =>
    have plain : ∀ hs₂, (∀ e ∈ (ih (denF c') c' p (.ret k hd g l c p [] :: fs) mem m i gm gn hs₂ eqs).eqs, e.holds) → Reach V w rest A GA s₀ s (.call c' hd g l k) c p fs mem gm (ih (denF c') c' p (.ret k hd g l c p [] :: fs) mem m i gm gn hs₂ eqs) := fun hs₂ H => by
      have st := step_call (M := model V.prog w) s c p (fs ++ rest) c' hd g l k
      rw [den_eq] at st
      exact .same st (IH _ _ _ _ _ _ _ _ _ _ _ _ R H)
    cases hs with
    | nil => exact plain _ H
    | cons h hs' =>
      cases h with
      | b => exact plain _ H
      | o _ => exact plain _ H
      | s j d =>
        cases q1 : specAt V.specs j with
        | none => simp only [stepS, q1] at H ⊢; exact plain _ H
        | some S =>
          cases q2 : preObs d mem S.pre (.c c' S.code :: eqs) with
          | none => simp only [stepS, q1, q2] at H ⊢; exact .stop R
          | some eqs₁ =>
            cases q3 : postObs d S.post mem eqs₁ with
            | none => simp only [stepS, q1, q2, q3] at H ⊢; exact .stop R
            | some y =>
              cases q4 : calmOk S.calm (topHandled (.ret k hd g l c p [] :: fs)) with
              | false => simp only [stepS, q1, q2, q3, q4] at H ⊢; exact .stop R
              | true =>
              simp only [stepS, q1, q2, q3, q4] at H ⊢
              have Hy : ∀ e ∈ y.2, e.holds := fun e he => H e (I _ _ _ _ _ _ _ _ _ _ _ e he)
              have H1 : ∀ e ∈ eqs₁, e.holds := fun e he => Hy e (postObs_inc q3 e he)
              have ec : c' = S.code := H1 _ (preObs_inc q2 _ (List.mem_cons_self ..))
              obtain ⟨s', a1, ⟨h₁, a2, a7⟩, a3, a4, a5, a6⟩ := hspec S (specAt_mem q1) s p k hd g l c (fs ++ rest) (fun x hx => R.own _ (preObs_holds q2 H1 x hx)) (fun hb => (top_base hr (.ret k hd g l c p [] :: fs)).trans (calmOk_true q4 hb))
              have R0 : Rep V A GA mem m (i + S.dt) gm gn s₀ { s with toks := s.toks + S.dt } := ⟨R.size, by show s.toks + S.dt = _; rw [R.toks, Nat.add_assoc], R.gsize, R.own, R.nodup, R.src, R.gown, R.gnodup, R.keep, R.drawn, R.os, R.org, R.gnew, R.gids⟩
              obtain ⟨b1, b2, b3⟩ := postObs_rep (s := { s with toks := s.toks + S.dt }) (s' := { s' with heap := h₁ }) q3 Hy R0 a2 (hsf S (specAt_mem q1)).1 a3 a4 a5 a6
              have b4 := b1.allocs hB ((hsf S (specAt_mem q1)).2 (V.N + m))
              have b5 : ({ s' with heap := pushAll h₁ (S.new (V.N + m)) } : Shared) = s' := by rw [← R.size, ← a7]
              have st := step_call (M := model V.prog w) s c p (fs ++ rest) c' hd g l k
              rw [ec] at st
              rw [R.toks, R.size] at a1
              obtain ⟨s'', d1, d2, d3⟩ := IH _ _ _ _ _ _ _ _ _ _ _ _ (b5 ▸ b4) H
              refine ⟨s'', by rw [ec]; exact .step st (a1.trans d1), d2, ?_⟩
              refine Frm.trans (s₁ := s') ⟨by rw [a7, ← a2.1]; exact pushAll_size _ _, by rw [a4]; exact Nat.le_refl _, fun b o e hb => by rw [a7]; exact pushAll_keep _ (b3 b o e hb), fun g st e _ => by rw [a4]; exact e⟩ d3 (fun b hb q => ?_) (fun _ _ q => q)
              rw [← b2]
              exact newObs_fst _ _ _ b (by rw [← R.size]; exact hb) q
  | newGen c' k =>
    have st := step_newGen (M := model V.prog w) s c p (fs ++ rest) c' k
    rw [R.gsize] at st
    refine .step (mem₁ := mem) (gm₁ := (V.G + gn, .fresh c') :: gm) st ⟨Nat.le_refl _, by show _ ≤ (s.gens.push _).size; rw [Array.size_push]; exact Nat.le_succ _, fun _ _ e _ => e, fun b x e _ => ?_⟩ (fun _ _ q => q) (fun b hb q => ?_) (IH _ _ _ _ _ _ _ _ _ _ _ _ (R.newGen c') H)
    · show (s.gens.push (.fresh c'))[b]? = some x
      have hlt := (Array.getElem?_eq_some_iff.mp e).1
      rw [Array.getElem?_push, if_neg (Nat.ne_of_lt hlt)]; exact e
    · rcases List.mem_cons.mp q with rfl | q
      · rw [R.gsize] at hb; exact absurd hb (Nat.lt_irrefl _)
      · exact q
  | genState g k =>
    cases hs with
    | nil => exact .stop R
    | cons h hs' =>
      cases h with
      | s j d => exact .stop R
      | b => exact .stop R
      | o h =>
        cases hx : gmGet gm h with
        | none => simp only [stepS, hx] at H ⊢; exact .stop R
        | some x =>
          simp only [stepS, hx] at H ⊢
          have e : g = x.1 := H _ (I _ _ _ _ _ _ _ _ _ _ _ _ (List.mem_cons_self ..))
          exact .same (step_genState _ _ _ _ _ _ (by rw [e]; exact R.gown x (gmGet_mem hx))) (IH _ _ _ _ _ _ _ _ _ _ _ _ R H)
  | resume g r l k =>
    cases hs with
    | nil => exact .stop R
    | cons h hs' =>
      cases h with
      | s j d => exact .stop R
      | b => exact .stop R
      | o h =>
        cases hx : gmGet gm h with
        | none => simp only [stepS, hx] at H ⊢; exact .stop R
        | some x =>
          obtain ⟨xg, xs⟩ := x
          cases xs with
          | running => simp only [stepS, hx] at H ⊢; exact .stop R
          | finished =>
            simp only [stepS, hx] at H ⊢
            have e : g = xg := H _ (I _ _ _ _ _ _ _ _ _ _ _ _ (List.mem_cons_self ..))
            exact .same (step_resume_finished _ _ _ _ _ _ _ _ (by rw [e]; exact R.gown _ (gmGet_mem hx))) (IH _ _ _ _ _ _ _ _ _ _ _ _ R H)
          | fresh c₀ =>
            cases r with
            | throw e => simp only [stepS, hx] at H ⊢; exact .stop R
            | send v =>
              cases v with
              | none =>
                simp only [stepS, hx] at H ⊢
                have e : g = xg := H _ (I _ _ _ _ _ _ _ _ _ _ _ _ (List.mem_cons_self ..))
                subst e
                have st := step_resume_fresh (M := model V.prog w) s c p (fs ++ rest) l k (R.gown _ (gmGet_mem hx))
                rw [den_eq] at st
                exact .step (fs₁ := .gen g k l c p :: fs) (mem₁ := mem) (gm₁ := gmSet .running gm h) st (.setGen (gfst_mem hx)) (fun _ _ q => q) (fun _ _ q => by rw [gmSet_fst] at q; exact q) (IH _ _ _ _ _ _ _ _ _ _ _ _ (R.setGen hx _) H)
              | _ => simp only [stepS, hx] at H ⊢; exact .stop R
          | suspended k₀ l₀ c₀ p₀ fs₀ cl =>
            simp only [stepS, hx] at H ⊢
            have e : g = xg := H _ (I _ _ _ _ _ _ _ _ _ _ _ _ (List.mem_cons_self ..))
            subst e
            have st := step_resume_suspended (M := model V.prog w) s c p (fs ++ rest) r l k (R.gown _ (gmGet_mem hx))
            refine .step (fs₁ := fs₀ ++ .gen g k l c p :: fs) (mem₁ := mem) (gm₁ := gmSet .running gm h) (by rw [st]; simp) (.setGen (gfst_mem hx)) (fun _ _ q => q) (fun _ _ q => by rw [gmSet_fst] at q; exact q) (IH _ _ _ _ _ _ _ _ _ _ _ _ (R.setGen hx _) H)
  | «yield» v gd l k =>
    cases hs with
    | nil => exact .stop R
    | cons h hs' =>
      cases h with
      | s j d => exact .stop R
      | b => exact .stop R
      | o h =>
        cases q1 : splitAtGen fs with
        | none => simp only [stepS, q1] at H ⊢; exact .stop R
        | some y =>
          cases q2 : (gd || y.1.any Frame.guarded) with
          | true => simp only [stepS, q1, q2] at H ⊢; exact .stop R
          | false =>
            cases hx : gmGet gm h with
            | none => simp only [stepS, q1, q2, hx] at H ⊢; exact .stop R
            | some x =>
              simp only [stepS, q1, q2, hx] at H ⊢
              obtain ⟨pre, ⟨g, k', c', p'⟩, rst⟩ := y
              have e : g = x.1 := H _ (I _ _ _ _ _ _ _ _ _ _ _ _ (List.mem_cons_self ..))
              have st := step_yield (model V.prog w) s c p (fs ++ rest) v gd l k (splitAtGen_append_some rest q1) (by show (!(gd || pre.any Frame.guarded)) = true; rw [q2]; rfl)
              have e2 : (End.susp v gd l k c p pre).genState = .suspended k l c p pre false := by show GenState.suspended k l c p pre (gd || pre.any Frame.guarded) = _; rw [q2]
              rw [e2, e] at st
              exact .step (fs₁ := rst) (mem₁ := mem) (gm₁ := gmSet (.suspended k l c p pre false) gm h) st (.setGen (gfst_mem hx)) (fun _ _ q => q) (fun _ _ q => by rw [gmSet_fst] at q; exact q) (IH _ _ _ _ _ _ _ _ _ _ _ _ (R.setGen hx _) H)
  | unsupported => exact .stop R
  | finish => exact .stop R
  | register => exact .stop R
  | choose => exact .stop R
  | os => exact .stop R
  | fork => exact .stop R
  | thread => exact .stop R
  | await => exact .stop R
include hP hB hkt hspec hr hsf in
theorem run_sound : ∀ n, Sound V w rest A GA s₀ (run V n)
  | 0 => fun _ _ _ _ _ _ _ _ _ _ _ _ R _ => .stop R
  | n + 1 => step_sound hP hB hkt hspec hr hsf (run_inc V n) (run_sound n)
end
end Mine
end

section
set_option maxRecDepth 100000
namespace Mine
open PySem PySem.W PySem.W.X

def pick : List Nat → Mem → Mem
  | [], _ => []
  | i :: r, mem => match memGet mem i with
    | some x => x :: pick r mem
    | none => pick r mem
def live : GMem → GMem
  | [] => []
  | x :: r => match x.2 with
    | .finished => live r
    | _ => x :: live r

theorem pick_mem : ∀ {l : List Nat} {mem : Mem} {x : Addr × Obj}, x ∈ pick l mem → ∃ i ∈ l, memGet mem i = some x
  | [], _, _, h => nomatch h
  | i :: r, mem, x, h => by
    unfold pick at h
    split at h
    · rename_i y hy
      rcases List.mem_cons.mp h with rfl | h
      · exact ⟨i, List.mem_cons_self .., hy⟩
      · obtain ⟨j, hj, e⟩ := pick_mem h
        exact ⟨j, List.mem_cons_of_mem _ hj, e⟩
    · obtain ⟨j, hj, e⟩ := pick_mem h
      exact ⟨j, List.mem_cons_of_mem _ hj, e⟩
theorem memGet_inj : ∀ {mem : Mem} {i j : Nat} {x y : Addr × Obj}, (mem.map (·.1)).Nodup → memGet mem i = some x → memGet mem j = some y → x.1 = y.1 → i = j
  | [], _, _, _, _, _, h, _, _ => nomatch h
  | z :: r, 0, 0, _, _, _, _, _, _ => rfl
  | z :: r, 0, j + 1, x, y, hd, h1, h2, e => by
    cases h1
    exact absurd (by have q := List.mem_map_of_mem (f := fun x => x.1) (memGet_mem (mem := r) h2); simp only [← e] at q; exact q) (List.nodup_cons.mp hd).1
  | z :: r, i + 1, 0, x, y, hd, h1, h2, e => by
    cases h2
    exact absurd (by have q := List.mem_map_of_mem (f := fun x => x.1) (memGet_mem (mem := r) h1); simp only [e] at q; exact q) (List.nodup_cons.mp hd).1
  | z :: r, i + 1, j + 1, x, y, hd, h1, h2, e => congrArg (· + 1) (memGet_inj (mem := r) (List.nodup_cons.mp hd).2 h1 h2 e)
theorem pick_nodup : ∀ {l : List Nat} {mem : Mem}, (mem.map (·.1)).Nodup → l.Nodup → ((pick l mem).map (·.1)).Nodup
  | [], _, _, _ => List.nodup_nil
  | i :: r, mem, hd, hl => by
    have hl' := List.nodup_cons.mp hl
    unfold pick
    split
    · rename_i x hx
      refine List.nodup_cons.mpr ⟨fun hm => ?_, pick_nodup hd hl'.2⟩
      obtain ⟨y, hy, e⟩ := List.mem_map.mp hm
      obtain ⟨j, hj, hy'⟩ := pick_mem hy
      exact hl'.1 (by rw [memGet_inj hd hx hy' e.symm]; exact hj)
    · exact pick_nodup hd hl'.2
theorem live_mem : ∀ {gm : GMem} {x : Nat × GenState}, x ∈ live gm → x ∈ gm
  | [], _, h => nomatch h
  | y :: r, x, h => by
    unfold live at h
    split at h
    · exact List.mem_cons_of_mem _ (live_mem h)
    · rcases List.mem_cons.mp h with rfl | h
      · exact List.mem_cons_self ..
      · exact List.mem_cons_of_mem _ (live_mem h)
theorem live_or : ∀ {gm : GMem} {x : Nat × GenState}, x ∈ gm → x ∈ live gm ∨ x.2 = .finished
  | [], _, h => nomatch h
  | y :: r, x, h => by
    unfold live
    rcases List.mem_cons.mp h with rfl | h
    · split
      · rename_i q; exact .inr q
      · exact .inl (List.mem_cons_self ..)
    · rcases live_or h with q | q
      · refine .inl ?_
        split
        · exact q
        · exact List.mem_cons_of_mem _ q
      · exact .inr q
theorem live_nodup : ∀ {gm : GMem}, (gm.map (·.1)).Nodup → ((live gm).map (·.1)).Nodup
  | [], _ => List.nodup_nil
  | y :: r, hd => by
    have hd' := List.nodup_cons.mp hd
    unfold live
    split
    · exact live_nodup hd'.2
    · refine List.nodup_cons.mpr ⟨fun hm => ?_, live_nodup hd'.2⟩
      obtain ⟨z, hz, e⟩ := List.mem_map.mp hm
      exact hd'.1 (by have q := List.mem_map_of_mem (f := fun x => x.1) (live_mem hz); simp only [e] at q; exact q)

structure Top where
  prog : Program
  w : World
  P : Params
  kt : KT
  tabs : List Nat
  B : Nat
  s₀ : Shared
structure Top.Ok (K : Top) : Prop where
  P : K.w.params = K.P
  kt : ∀ a o, K.kt.get a = some o → a ∉ K.tabs → a < K.B → K.s₀.heap.get? a = some o

structure St (K : Top) (mem : Mem) (gm : GMem) (s : Shared) : Prop where
  own : ∀ x ∈ mem, s.heap.get? x.1 = some x.2
  nodup : (mem.map (·.1)).Nodup
  src : ∀ x ∈ mem, x.1 ∈ K.tabs ∨ K.B ≤ x.1
  gown : ∀ x ∈ gm, s.gens[x.1]? = some x.2
  gnodup : (gm.map (·.1)).Nodup
  gfin : ∀ g st, s.gens[g]? = some st → (∃ x ∈ gm, x.1 = g) ∨ st = .finished
  keep : ∀ b o, K.s₀.heap.get? b = some o → b ∉ K.tabs → b < K.B → s.heap.get? b = some o
  drawn : s.drawn = K.s₀.drawn
  os : s.os = K.s₀.os
  low : K.B ≤ s.heap.objs.size

def Top.V (K : Top) (W : List (Code × Pos)) (N T G : Nat) (specs : List Spec) : V := ⟨K.prog, K.P, K.kt, K.tabs, K.B, W, N, T, G, specs⟩

structure End (mem : Mem) (gm : GMem) where
  t : Sem Fin
  c : Code
  p : Pos
  fs : List Frame

def Ends (o : Out) (idx : List Nat) (t : Sem Fin) (c : Code) (p : Pos) (fs : List Frame) (mem : Mem) (gm : GMem) : Prop :=
  (o.t, o.c, o.p, o.fs, pick idx o.mem, live o.gm, o.eqs) = (t, c, p, fs, mem, gm, o.eqs.map Ob.diag)

theorem holds_of_map : ∀ {l : List Ob}, l = l.map Ob.diag → ∀ e ∈ l, e.holds
  | [], _, _, h => nomatch h
  | x :: r, q, e, h => by
    injection q with q1 q2
    rcases List.mem_cons.mp h with rfl | h
    · exact Ob.holds_of q1
    · exact holds_of_map q2 e h

theorem useOne {K : Top} (hK : K.Ok) {W : List (Code × Pos)} {specs : List Spec} (hspec : ∀ S ∈ specs, SpecOK (model K.prog K.w) S) (hsf : ∀ S ∈ specs, (∀ x ∈ S.post, x.2.2.isFreed = false) ∧ ∀ b, ∀ o ∈ S.new b, o.isFreed = false)
    {n : Nat} {t : Sem Fin} {c : Code} {p : Pos} {fs : List Frame} {mem : Mem} {gm : GMem} {hs : List Hint} {idx : List Nat} (hidx : idx.Nodup)
    {L : Mem} {s : Shared} (h7 : (run (K.V W s.heap.objs.size s.toks s.gens.size specs) n t c p fs mem 0 0 gm 0 hs []).eqs = (run (K.V W s.heap.objs.size s.toks s.gens.size specs) n t c p fs mem 0 0 gm 0 hs []).eqs.map Ob.diag) (S : St K (mem ++ L) gm s) {rest : List Frame} (hr : RestOK W rest) :
    ∃ s', Comes (model K.prog K.w) s ⟨t, c, p, fs ++ rest⟩ s' ⟨(run (K.V W s.heap.objs.size s.toks s.gens.size specs) n t c p fs mem 0 0 gm 0 hs []).t, (run (K.V W s.heap.objs.size s.toks s.gens.size specs) n t c p fs mem 0 0 gm 0 hs []).c, (run (K.V W s.heap.objs.size s.toks s.gens.size specs) n t c p fs mem 0 0 gm 0 hs []).p, (run (K.V W s.heap.objs.size s.toks s.gens.size specs) n t c p fs mem 0 0 gm 0 hs []).fs ++ rest⟩ ∧
      St K (pick idx (run (K.V W s.heap.objs.size s.toks s.gens.size specs) n t c p fs mem 0 0 gm 0 hs []).mem ++ L) (live (run (K.V W s.heap.objs.size s.toks s.gens.size specs) n t c p fs mem 0 0 gm 0 hs []).gm) s' ∧ s.heap.objs.size ≤ s'.heap.objs.size := by
  have nd := S.nodup
  rw [List.map_append] at nd
  have nd1 : (mem.map (·.1)).Nodup := (List.nodup_append.mp nd).1
  have nd2 : (L.map (·.1)).Nodup := (List.nodup_append.mp nd).2.1
  have nd3 : ∀ a ∈ mem.map (·.1), ∀ b ∈ L.map (·.1), a ≠ b := (List.nodup_append.mp nd).2.2
  have R0 : Rep (K.V W s.heap.objs.size s.toks s.gens.size specs) (mem.map (·.1)) (gm.map (·.1)) mem 0 0 gm 0 K.s₀ s :=
    ⟨rfl, rfl, rfl, fun x hx => S.own x (List.mem_append_left _ hx), nd1, fun x hx => S.src x (List.mem_append_left _ hx), S.gown, S.gnodup, S.keep, S.drawn, S.os,
      fun x hx => .inl (List.mem_map_of_mem hx), fun g h1 h2 => absurd h2 (Nat.not_lt.mpr h1), fun _ h => h⟩
  obtain ⟨s', C, R, F⟩ := run_sound (V := K.V W s.heap.objs.size s.toks s.gens.size specs) (w := K.w) (rest := rest) (A := mem.map (·.1)) (GA := gm.map (·.1)) (s₀ := K.s₀) hK.P S.low hK.kt hspec hr hsf n t c p fs mem 0 0 gm 0 hs [] s R0 (holds_of_map h7)
  refine ⟨s', C, ?_, F.size⟩
  have hL : ∀ x ∈ L, x.1 < s.heap.objs.size := fun x hx => Heap.lt_size (S.own x (List.mem_append_right _ hx))
  refine ⟨fun x hx => ?_, ?_, fun x hx => ?_, fun x hx => R.gown x (live_mem hx), live_nodup R.gnodup, fun g st e => ?_, R.keep, R.drawn, R.os, Nat.le_trans S.low F.size⟩
  · rcases List.mem_append.mp hx with q | q
    · obtain ⟨i, _, e⟩ := pick_mem q
      exact R.get e
    · exact F.keep _ _ (S.own x (List.mem_append_right _ q)) fun hm => nd3 _ hm _ (List.mem_map_of_mem q) rfl
  · rw [List.map_append]
    refine List.nodup_append.mpr ⟨pick_nodup R.nodup hidx, nd2, fun a ha b hb e => ?_⟩
    obtain ⟨x, hx, ex⟩ := List.mem_map.mp ha
    obtain ⟨y, hy, ey⟩ := List.mem_map.mp hb
    obtain ⟨i, _, ei⟩ := pick_mem hx
    rcases R.org x (memGet_mem ei) with q | q
    · exact nd3 x.1 q y.1 (List.mem_map_of_mem hy) (by rw [ex, e, ey])
    · have := hL y hy
      rw [ey, ← e, ← ex] at this
      exact Nat.lt_irrefl _ (Nat.lt_of_lt_of_le this q)
  · rcases List.mem_append.mp hx with q | q
    · obtain ⟨i, _, e⟩ := pick_mem q
      exact R.src x (memGet_mem e)
    · exact S.src x (List.mem_append_right _ q)
  · have hlt : g < s'.gens.size := (Array.getElem?_eq_some_iff.mp e).1
    have inGm : (∃ x ∈ (run (K.V W s.heap.objs.size s.toks s.gens.size specs) n t c p fs mem 0 0 gm 0 hs []).gm, x.1 = g) → (∃ x ∈ live (run (K.V W s.heap.objs.size s.toks s.gens.size specs) n t c p fs mem 0 0 gm 0 hs []).gm, x.1 = g) ∨ st = .finished := by
      rintro ⟨x, hx, rfl⟩
      rcases live_or hx with q | q
      · exact .inl ⟨x, q, rfl⟩
      · have := R.gown x hx
        rw [e] at this
        exact .inr ((Option.some.inj this).trans q)
    by_cases hg : s.gens.size ≤ g
    · exact inGm (R.gnew g hg hlt)
    · have hg' : g < s.gens.size := Nat.lt_of_not_le hg
      by_cases hm : g ∈ gm.map (·.1)
      · exact inGm (List.mem_map.mp (R.gids g hm))
      · have e1 : s.gens[g]? = some s.gens[g] := Array.getElem?_eq_getElem hg'
        have e2 := F.gkeep g _ e1 hm
        rw [e] at e2
        cases Option.some.inj e2
        rcases S.gfin g _ e1 with ⟨x, hx, rfl⟩ | q
        · exact absurd (List.mem_map_of_mem hx) hm
        · exact .inr q
theorem use {K : Top} (hK : K.Ok) {W : List (Code × Pos)} {specs : List Spec} (hspec : ∀ S ∈ specs, SpecOK (model K.prog K.w) S) (hsf : ∀ S ∈ specs, (∀ x ∈ S.post, x.2.2.isFreed = false) ∧ ∀ b, ∀ o ∈ S.new b, o.isFreed = false)
    {n : Nat} {t : Sem Fin} {c : Code} {p : Pos} {fs : List Frame} {mem : Mem} {gm : GMem} {hs : List Hint} {idx : List Nat} (hidx : idx.Nodup)
    {t' : Nat → Nat → Nat → Sem Fin} {c' : Nat → Nat → Nat → Code} {p' : Nat → Nat → Nat → Pos} {fs' : Nat → Nat → Nat → List Frame} {mem' : Nat → Nat → Nat → Mem} {gm' : Nat → Nat → Nat → GMem}
    (hrun : ∀ N T G, Ends (run (K.V W N T G specs) n t c p fs mem 0 0 gm 0 hs []) idx (t' N T G) (c' N T G) (p' N T G) (fs' N T G) (mem' N T G) (gm' N T G))
    {L : Mem} {s : Shared} (S : St K (mem ++ L) gm s) {rest : List Frame} (hr : RestOK W rest) :
    ∃ s', Comes (model K.prog K.w) s ⟨t, c, p, fs ++ rest⟩ s' ⟨t' s.heap.objs.size s.toks s.gens.size, c' s.heap.objs.size s.toks s.gens.size, p' s.heap.objs.size s.toks s.gens.size, fs' s.heap.objs.size s.toks s.gens.size ++ rest⟩ ∧
      St K (mem' s.heap.objs.size s.toks s.gens.size ++ L) (gm' s.heap.objs.size s.toks s.gens.size) s' ∧ s.heap.objs.size ≤ s'.heap.objs.size := by
  have h := hrun s.heap.objs.size s.toks s.gens.size
  unfold Ends at h
  simp only [Prod.mk.injEq] at h
  obtain ⟨h1, h2, h3, h4, h5, h6, h7⟩ := h
  have nd := S.nodup
  rw [List.map_append] at nd
  have nd1 : (mem.map (·.1)).Nodup := (List.nodup_append.mp nd).1
  have nd2 : (L.map (·.1)).Nodup := (List.nodup_append.mp nd).2.1
  have nd3 : ∀ a ∈ mem.map (·.1), ∀ b ∈ L.map (·.1), a ≠ b := (List.nodup_append.mp nd).2.2
  have R0 : Rep (K.V W s.heap.objs.size s.toks s.gens.size specs) (mem.map (·.1)) (gm.map (·.1)) mem 0 0 gm 0 K.s₀ s :=
    ⟨rfl, rfl, rfl, fun x hx => S.own x (List.mem_append_left _ hx), nd1, fun x hx => S.src x (List.mem_append_left _ hx), S.gown, S.gnodup, S.keep, S.drawn, S.os,
      fun x hx => .inl (List.mem_map_of_mem hx), fun g h1 h2 => absurd h2 (Nat.not_lt.mpr h1), fun _ h => h⟩
  obtain ⟨s', C, R, F⟩ := run_sound (V := K.V W s.heap.objs.size s.toks s.gens.size specs) (w := K.w) (rest := rest) (A := mem.map (·.1)) (GA := gm.map (·.1)) (s₀ := K.s₀) hK.P S.low hK.kt hspec hr hsf n t c p fs mem 0 0 gm 0 hs [] s R0 (holds_of_map h7)
  rw [h1, h2, h3, h4] at C
  refine ⟨s', C, ?_, F.size⟩
  rw [← h5, ← h6]
  have hL : ∀ x ∈ L, x.1 < s.heap.objs.size := fun x hx => Heap.lt_size (S.own x (List.mem_append_right _ hx))
  refine ⟨fun x hx => ?_, ?_, fun x hx => ?_, fun x hx => R.gown x (live_mem hx), live_nodup R.gnodup, fun g st e => ?_, R.keep, R.drawn, R.os, Nat.le_trans S.low F.size⟩
  · rcases List.mem_append.mp hx with q | q
    · obtain ⟨i, _, e⟩ := pick_mem q
      exact R.get e
    · exact F.keep _ _ (S.own x (List.mem_append_right _ q)) fun hm => nd3 _ hm _ (List.mem_map_of_mem q) rfl
  · rw [List.map_append]
    refine List.nodup_append.mpr ⟨pick_nodup R.nodup hidx, nd2, fun a ha b hb e => ?_⟩
    obtain ⟨x, hx, ex⟩ := List.mem_map.mp ha
    obtain ⟨y, hy, ey⟩ := List.mem_map.mp hb
    obtain ⟨i, _, ei⟩ := pick_mem hx
    rcases R.org x (memGet_mem ei) with q | q
    · exact nd3 x.1 q y.1 (List.mem_map_of_mem hy) (by rw [ex, e, ey])
    · have := hL y hy
      rw [ey, ← e, ← ex] at this
      exact Nat.lt_irrefl _ (Nat.lt_of_lt_of_le this q)
  · rcases List.mem_append.mp hx with q | q
    · obtain ⟨i, _, e⟩ := pick_mem q
      exact R.src x (memGet_mem e)
    · exact S.src x (List.mem_append_right _ q)
  · have hlt : g < s'.gens.size := (Array.getElem?_eq_some_iff.mp e).1
    have inGm : (∃ x ∈ (run (K.V W s.heap.objs.size s.toks s.gens.size specs) n t c p fs mem 0 0 gm 0 hs []).gm, x.1 = g) → (∃ x ∈ live (run (K.V W s.heap.objs.size s.toks s.gens.size specs) n t c p fs mem 0 0 gm 0 hs []).gm, x.1 = g) ∨ st = .finished := by
      rintro ⟨x, hx, rfl⟩
      rcases live_or hx with q | q
      · exact .inl ⟨x, q, rfl⟩
      · have := R.gown x hx
        rw [e] at this
        exact .inr ((Option.some.inj this).trans q)
    by_cases hg : s.gens.size ≤ g
    · exact inGm (R.gnew g hg hlt)
    · have hg' : g < s.gens.size := Nat.lt_of_not_le hg
      by_cases hm : g ∈ gm.map (·.1)
      · exact inGm (List.mem_map.mp (R.gids g hm))
      · have e1 : s.gens[g]? = some s.gens[g] := Array.getElem?_eq_getElem hg'
        have e2 := F.gkeep g _ e1 hm
        rw [e] at e2
        cases Option.some.inj e2
        rcases S.gfin g _ e1 with ⟨x, hx, rfl⟩ | q
        · exact absurd (List.mem_map_of_mem hx) hm
        · exact .inr q
end Mine
end

section
set_option maxRecDepth 100000
namespace Mine
open PySem PySem.W PySem.W.X
inductive VD where
  | none | bool (b : Bool) | int (i : Int) | str (s : Str) | ref (a : Addr) | typ (n : String) | blt (n : String) | raw (v : Value)
noncomputable def VD.val : VD → Tok → Value
  | .none, _ => .none
  | .bool b, _ => .bool b
  | .int i, t => .int i t
  | .str s, t => .str s t
  | .ref a, _ => .ref a
  | .typ n, _ => .type n
  | .blt n, _ => .builtin n
  | .raw v, _ => v
noncomputable def tokOf : Value → Tok
  | .int _ t => t
  | .str _ t => t
  | .float _ t => t
  | .bytes _ t => t
  | _ => 0
noncomputable def hE (P : Params) (k : List Nat) : Int := if (Str.mk ⟨k⟩).cps.isEmpty then 0 else reduceHash (P.strHash ⟨k⟩)

noncomputable def ents (P : Params) (τ : Nat → Tok) : Nat → List (List Nat × VD) → List DictEntry
  | _, [] => []
  | i, x :: r => ⟨hE P x.1, .str ⟨⟨x.1⟩⟩ (τ (2 * i)), x.2.val (τ (2 * i + 1))⟩ :: ents P τ (i + 1) r
noncomputable def vals (τ : Nat → Tok) : Nat → List VD → List Value
  | _, [] => []
  | i, x :: r => x.val (τ i) :: vals τ (i + 1) r
noncomputable def ovals (τ : Nat → Tok) : Nat → List (Option VD) → List (Option Value)
  | _, [] => []
  | i, x :: r => (match x with | some v => some (v.val (τ i)) | none => none) :: ovals τ (i + 1) r

inductive OD where
  | dict (cls : String) (kvs : List (List Nat × VD))
  | seq (cls : String) (vs : List VD)
  | arr (cls : String) (xs : Array Value)
  | fields (cls : String) (vs : List VD)
  | inst (c d : Addr)
  | slotted (c : Addr) (vs : List (Option VD))
  | both (c d : Addr) (vs : List (Option VD))
  | cell (v : Option VD)
  | tab (vs : List VD)
  | raw (o : Obj)
noncomputable def OD.obj (P : Params) (τ : Nat → Tok) (n : Nat) : OD → Obj
  | .dict c kvs => ⟨.type c, none, .dict ⟨ents P τ 0 kvs⟩ n, #[]⟩
  | .seq c vs => ⟨.type c, none, .seq ⟨vals τ 0 vs⟩ n, #[]⟩
  | .arr c xs => ⟨.type c, none, .seq xs n, #[]⟩
  | .fields c vs => ⟨.type c, none, .fields ⟨vals τ 0 vs⟩, #[]⟩
  | .inst c d => ⟨.ref c, some d, .plain, #[]⟩
  | .slotted c vs => ⟨.ref c, none, .plain, ⟨ovals τ 0 vs⟩⟩
  | .both c d vs => ⟨.ref c, some d, .plain, ⟨ovals τ 0 vs⟩⟩
  | .cell v => ⟨.type PySem.W.SZ.s15660640913423913556x4, none, .cell (match v with | some v => some (v.val (τ 0)) | none => none), #[]⟩
  | .tab vs => ⟨.none, none, .fields ⟨vals τ 0 vs⟩, #[]⟩
  | .raw o => o
noncomputable def nthV : List Value → Nat → Tok
  | [], _ => 0
  | x :: r, n => match n with
    | 0 => tokOf x
    | n + 1 => nthV r n
noncomputable def nthO : List (Option Value) → Nat → Tok
  | [], _ => 0
  | x :: r, n => match n with
    | 0 => (match x with | some v => tokOf v | none => 0)
    | n + 1 => nthO r n
noncomputable def nthE : List DictEntry → Nat → Tok
  | [], _ => 0
  | x :: r, n => match n with
    | 0 => tokOf x.key
    | 1 => tokOf x.val
    | n + 2 => nthE r n
noncomputable def toksOf (o : Obj) : Nat → Tok := fun i => match o.data with
  | .dict es _ => nthE es.toList i
  | .seq xs _ => nthV xs.toList i
  | .fields xs => nthV xs.toList i
  | .cell v => (match v with | some v => tokOf v | none => 0)
  | _ => nthO o.slots.toList i
noncomputable def cntOf (o : Obj) : Nat := match o.data with
  | .dict _ n => n
  | .seq _ n => n
  | _ => 0
abbrev DM := List (Addr × OD)
noncomputable def memOf (P : Params) (τ : Nat → Nat → Tok) (ν : Nat → Nat) : Nat → DM → Mem
  | _, [] => []
  | i, x :: r => (x.1, x.2.obj P (τ i) (ν i)) :: memOf P τ ν (i + 1) r
noncomputable def renorm (P : Params) : DM → Mem → Mem
  | [], _ => []
  | x :: r, m => match m with
    | [] => [(x.1, x.2.obj P (fun _ => 0) 0)]
    | y :: m => (x.1, x.2.obj P (toksOf y.2) (cntOf y.2)) :: renorm P r m

inductive Fits (P : Params) : DM → Mem → Prop
  | nil : Fits P [] []
  | cons {a : Addr} {d : OD} {r : DM} {m : Mem} (τ : Nat → Tok) (n : Nat) : Fits P r m → Fits P ((a, d) :: r) ((a, d.obj P τ n) :: m)
theorem Fits.append {P : Params} {a b : DM} {x y : Mem} (h : Fits P a x) (k : Fits P b y) : Fits P (a ++ b) (x ++ y) := by
  induction h with
  | nil => exact k
  | cons τ n _ ih => exact .cons τ n ih
theorem Fits.split {P : Params} : ∀ {a b : DM} {m : Mem}, Fits P (a ++ b) m → ∃ x y, m = x ++ y ∧ Fits P a x ∧ Fits P b y
  | [], _, m, h => ⟨[], m, rfl, .nil, h⟩
  | _ :: a, b, _, .cons τ n h => by
    obtain ⟨x, y, rfl, h1, h2⟩ := Fits.split h
    exact ⟨_ :: x, y, rfl, .cons τ n h1, h2⟩
theorem Fits.memOf {P : Params} {d : DM} {m : Mem} (h : Fits P d m) : ∀ i, ∃ τ ν, m = memOf P τ ν i d := by
  induction h with
  | nil => exact fun i => ⟨fun _ _ => 0, fun _ => 0, rfl⟩
  | cons τ n _ ih =>
    intro i
    obtain ⟨τ', ν', rfl⟩ := ih (i + 1)
    refine ⟨fun j => if j = i then τ else τ' j, fun j => if j = i then n else ν' j, ?_⟩
    have key : ∀ (d : DM) (k : Nat), i < k → Mine.memOf P τ' ν' k d = Mine.memOf P (fun j => if j = i then τ else τ' j) (fun j => if j = i then n else ν' j) k d := by
      intro d
      induction d with
      | nil => intro _ _; rfl
      | cons x r ih2 =>
        intro k hk
        have hne : k ≠ i := Nat.ne_of_gt hk
        simp only [Mine.memOf, if_neg hne]
        rw [ih2 (k + 1) (Nat.lt_succ_of_lt hk)]
    simp only [Mine.memOf, if_true]
    rw [key _ (i + 1) (Nat.lt_succ_self i)]
theorem Fits.renorm {P : Params} (d : DM) : ∀ {m : Mem}, m = Mine.renorm P d m → Fits P d m := by
  induction d with
  | nil => intro m h; rw [h]; exact .nil
  | cons x r ih =>
    intro m h
    cases m with
    | nil => cases h
    | cons y m =>
      have h' : y :: m = (x.1, x.2.obj P (toksOf y.2) (cntOf y.2)) :: Mine.renorm P r m := h
      injection h' with h1 h2
      rw [h1]
      exact .cons _ _ (ih h2)

noncomputable def StD (K : Top) (d : DM) (gm : GMem) (s : Shared) : Prop := ∃ mem, Fits K.w.params d mem ∧ St K mem gm s

noncomputable def EndsD (P : Params) (o : Out) (idx : List Nat) (t : Sem Fin) (c : Code) (p : Pos) (fs : List Frame) (d : DM) (gm : GMem) : Prop :=
  (o.t, o.c, o.p, o.fs, pick idx o.mem, live o.gm, o.eqs) = (t, c, p, fs, renorm P d (pick idx o.mem), gm, o.eqs.map Ob.diag)

theorem useD {K : Top} (hK : K.Ok) {W : List (Code × Pos)} {specs : List Spec} (hspec : ∀ S ∈ specs, SpecOK (model K.prog K.w) S) (hsf : ∀ S ∈ specs, (∀ x ∈ S.post, x.2.2.isFreed = false) ∧ ∀ b, ∀ o ∈ S.new b, o.isFreed = false)
    {n : Nat} {t : Sem Fin} {c : Code} {p : Pos} {fs : List Frame} {d : DM} {gm : GMem} {hs : List Hint} {idx : List Nat} (hidx : idx.Nodup)
    {t' : Nat → Nat → Nat → Sem Fin} {c' : Nat → Nat → Nat → Code} {p' : Nat → Nat → Nat → Pos} {fs' : Nat → Nat → Nat → List Frame} {d' : Nat → Nat → Nat → DM} {gm' : Nat → Nat → Nat → GMem}
    {L : DM} {s : Shared} (S : StD K (d ++ L) gm s)
    (hrun : ∀ τ ν N T G, EndsD K.w.params (run (K.V W N T G specs) n t c p fs (memOf K.w.params τ ν 0 d) 0 0 gm 0 hs []) idx (t' N T G) (c' N T G) (p' N T G) (fs' N T G) (d' N T G) (gm' N T G)) {rest : List Frame} (hr : RestOK W rest) :
    ∃ s', Comes (model K.prog K.w) s ⟨t, c, p, fs ++ rest⟩ s' ⟨t' s.heap.objs.size s.toks s.gens.size, c' s.heap.objs.size s.toks s.gens.size, p' s.heap.objs.size s.toks s.gens.size, fs' s.heap.objs.size s.toks s.gens.size ++ rest⟩ ∧
      StD K (d' s.heap.objs.size s.toks s.gens.size ++ L) (gm' s.heap.objs.size s.toks s.gens.size) s' ∧ s.heap.objs.size ≤ s'.heap.objs.size := by
  obtain ⟨mem, F, S⟩ := S
  obtain ⟨x, y, rfl, F1, F2⟩ := F.split
  obtain ⟨τ, ν, rfl⟩ := F1.memOf 0
  obtain ⟨s', C, S', hs⟩ := use (mem' := fun N T G => pick idx (run (K.V W N T G specs) n t c p fs (memOf K.w.params τ ν 0 d) 0 0 gm 0 hs []).mem) hK hspec hsf hidx (t' := t') (c' := c') (p' := p') (fs' := fs') (gm' := gm') (fun N T G => by
    have h := hrun τ ν N T G
    unfold EndsD at h
    unfold Ends
    simp only [Prod.mk.injEq] at h ⊢
    exact ⟨h.1, h.2.1, h.2.2.1, h.2.2.2.1, rfl, h.2.2.2.2.2.1, h.2.2.2.2.2.2⟩) S hr
  refine ⟨s', C, ⟨_, Fits.append ?_ F2, S'⟩, hs⟩
  have e := hrun τ ν s.heap.objs.size s.toks s.gens.size
  unfold EndsD at e
  simp only [Prod.mk.injEq] at e
  exact Fits.renorm _ e.2.2.2.2.1
end Mine
end

section
set_option maxRecDepth 100000
namespace Mine
open PySem PySem.W PySem.W.X
noncomputable def c_dict : String := PySem.W.SZ.s14018661285674007319x4
noncomputable def c_frame : String := PySem.W.SZ.s658472552662922059x5
noncomputable def c_list : String := PySem.W.SZ.s9222952809800978799x4
noncomputable def c_tuple : String := PySem.W.SZ.s2766695959194262286x5
noncomputable def c_str : String := PySem.W.SZ.s10796804682411823810x3
noncomputable def c_fun : String := PySem.W.SZ.s7174869446012820540x8
noncomputable def c_gen : String := PySem.W.SZ.s7929333955151719606x9
noncomputable def c_tupit : String := PySem.W.SZ.s4096838299382398694x14
noncomputable def c_enum : String := PySem.W.SZ.s14340494229221121180x9
noncomputable def c_slice : String := PySem.W.SZ.s4674234679698826739x5
noncomputable def c_stop : String := PySem.W.SZ.s5991306692159431302x13
noncomputable def c_int : String := PySem.W.SZ.s7066276694103001551x3
noncomputable def c_range : String := PySem.W.SZ.s1438033511350832697x5
noncomputable def c_rangeit : String := PySem.W.SZ.s15992201931430999065x14
noncomputable def c_listit : String := PySem.W.SZ.s3492446563574874994x13
noncomputable def c_code : String := PySem.W.SZ.s5856160107412720595x4
noncomputable def c_cell : String := PySem.W.SZ.s15660640913423913556x4
noncomputable def b_next : String := PySem.W.SZ.s3213454002840115300x22
noncomputable def b_gnext : String := PySem.W.SZ.s15367754806057639460x18
noncomputable def b_caller : String := PySem.W.SZ.s11611643536802374852x12
noncomputable def fnOf (o : Obj) : FuncData := match o.data with | .func f => f | _ => default
noncomputable def stmtsOf (f : FuncData) : List Stmt := match f.body with | .stmts b => b | _ => []
noncomputable def envF (f : FuncData) (a L : Addr) (cells : List (Str × Addr)) : Env := { scope := f.scope, locals := L, globals := 3, cells := cells, qual := f.qualname ++ (Str.mk ⟨[46, 60, 108, 111, 99, 97, 108, 115, 62, 46]⟩), func := some a, code := f.code, frame := some L, builtins := 0 }
noncomputable def whileOf (l : List Stmt) (e : Env) : Code := match l with | .While t b o _ :: _ => .whileLoop t b o e | _ => .builtin "" {}
noncomputable def callB (id : String) (vs : List Value) : Code := .call (.builtin id) ⟨vs, []⟩
noncomputable def itO (l : Addr) (k : Int) : Obj := ⟨.type c_listit, none, .fields ⟨[.ref l, .int k 0]⟩, #[]⟩
noncomputable def listO (xs : Array Value) (n : Nat) : Obj := ⟨.type c_list, none, .seq xs n, #[]⟩
noncomputable def afterPt (t : Sem Fin) : Sem Fin := match t with | .point _ k => k () | _ => t
noncomputable def tailT (l : List Stmt) (e : Env) : Sem Fin := afterPt (denF (.func l e))
noncomputable def spV (c : Code) (v : VD) (dt : Nat) : Spec := ⟨c, [], [], fun t _ => .ok (.ret (v.val t)), dt, fun _ => [], false⟩
noncomputable def spNext (it l : Addr) (i j : Nat) (xs : Array Value) (n : Nat) (k : Int) (v : Value) : Spec := ⟨callB b_next [.ref it], [(i, it, itO l k), (j, l, listO xs n)], [(i, it, itO l (k + 1))], fun _ _ => .ok (.ret v), 0, fun _ => [], false⟩
noncomputable def spPush (l : Addr) (i : Nat) (xs : Array Value) (n : Nat) (v : Value) : Spec := ⟨callB "list.append" [.ref l, v], [(i, l, listO xs n)], [(i, l, listO (xs.push v) (n + 1))], fun _ _ => .ok (.ret .none), 0, fun _ => [], false⟩
noncomputable def stopO (b : Nat) : List Obj := [⟨.type c_tuple, none, .seq #[] 0, #[]⟩, ⟨.type c_stop, none, .fields #[.ref b, .none, .none, .none, .bool false, .none], #[]⟩]
noncomputable def itD (k : Int) : Obj := ⟨.type c_listit, none, .fields ⟨[.none, .int k 0]⟩, #[]⟩
noncomputable def spEnd (it l : Addr) (i j : Nat) (xs : Array Value) (n : Nat) (k : Int) : Spec := ⟨callB b_next [.ref it], [(i, it, itO l k), (j, l, listO xs n)], [(i, it, itD k)], fun _ b => .error (.ref (b + 1)), 0, stopO, true⟩
noncomputable def isS (x : Str) : Value → Bool
  | .str z _ => z.cps.toList == x.cps.toList
  | _ => false
def HasS (xs : Array Value) (x : Str) (b : Bool) : Prop := (∀ y ∈ xs, ∃ z t, y = .str z t) ∧ xs.any (isS x) = b
noncomputable def spHas (l : Addr) (j : Nat) (xs : Array Value) (n : Nat) (v : Value) (b : Bool) : Spec := ⟨callB "list.__contains__" [.ref l, v], [(j, l, listO xs n)], [], fun _ _ => .ok (.ret (.bool b)), 0, fun _ => [], false⟩
noncomputable def spPop (l : Addr) (j : Nat) (xs : Array Value) (n : Nat) (v : Value) (t : Tok) : Spec := ⟨callB "list.pop" [.ref l, .int (-1) t], [(j, l, listO (xs.push v) n)], [(j, l, listO xs (n + 1))], fun _ _ => .ok (.ret v), 0, fun _ => [], false⟩
noncomputable def clr (xs : Array Value) (n : Nat) : Nat := if (#[] : Array Value).size == xs.size then n else n + 1
noncomputable def spClear (l : Addr) (j : Nat) (xs : Array Value) (n : Nat) : Spec := ⟨callB "list.clear" [.ref l], [(j, l, listO xs n)], [(j, l, listO #[] (clr xs n))], fun _ _ => .ok (.ret .none), 0, fun _ => [], false⟩
def ItemAt (xs : Array Value) (i : Int) (v : Value) : Prop := 0 ≤ i ∧ i < 2 ^ 63 ∧ xs[i.toNat]? = some v
noncomputable def spItem (l : Addr) (j : Nat) (xs : Array Value) (n : Nat) (i : Int) (t : Tok) (v : Value) : Spec := ⟨callB "list.__getitem__" [.ref l, .int i t], [(j, l, listO xs n)], [], fun _ _ => .ok (.ret v), 0, fun _ => [], false⟩
def CharAt (x : Str) (i : Int) (c : Nat) : Prop := 0 ≤ i ∧ i < 2 ^ 63 ∧ x.cps[i.toNat]? = some c
noncomputable def rangeO (a : Int) (t : Tok) (b : Int) (u : Tok) (v : Tok) : Obj := ⟨.type c_range, none, .fields ⟨[.int a t, .int b u, .int 1 v]⟩, #[]⟩
noncomputable def ritO (x left : Int) : Obj := ⟨.type c_rangeit, none, .fields ⟨[.int x 0, .int left 0, .int 1 0]⟩, #[]⟩
noncomputable def spRIter (r : Addr) (j : Nat) (a : Int) (t : Tok) (b : Int) (u v : Tok) : Spec := ⟨callB "range.__iter__" [.ref r], [(j, r, rangeO a t b u v)], [], fun _ n => .ok (.ret (.ref n)), 0, fun _ => [ritO a (b - a)], false⟩
noncomputable def spRNext (it : Addr) (j : Nat) (x left : Int) : Spec := ⟨callB "range_iterator.__next__" [.ref it], [(j, it, ritO x left)], [(j, it, ritO (x + 1) (left - 1))], fun t _ => .ok (.ret (.int x t)), 1, fun _ => [], false⟩
noncomputable def spLAdd (l b : Addr) (i j : Nat) (xs : Array Value) (n : Nat) (ys : Array Value) (m : Nat) : Spec := ⟨callB "list.__add__" [.ref l, .ref b], [(i, l, listO xs n), (j, b, listO ys m)], [], fun _ n => .ok (.ret (.ref n)), 0, fun _ => [listO (xs ++ ys) 0], false⟩
end Mine
end

section
set_option maxRecDepth 100000
namespace Mine
open PySem PySem.W PySem.W.X

structure Eff (S : Spec) (s s' : Shared) : Prop where
  heap : ∃ h₁ : Heap, (h₁.objs.size = s.heap.objs.size ∧ ∀ b, h₁.get? b = lastOf b S.post (s.heap.get? b)) ∧ s'.heap = pushAll h₁ (S.new s.heap.objs.size)
  toks : s'.toks = s.toks + S.dt
  gens : s'.gens = s.gens
  drawn : s'.drawn = s.drawn
  os : s'.os = s.os

theorem spec_of_any {prog : Program} {w : World} {S : Spec} (h : ∀ (A : Around) (s : Shared) (R : Result → Shared → Prop), (∀ x ∈ S.pre, s.heap.get? x.2.1 = some x.2.2) →
    (S.calm = true → A.handled = none) → (∀ s', Eff S s s' → R (S.res s.toks s.heap.objs.size) s') →
    codeAny (model prog w) A S.code R s) : SpecOK (model prog w) S := by
  intro s p k hd g l c st hpre hcalm
  let base : List Frame := .ret k hd g l c p [] :: st
  let Γ : Ctx := Ctx.of S.code base
  let A : Around := ⟨Γ.handled, frameCount Γ.below, none, none, unitsOf Γ.below⟩
  have hb : Γ.Below A := ⟨rfl, Nat.le_refl _, (fun _ h => by cases h), (fun _ h => by cases h), Nat.le_refl _⟩
  have hw := h A s (fun r s' => r = S.res s.toks s.heap.objs.size ∧ Eff S s s') hpre hcalm (fun s' e => ⟨rfl, e⟩) Γ p rfl hb
  have hw' := (wpCode_iff_wp ..).mp hw
  obtain ⟨n, r, s', c', p', hn, hr, hx⟩ := wp_runN (base := base) (c := S.code) hw'
  subst hr
  refine ⟨s', ⟨n + 1, ?_⟩, hx.heap, hx.toks, hx.gens, hx.drawn, hx.os⟩
  have := runN_snoc hn
  rw [step_leaf_ret] at this
  exact this

variable {prog : Program} {w : World}
abbrev Chk (id : String) (vs : List Value) (pre : Shared → Prop) : Prop := ∀ (M : Model) (A : Around) (E : Value → Shared → Prop) (s : Shared) (Q : Unit → Shared → Prop), pre s → Q () s → wpAny M A (checkBuiltinCall id ⟨vs, []⟩) Q E s
theorem chk_slot {T : String} {name : Str} {id : String} (slot : Slot T name id) {self : Value} {rest : List Value} (args : argsOk id ⟨self :: rest, []⟩) {pre : Shared → Prop} (hT : ∀ s, pre s → s.TypeIs self T) : Chk id (self :: rest) pre :=
  fun _ _ _ s _ hp h => slot.check _ _ _ _ _ _ _ _ (hT s hp) args h

theorem sok_meets {id : String} {B : Builtin} {vs : List Value} {T : PySem.Spec} (g : Meets (B ⟨vs, []⟩) T) (plain : plainId id = true) (entry : entryFor table id = some B) {S : Spec} (hc : S.code = callB id vs)
    (chk : Chk id vs fun s => ∀ x ∈ S.pre, s.heap.get? x.2.1 = some x.2.2)
    (hT : ∀ (A : Around) (R : Result → Shared → Prop) (s : Shared), (∀ x ∈ S.pre, s.heap.get? x.2.1 = some x.2.2) → (S.calm = true → A.handled = none) → (∀ s', Eff S s s' → R (S.res s.toks s.heap.objs.size) s') → T A R s) : SpecOK (model prog w) S :=
  spec_of_any fun A s R hp hcl hR => by
    rw [hc]
    exact codeAny_call_builtin plain entry (chk _ _ _ _ _ hp (g prog w A R s (hT A R s hp hcl hR)))

theorem sok_gives {id : String} {B : Builtin} {vs : List Value} {m : Made} (g : Gives (B ⟨vs, []⟩) m) (plain : plainId id = true) (entry : entryFor table id = some B)
    (chk : Chk id vs fun _ => True) {v : VD} {dt : Nat} (hm : ∀ (Q : Value → Shared → Prop) (s : Shared), Q (v.val s.toks) { s with toks := s.toks + dt } → m.post Q s) : SpecOK (model prog w) (spV (callB id vs) v dt) :=
  sok_meets (S := spV (callB id vs) v dt) g.meets plain entry rfl (fun _ _ _ _ _ _ h => chk _ _ _ _ _ trivial h) fun _ _ _ _ _ hR => hm _ _ (hR _ ⟨⟨_, ⟨rfl, fun _ => rfl⟩, rfl⟩, rfl, rfl, rfl, rfl⟩)
theorem sok_int {id : String} {B : Builtin} {vs : List Value} {i : Int} (g : Gives (B ⟨vs, []⟩) (.int i)) (plain : plainId id = true) (entry : entryFor table id = some B) (chk : Chk id vs fun _ => True) : SpecOK (model prog w) (spV (callB id vs) (.int i) 1) :=
  sok_gives g plain entry chk fun _ _ h => h
theorem sok_bool {id : String} {B : Builtin} {vs : List Value} {b : Bool} (g : Gives (B ⟨vs, []⟩) (.val (.bool b))) (plain : plainId id = true) (entry : entryFor table id = some B) (chk : Chk id vs fun _ => True) : SpecOK (model prog w) (spV (callB id vs) (.bool b) 0) :=
  sok_gives g plain entry chk fun _ _ h => h
theorem sok_str {id : String} {B : Builtin} {vs : List Value} {x : Str} (g : Gives (B ⟨vs, []⟩) (.str x)) (hx : x.length ≤ sizeLine) (plain : plainId id = true) (entry : entryFor table id = some B) (chk : Chk id vs fun _ => True) : SpecOK (model prog w) (spV (callB id vs) (.str x) 1) :=
  sok_gives g plain entry chk fun _ _ h => ⟨hx, h⟩

theorem ty_int (s : Shared) (i : Int) (t : Tok) : s.TypeIs (.int i t) "int" := rfl
theorem ty_str (s : Shared) (i : Str) (t : Tok) : s.TypeIs (.str i t) "str" := rfl
noncomputable abbrev II (id : String) (a : Int) (t : Tok) (b : Int) (u : Tok) : Code := callB id [.int a t, .int b u]
noncomputable abbrev SS (id : String) (a : Str) (t : Tok) (b : Str) (u : Tok) : Code := callB id [.str a t, .str b u]
section
variable (a : Int) (t : Tok) (b : Int) (u : Tok)
theorem sok_mod (hb : b ≠ 0) : SpecOK (model prog w) (spV (II "int.__mod__" a t b u) (.int (a.fmod b)) 1) :=
  sok_int (AutoIntG6.int___mod___int_int_1 a t b u (by simpa using hb)) F.slot_int_mod.plain F.entry_int_mod (chk_slot F.slot_int_mod (F.args_int_mod_2 _ _) fun s _ => ty_int s a t)
theorem sok_div (hb : b ≠ 0) (hp : Builtin.divisionGoesByPylong a b = false) : SpecOK (model prog w) (spV (II "int.__floordiv__" a t b u) (.int (a.fdiv b)) 1) :=
  sok_int (AutoIntG4.int___floordiv___int_int_1 a t b u (by simpa using hb) (by simp [hp])) F.slot_int_floordiv.plain F.entry_int_floordiv (chk_slot F.slot_int_floordiv (F.args_int_floordiv_2 _ _) fun s _ => ty_int s a t)
theorem sok_add : SpecOK (model prog w) (spV (II "int.__add__" a t b u) (.int (a + b)) 1) :=
  sok_int (gives_int_add a b t u) F.slot_int_add.plain F.entry_int_add (chk_slot F.slot_int_add (F.args_int_add_2 _ _) fun s _ => ty_int s a t)
theorem sok_sub : SpecOK (model prog w) (spV (II "int.__sub__" a t b u) (.int (a - b)) 1) :=
  sok_int (gives_int_sub a b t u) F.slot_int_sub.plain F.entry_int_sub (chk_slot F.slot_int_sub (F.args_int_sub_2 _ _) fun s _ => ty_int s a t)
theorem sok_mul (hm : IntMulOk a b) : SpecOK (model prog w) (spV (II "int.__mul__" a t b u) (.int (a * b)) 1) :=
  sok_int (gives_int_mul a b t u hm) F.slot_int_mul.plain F.entry_int_mul (chk_slot F.slot_int_mul (F.args_int_mul_2 _ _) fun s _ => ty_int s a t)
theorem sok_xor : SpecOK (model prog w) (spV (II "int.__xor__" a t b u) (.int (Builtin.bitXor a b)) 1) :=
  sok_int (.of_eq rfl) F.slot_int_xor.plain F.entry_int_xor (chk_slot F.slot_int_xor (F.args_int_xor_2 _ _) fun s _ => ty_int s a t)
theorem sok_neg : SpecOK (model prog w) (spV (callB "int.__neg__" [.int a t]) (.int (-a)) 1) :=
  sok_int (gives_int_neg a t) F.slot_int_neg.plain F.entry_int_neg (chk_slot F.slot_int_neg (F.args_int_neg_1 _) fun s _ => ty_int s a t)
theorem sok_eq : SpecOK (model prog w) (spV (II "int.__eq__" a t b u) (.bool (a == b)) 0) :=
  sok_bool (gives_int_eq a b t u) F.slot_int_eq.plain F.entry_int_eq (chk_slot F.slot_int_eq (F.args_int_eq_2 _ _) fun s _ => ty_int s a t)
theorem sok_lt : SpecOK (model prog w) (spV (II "int.__lt__" a t b u) (.bool (decide (a < b))) 0) :=
  sok_bool (gives_int_lt a b t u) F.slot_int_lt.plain F.entry_int_lt (chk_slot F.slot_int_lt (F.args_int_lt_2 _ _) fun s _ => ty_int s a t)
theorem sok_gt : SpecOK (model prog w) (spV (II "int.__gt__" a t b u) (.bool (decide (a > b))) 0) :=
  sok_bool (gives_int_gt a b t u) F.slot_int_gt.plain F.entry_int_gt (chk_slot F.slot_int_gt (F.args_int_gt_2 _ _) fun s _ => ty_int s a t)
end
section
variable (x : Str) (t : Tok) (y : Str) (u : Tok)
theorem sok_scontains : SpecOK (model prog w) (spV (SS "str.__contains__" x t y u) (.bool !(Builtin.Str.occurrences x y 0 x.length 1).isEmpty) 0) :=
  sok_bool (gives_str_contains x y t u) F.slot_str_contains.plain F.entry_str_contains (chk_slot F.slot_str_contains (F.args_str_contains_2 _ _) fun s _ => ty_str s x t)
theorem sok_seq : SpecOK (model prog w) (spV (SS "str.__eq__" x t y u) (.bool (x.cps.toList == y.cps.toList)) 0) :=
  sok_bool (gives_str_eq x y t u) F.slot_str_eq.plain F.entry_str_eq (chk_slot F.slot_str_eq (F.args_str_eq_2 _ _) fun s _ => ty_str s x t)
end
theorem lastOf_one (i : Nat) (a b : Addr) (o : Obj) (d : Option Obj) : lastOf b [(i, a, o)] d = if a = b then some o else d := rfl
theorem heap_upd {s : Shared} {i : Nat} {l : Addr} {o o' : Obj} {f : Obj → Obj} (hl : s.heap.get? l = some o) (hf : f o = o') (hfr : o'.isFreed = false) :
    (s.heap.update l f).objs.size = s.heap.objs.size ∧ ∀ b, (s.heap.update l f).get? b = lastOf b [(i, l, o')] (s.heap.get? b) := by
  have hs : Heap.SameBut l s.heap (s.heap.update l f) := Heap.SameBut.update ..
  refine ⟨hs.1, fun b => ?_⟩
  rw [lastOf_one]
  by_cases e : l = b
  · rw [if_pos e, ← e, ← hf]; exact Heap.get?_update_self f hl (by rw [hf]; exact hfr)
  · rw [if_neg e]; exact hs.2 b (fun q => e q.symm)
theorem eff_upd {S : Spec} {s : Shared} {i : Nat} {l : Addr} {o o' : Obj} {f : Obj → Obj} (hp : S.post = [(i, l, o')]) (hn : S.new = fun _ => []) (hd : S.dt = 0) (hl : s.heap.get? l = some o) (hf : f o = o') (hfr : o'.isFreed = false) : Eff S s { s with heap := s.heap.update l f, toks := s.toks } := by
  have hs : Heap.SameBut l s.heap (s.heap.update l f) := Heap.SameBut.update ..
  refine ⟨⟨s.heap.update l f, ⟨hs.1, fun b => ?_⟩, by rw [hn]; rfl⟩, by rw [hd]; rfl, rfl, rfl, rfl⟩
  rw [hp, lastOf_one]
  by_cases e : l = b
  · rw [if_pos e, ← e, ← hf]; exact Heap.get?_update_self f hl (by rw [hf]; exact hfr)
  · rw [if_neg e]; exact hs.2 b (fun q => e q.symm)
theorem ty_list {s : Shared} {l : Addr} {xs : Array Value} {n : Nat} (h : s.heap.get? l = some (listO xs n)) : s.TypeIs (.ref l) "list" := ⟨_, h, rfl⟩
theorem sok_push (l : Addr) (i : Nat) (xs : Array Value) (n : Nat) (v : Value) (hx : xs.size ≤ sizeLine) : SpecOK (model prog w) (spPush l i xs n v) :=
  sok_meets (AutoListH.list_append_list_val_0 l xs n v hx) F.slot_list_append.plain F.entry_list_append rfl (chk_slot F.slot_list_append (F.args_list_append_2 _ _) fun s hp => ty_list (hp _ (List.mem_cons_self ..)))
    fun A R s hp _ hR => ⟨hp _ (List.mem_cons_self ..), hR _ (eff_upd rfl rfl rfl (hp _ (List.mem_cons_self ..)) (by
      show Obj.mapSeq _ (listO xs n) = listO (xs.push v) (n + 1)
      have hne : ((xs.push v).size == xs.size) = false := by rw [Array.size_push]; simp
      simp [Obj.mapSeq, listO]) rfl)⟩
end Mine
end

section
set_option maxRecDepth 100000
namespace Mine
open PySem PySem.W PySem.W.X
variable {prog : Program} {w : World}
theorem ty_it {s : Shared} {l : Addr} {a : Addr} {k : Int} (h : s.heap.get? l = some (itO a k)) : s.TypeIs (.ref l) "list_iterator" := ⟨_, h, rfl⟩
theorem entry_next : entryFor table "list_iterator.__next__" = some Builtin.«list_iterator.__next__» := entry_listiter_next
theorem meets_next (it l : Addr) (xs : Array Value) (n : Nat) (k : Nat) (v : Value) (hv : xs[k]? = some v) :
    Meets (Builtin.«list_iterator.__next__» ⟨[.ref it], []⟩) (fun _ R s => s.heap.get? it = some (itO l k) ∧ s.heap.get? l = some (listO xs n) ∧ R (.ok (.ret v)) { s with heap := s.heap.update it (Obj.mapFields fun x => x.set! 1 (rawInt (k + 1))) }) := by
  intro prog w A R s ⟨ho, hl, h⟩
  have hd : (itO l k).data = .fields #[.ref l, .int k 0] := rfl
  show wpAny _ _ (field (.ref it) 0 >>= _) _ _ s
  refine wpAny_bind (wpAny_field ho hd (x := .ref l) rfl ?_)
  show wpAny _ _ (if (Value.ref l == Value.none) = true then _ else _) _ _ s
  rw [if_neg (show ¬ ((Value.ref l == Value.none) = true) from Bool.false_ne_true)]
  show wpAny _ _ (field (.ref it) 1 >>= _) _ _ s
  refine wpAny_bind (wpAny_field ho hd (x := .int k 0) rfl ?_)
  show wpAny _ _ (seqItems? (.ref l) >>= _) _ _ s
  refine wpAny_bind (wpAny_seqItems hl rfl ?_)
  simp only [Int.toNat_natCast, hv]
  exact wpAny_bind (wpAny_setField ho hd (by simp) (wpAny_pure h))
theorem sok_next (it l : Addr) (i j : Nat) (xs : Array Value) (n : Nat) (k : Nat) (v : Value) (hv : xs[k]? = some v) : SpecOK (model prog w) (spNext it l i j xs n k v) :=
  sok_meets (S := spNext it l i j xs n k v) (meets_next it l xs n k v hv) slot_listiter_next.plain entry_listiter_next rfl (chk_slot slot_listiter_next (args_listiter_next _) fun _ hp => ty_it (hp _ (List.mem_cons_self ..)))
    fun _ _ _ hp _ hR => ⟨hp _ (List.mem_cons_self ..), hp _ (List.mem_cons_of_mem _ (List.mem_cons_self ..)), hR _ (eff_upd rfl rfl rfl (hp _ (List.mem_cons_self ..)) rfl rfl)⟩
theorem meets_end (it l : Addr) (xs : Array Value) (n : Nat) (k : Nat) (hv : xs[k]? = none) :
    Meets (Builtin.«list_iterator.__next__» ⟨[.ref it], []⟩) (fun A R s => A.handled = none ∧ s.heap.get? it = some (itO l k) ∧ s.heap.get? l = some (listO xs n) ∧
      R (.error (.ref (s.heap.objs.size + 1))) { s with heap := pushAll (s.heap.update it (Obj.mapFields fun x => x.set! 0 .none)) (stopO s.heap.objs.size) }) := by
  intro prog w A R s ⟨hh, ho, hl, h⟩
  have hd : (itO l k).data = .fields #[.ref l, .int k 0] := rfl
  show wpAny _ _ (field (.ref it) 0 >>= _) _ _ s
  refine wpAny_bind (wpAny_field ho hd (x := .ref l) rfl ?_)
  show wpAny _ _ (if (Value.ref l == Value.none) = true then _ else _) _ _ s
  rw [if_neg (show ¬ ((Value.ref l == Value.none) = true) from Bool.false_ne_true)]
  show wpAny _ _ (field (.ref it) 1 >>= _) _ _ s
  refine wpAny_bind (wpAny_field ho hd (x := .int k 0) rfl ?_)
  show wpAny _ _ (seqItems? (.ref l) >>= _) _ _ s
  refine wpAny_bind (wpAny_seqItems hl rfl ?_)
  simp only [Int.toNat_natCast, hv]
  refine wpAny_bind (wpAny_rule (wpAny_bind (wpAny_setField ho hd (by simp) ?_)))
  show wpAny _ _ (newExc (.type "StopIteration") [] >>= _) _ _ _
  refine wpAny_bind ?_
  simp only [newExc, newTuple]
  refine wpAny_bind (wpAny_newObj_type ?_ (by size_fits))
  refine wpAny_bind (m := firstArgMember _ _) (wpAny_of_eq (a := Value.none) (by first | rfl | (simp only [firstArgMember]; rfl)) ?_)
  refine wpAny_newObj_type ?_ (by size_fits)
  simp only [raiseNew]
  refine wpAny_bind (wpAny_handled ?_)
  rw [show A.in1.handled = none from hh]
  refine wpAny_bind (wpAny_pure (wpAny_throw ?_))
  have e : (s.heap.update it (Obj.mapFields fun x => x.setIfInBounds 0 .none)).objs.size = s.heap.objs.size := (Heap.SameBut.update ..).1
  rw [Heap.size_push, e]
  exact h
theorem sok_end (it l : Addr) (i j : Nat) (xs : Array Value) (n : Nat) (k : Nat) (hv : xs[k]? = none) : SpecOK (model prog w) (spEnd it l i j xs n k) :=
  sok_meets (S := spEnd it l i j xs n k) (meets_end it l xs n k hv) slot_listiter_next.plain entry_listiter_next rfl (chk_slot slot_listiter_next (args_listiter_next _) fun _ hp => ty_it (hp _ (List.mem_cons_self ..)))
    fun _ _ _ hp hc hR => ⟨hc rfl, hp _ (List.mem_cons_self ..), hp _ (List.mem_cons_of_mem _ (List.mem_cons_self ..)), hR _
      ⟨⟨_, heap_upd (i := i) (o' := itD k) (hp _ (List.mem_cons_self ..)) rfl rfl, rfl⟩, rfl, rfl, rfl, rfl⟩⟩
theorem sok_read {id : String} {B : Builtin} {vs : List Value} {T : PySem.Spec} (g : Meets (B ⟨vs, []⟩) T) (plain : plainId id = true) (entry : entryFor table id = some B) {l : Addr} {j : Nat} {o : Obj} {v : Value}
    (chk : Chk id vs fun s => s.heap.get? l = some o) (hT : ∀ (A : Around) (R : Result → Shared → Prop) (s : Shared), s.heap.get? l = some o → R (.ok (.ret v)) s → T A R s) :
    SpecOK (model prog w) ⟨callB id vs, [(j, l, o)], [], fun _ _ => .ok (.ret v), 0, fun _ => [], false⟩ :=
  sok_meets (S := ⟨callB id vs, [(j, l, o)], [], fun _ _ => .ok (.ret v), 0, fun _ => [], false⟩) g plain entry rfl (fun _ _ _ _ _ hp h => chk _ _ _ _ _ (hp _ (List.mem_cons_self ..)) h)
    fun _ _ _ hp _ hR => hT _ _ _ (hp _ (List.mem_cons_self ..)) (hR _ ⟨⟨_, ⟨rfl, fun _ => rfl⟩, rfl⟩, rfl, rfl, rfl, rfl⟩)
theorem any_isS {xs : Array Value} {x : Str} {t : Tok} (h : ∀ y ∈ xs, ∃ z t, y = .str z t) : ∀ y, y ∈ xs → MeetsSeq.EqGives y (.str x t) (isS x y) := fun y hy => by
  obtain ⟨z, u, rfl⟩ := h y hy
  exact SeqRoads2.EqGives.str z x u t
theorem sok_has (l : Addr) (j : Nat) (xs : Array Value) (n : Nat) (x : Str) (t : Tok) (b : Bool) (h : HasS xs x b) : SpecOK (model prog w) (spHas l j xs n (.str x t) b) :=
  sok_read (MeetsSeq.list_contains l xs n (.str x t) (isS x) (any_isS h.1)) F.slot_list_contains.plain F.entry_list_contains (chk_slot F.slot_list_contains (F.args_list_contains_2 _ _) fun _ hp => ty_list hp) fun _ _ _ hp hR => ⟨hp, by rw [h.2]; exact hR⟩
theorem meets_item (l : Addr) (xs : Array Value) (n : Nat) (i : Int) (t : Tok) (v : Value) (h : ItemAt xs i v) :
    Meets (Builtin.«list.__getitem__» ⟨[.ref l, .int i t], []⟩) (fun _ R s => s.heap.get? l = some (listO xs n) ∧ R (.ok (.ret v)) s) := by
  intro prog w A R s ⟨ho, hR⟩
  obtain ⟨h0, hfit, hx⟩ := h
  have hd : (listO xs n).data = .seq xs n := rfl
  show wpAny _ _ (Builtin.List.listSubscript? (.int i t) >>= _) _ _ s
  refine wpAny_bind (wpAny_listSubscript_int (fitsIndex_of h0 hfit) ?_)
  clear hfit
  obtain ⟨j, rfl⟩ := Int.eq_ofNat_of_zero_le h0
  have hx' : xs[j]? = some v := hx
  show wpAny _ _ ((seqItemAt l j >>= fun r => pure (r.map (j, ·))) >>= _) _ _ s
  refine wpAny_bind (wpAny_bind (wpAny_seqItemAt ho hd (wpAny_pure ?_)))
  rw [hx']
  first
    | exact wpAny_bind (wpAny_pure (wpAny_pure hR))
    | exact wpAny_pure hR
theorem sok_item (l : Addr) (j : Nat) (xs : Array Value) (n : Nat) (i : Int) (t : Tok) (v : Value) (h : ItemAt xs i v) : SpecOK (model prog w) (spItem l j xs n i t v) :=
  sok_read (meets_item l xs n i t v h) F.slot_list_getitem.plain F.entry_list_getitem (chk_slot F.slot_list_getitem (F.args_list_getitem_2 _ _) fun _ hp => ty_list hp) fun _ _ _ hp hR => ⟨hp, hR⟩
theorem erase_push (xs : Array Value) (v : Value) : (xs.push v).eraseIdxIfInBounds xs.size = xs := by
  unfold Array.eraseIdxIfInBounds
  rw [dif_pos (by rw [Array.size_push]; exact Nat.lt_succ_self _)]
  apply Array.ext'
  rw [Array.toList_eraseIdx, Array.toList_push]
  rw [List.eraseIdx_append_of_length_le (by simp)]
  simp
theorem sok_pop (l : Addr) (j : Nat) (xs : Array Value) (n : Nat) (v : Value) (t : Tok) (h : xs.size < sizeLine) : SpecOK (model prog w) (spPop l j xs n v t) :=
  sok_meets (S := spPop l j xs n v t) (MeetsSeq.list_pop_at l (xs.push v) n (-1) t xs.size v (by decide) (by rw [MeetsSeq.seqIndex_neg (by decide) (by rw [Array.size_push]; omega)]; congr 1; rw [Array.size_push]; omega) (by simp) (by rw [Array.size_push]; omega))
    F.slot_list_pop.plain F.entry_list_pop rfl (chk_slot F.slot_list_pop (F.args_list_pop_2 _ _) fun _ hp => ty_list (hp _ (List.mem_cons_self ..)))
    fun _ _ _ hp _ hR => ⟨hp _ (List.mem_cons_self ..), hR _ (eff_upd (S := spPop l j xs n v t) rfl rfl rfl (hp _ (List.mem_cons_self ..)) (by
      show Obj.mapSeq _ (listO (xs.push v) n) = listO xs (n + 1)
      simp only [Obj.mapSeq, listO, erase_push]
      have hne : (xs.size == (xs.push v).size) = false := by rw [Array.size_push]; simp
      rw [hne]; rfl) rfl)⟩
theorem sok_clear (l : Addr) (j : Nat) (xs : Array Value) (n : Nat) (h : xs.size ≤ sizeLine) : SpecOK (model prog w) (spClear l j xs n) :=
  sok_meets (S := spClear l j xs n) (AutoSeq1.list_clear_list_0 l xs n h) F.slot_list_clear.plain F.entry_list_clear rfl (chk_slot F.slot_list_clear (F.args_list_clear_1 _) fun _ hp => ty_list (hp _ (List.mem_cons_self ..)))
    fun _ _ _ hp _ hR => ⟨hp _ (List.mem_cons_self ..), hR _ (eff_upd (S := spClear l j xs n) rfl rfl rfl (hp _ (List.mem_cons_self ..)) rfl rfl)⟩
theorem div_small (a b : Int) (h : (if b == 0 then 0 else b.natAbs.log2 / 30 + 1) ≤ 300) : Builtin.divisionGoesByPylong a b = false := by
  unfold Builtin.divisionGoesByPylong
  simp only [Bool.and_eq_false_iff, decide_eq_false_iff_not]
  exact .inl (Nat.not_lt.mpr h)
end Mine
end

section
set_option maxRecDepth 100000
namespace Mine
open PySem PySem.W PySem.W.X
variable {prog : Program} {w : World}
theorem sok_sget (x : Str) (t : Tok) (i : Int) (u : Tok) (c : Nat) (h : CharAt x i c) : SpecOK (model prog w) (spV (callB "str.__getitem__" [.str x t, .int i u]) (.str ⟨⟨[c]⟩⟩) 1) :=
  sok_str (gives_str_getitem x i t u c (by
      obtain ⟨h0, h1, _⟩ := h
      simp only [Bool.or_eq_false_iff, decide_eq_false_iff_not]
      omega) (by
      obtain ⟨h0, h1, h2⟩ := h
      have hlt : i.toNat < x.length := (Array.getElem?_eq_some_iff.mp h2).1
      have e : seqIndex? i x.length = some i.toNat := by
        unfold seqIndex?
        have h3 : ¬ i < 0 := by omega
        have h4 : i < (x.length : Int) := by omega
        simp [h3, h0, h4]
      rw [e]; exact h2)) (by show 1 ≤ sizeLine; decide) F.slot_str_getitem.plain F.entry_str_getitem (chk_slot F.slot_str_getitem (F.args_str_getitem_2 _ _) fun s _ => ty_str s x t)
theorem sok_slen (x : Str) (t : Tok) : SpecOK (model prog w) (spV (callB "str.__len__" [.str x t]) (.int (x.length : Int)) 1) :=
  sok_int (gives_str_len x t) F.slot_str_len.plain F.entry_str_len (chk_slot F.slot_str_len (F.args_str_len_1 _) fun s _ => ty_str s x t)
theorem sok_radd (l b : Addr) (i j : Nat) (xs : Array Value) (n : Nat) (ys : Array Value) (m : Nat) (h : xs.size + ys.size ≤ sizeLine) : SpecOK (model prog w) (spLAdd l b i j xs n ys m) :=
  sok_meets (S := spLAdd l b i j xs n ys m) (AutoSeq1.list___add___list_list_0 l xs n b ys m h) F.slot_list_add.plain F.entry_list_add rfl (chk_slot F.slot_list_add (F.args_list_add_2 _ _) fun _ hp => ty_list (hp _ (List.mem_cons_self ..)))
    fun _ _ s hp _ hR => ⟨hp _ (List.mem_cons_self ..), hp _ (List.mem_cons_of_mem _ (List.mem_cons_self ..)), hR _ ⟨⟨s.heap, ⟨rfl, fun _ => rfl⟩, rfl⟩, rfl, rfl, rfl, rfl⟩⟩
theorem sok_riter (r : Addr) (j : Nat) (a : Int) (t : Tok) (b : Int) (u v : Tok) (ha : 0 ≤ a) (hab : a ≤ b) (hb : b < 1000) : SpecOK (model prog w) (spRIter r j a t b u v) := by
  have fit : ∀ n : Int, 0 ≤ n → n < 2000 → Builtin.Range.rangeFitsLong n = true := fun n h1 h2 => by unfold Builtin.Range.rangeFitsLong; simp; omega
  have sz : Builtin.Range.rangeSize a b 1 = b - a := by
    unfold Builtin.Range.rangeSize
    simp
    intro _; omega
  have small : (Builtin.Range.rangeFitsLong a && Builtin.Range.rangeFitsLong b && Builtin.Range.rangeFitsLong 1 && Builtin.Range.rangeFitsLong (Builtin.Range.rangeSize a b 1) && (Builtin.Range.rangeSize a b 1 == 0 || if (1 : Int) > 0 then Builtin.Range.rangeFitsLong (b + (1 - 1)) else Builtin.Range.rangeFitsLong (b + (1 + 1)))) = true := by
    rw [sz, fit a ha (by omega), fit b (by omega) (by omega), fit 1 (by decide) (by decide), fit (b - a) (by omega) (by omega), if_pos (by decide), fit (b + (1 - 1)) (by omega) (by omega)]
    simp
  exact sok_meets (S := spRIter r j a t b u v) (AutoRange.range___iter___range_1 r a b 1 t u v (by rw [small]; decide)) F.slot_range_iter.plain F.entry_range_iter rfl
    (chk_slot F.slot_range_iter (F.args_range_iter_1 _) fun _ hp => ⟨_, hp _ (List.mem_cons_self ..), rfl⟩)
    fun _ _ s hp _ hR => ⟨hp _ (List.mem_cons_self ..), hR _ ⟨⟨s.heap, ⟨rfl, fun _ => rfl⟩, by rw [small, sz]; rfl⟩, rfl, rfl, rfl, rfl⟩⟩
theorem sok_rnext (it : Addr) (j : Nat) (x left : Int) (h : 0 < left) : SpecOK (model prog w) (spRNext it j x left) :=
  sok_meets (S := spRNext it j x left) (AutoRange.range_iterator___next___range_iterator_1 it x left 1 (by omega)) F.slot_range_iterator_next.plain F.entry_range_iterator_next rfl
    (chk_slot F.slot_range_iterator_next (F.args_range_iterator_next_1 _) fun _ hp => ⟨_, hp _ (List.mem_cons_self ..), rfl⟩)
    fun _ _ s hp _ hR => ⟨hp _ (List.mem_cons_self ..), hR _ (by
      have ho := hp _ (List.mem_cons_self ..)
      refine ⟨⟨_, ⟨?_, fun b => ?_⟩, rfl⟩, rfl, rfl, rfl, rfl⟩
      · show ((s.heap.update it _).update it _).objs.size = _
        rw [(Heap.SameBut.update ..).1, (Heap.SameBut.update ..).1]
      · show ((s.heap.update it _).update it _).get? b = _
        have e1 := (heap_upd (s := s) (i := j) (l := it) (o := ritO x left) (o' := ritO (x + 1) left) (f := Obj.mapFields fun x_1 => x_1.setIfInBounds 0 (rawInt (x + 1))) ho rfl rfl).2
        have h1 : (s.heap.update it (Obj.mapFields fun x_1 => x_1.setIfInBounds 0 (rawInt (x + 1)))).get? it = some (ritO (x + 1) left) := by rw [e1 it, lastOf_one, if_pos rfl]
        have e2 := (heap_upd (s := { s with heap := s.heap.update it (Obj.mapFields fun x_1 => x_1.setIfInBounds 0 (rawInt (x + 1))) }) (i := j) (l := it) (o := ritO (x + 1) left) (o' := ritO (x + 1) (left - 1)) (f := Obj.mapFields fun x => x.setIfInBounds 1 (rawInt (left - 1))) h1 rfl rfl).2
        rw [e2 b, lastOf_one]
        show (if it = b then _ else (s.heap.update it _).get? b) = if it = b then _ else _
        by_cases q : it = b
        · rw [if_pos q, if_pos q]
        · rw [if_neg q, if_neg q, e1 b, lastOf_one, if_neg q])⟩
end Mine
end

section
set_option maxRecDepth 100000
namespace Mine
open PySem PySem.W PySem.W.X

noncomputable def EndsQ (P : Params) (o : Out) (idx : List Nat) (t : Sem Fin) (c : Code) (fs : List Frame) (d : DM) (gm : GMem) : Prop :=
  (o.t, o.c, o.fs, pick idx o.mem, live o.gm, o.eqs) = (t, c, fs, renorm P d (pick idx o.mem), gm, o.eqs.map Ob.diag)

structure Sys (K : Top) where
  ok : K.Ok
  H : Shared → Thread → Prop
  back : ∀ {s th s' th'}, Comes (model K.prog K.w) s th s' th' → H s' th' → H s th

def OkS (K : Top) (S : Spec) : Prop := SpecOK (model K.prog K.w) S ∧ (∀ x ∈ S.post, x.2.2.isFreed = false) ∧ ∀ b, ∀ o ∈ S.new b, o.isFreed = false
def AllOk (K : Top) (l : List Spec) : Prop := ∀ S ∈ l, OkS K S
theorem AllOk.nil {K : Top} : AllOk K [] := fun _ h => nomatch h
theorem AllOk.cons {K : Top} {S : Spec} {l : List Spec} (h : OkS K S) (r : AllOk K l) : AllOk K (S :: l) := fun x hx => (List.mem_cons.mp hx).elim (fun e => e ▸ h) (r x)
theorem okv {K : Top} {c : Code} {v : VD} {dt : Nat} (h : SpecOK (model K.prog K.w) (spV c v dt)) : OkS K (spV c v dt) := ⟨h, (fun _ h => nomatch h), fun _ _ h => nomatch h⟩
theorem ok1 {K : Top} {S : Spec} {i : Nat} {a : Addr} {o : Obj} (hp : S.post = [(i, a, o)]) (hn : S.new = fun _ => []) (hf : o.isFreed = false) (h : SpecOK (model K.prog K.w) S) : OkS K S :=
  ⟨h, fun x hx => by rw [hp] at hx; cases List.mem_singleton.mp hx; exact hf, fun b o ho => by rw [hn] at ho; cases ho⟩
theorem okr {K : Top} {S : Spec} (hp : S.post = []) (hn : S.new = fun _ => []) (h : SpecOK (model K.prog K.w) S) : OkS K S :=
  ⟨h, fun x hx => (by rw [hp] at hx; cases hx), fun b o ho => by rw [hn] at ho; cases ho⟩
theorem ok_end {K : Top} (it l : Addr) (i j : Nat) (xs : Array Value) (n : Nat) (k : Nat) (hv : xs[k]? = none) : OkS K (spEnd it l i j xs n k) :=
  ⟨sok_end it l i j xs n k hv, fun x hx => by cases List.mem_singleton.mp hx; rfl, fun b o ho => by
    have ho : o ∈ stopO b := ho
    unfold stopO at ho
    rcases List.mem_cons.mp ho with rfl | ho
    · rfl
    · cases List.mem_singleton.mp ho; rfl⟩
theorem ok_has {K : Top} (l : Addr) (j : Nat) (xs : Array Value) (n : Nat) (x : Str) (t : Tok) (b : Bool) (h : HasS xs x b) : OkS K (spHas l j xs n (.str x t) b) := okr rfl rfl (sok_has l j xs n x t b h)
theorem ok_item {K : Top} (l : Addr) (j : Nat) (xs : Array Value) (n : Nat) (i : Int) (t : Tok) (v : Value) (h : ItemAt xs i v) : OkS K (spItem l j xs n i t v) := okr rfl rfl (sok_item l j xs n i t v h)
theorem ok_pop {K : Top} (l : Addr) (j : Nat) (xs : Array Value) (n : Nat) (v : Value) (t : Tok) (h : xs.size < sizeLine) : OkS K (spPop l j xs n v t) := ok1 rfl rfl rfl (sok_pop l j xs n v t h)
theorem ok_clear {K : Top} (l : Addr) (j : Nat) (xs : Array Value) (n : Nat) (h : xs.size ≤ sizeLine) : OkS K (spClear l j xs n) := ok1 rfl rfl rfl (sok_clear l j xs n h)
theorem StD.perm {K : Top} {d d' : DM} {gm : GMem} {s : Shared} (h : d.Perm d') (S : StD K d gm s) : StD K d' gm s := by
  obtain ⟨mem, F, S⟩ := S
  have : ∃ mem', mem.Perm mem' ∧ Fits K.w.params d' mem' := by
    clear S
    induction h generalizing mem with
    | nil => cases F; exact ⟨[], .nil, .nil⟩
    | cons x _ ih =>
      cases F with
      | cons τ n F => obtain ⟨m', q, F'⟩ := ih _ F; exact ⟨_, q.cons _, .cons τ n F'⟩
    | swap x y l =>
      cases F with
      | cons τ n F => cases F with
        | cons τ' n' F => exact ⟨_, .swap .., .cons τ' n' (.cons τ n F)⟩
    | trans _ _ ih1 ih2 =>
      obtain ⟨m1, q1, F1⟩ := ih1 _ F
      obtain ⟨m2, q2, F2⟩ := ih2 _ F1
      exact ⟨m2, q1.trans q2, F2⟩
  obtain ⟨m', q, F'⟩ := this
  exact ⟨m', F', fun x hx => S.own x (q.mem_iff.mpr hx), (q.map _).nodup_iff.mp S.nodup, fun x hx => S.src x (q.mem_iff.mpr hx), S.gown, S.gnodup, S.gfin, S.keep, S.drawn, S.os, S.low⟩
theorem StD.drop {K : Top} {d e : DM} {gm : GMem} {s : Shared} (S : StD K (d ++ e) gm s) : StD K d gm s := by
  obtain ⟨mem, F, S⟩ := S
  obtain ⟨x, y, rfl, F1, F2⟩ := F.split
  exact ⟨x, F1, fun q hq => S.own q (List.mem_append_left _ hq), by have := S.nodup; rw [List.map_append] at this; exact (List.nodup_append.mp this).1, fun q hq => S.src q (List.mem_append_left _ hq), S.gown, S.gnodup, S.gfin, S.keep, S.drawn, S.os, S.low⟩
theorem restNil : RestOK [] [] := ⟨rfl, rfl, rfl⟩

theorem Sys.seg {K : Top} (Y : Sys K) {n : Nat} {t : Sem Fin} {c : Code} {p : Pos} {fs : List Frame} {d : DM} {gm : GMem} {hs : List Hint} {idx : List Nat} {L : DM} {s : Shared}
    {t' : (Nat → Nat → Tok) → Nat → Nat → Nat → Sem Fin} {c' : Nat → Nat → Nat → Code} {fs' : Nat → Nat → Nat → List Frame} {d' : Nat → Nat → Nat → DM} {gm' : Nat → Nat → Nat → GMem}
    (S : StD K (d ++ L) gm s) (hidx : idx.Nodup) (specsT : (Nat → Nat → Tok) → (Nat → Nat) → Nat → Nat → Nat → List Spec)
    (hrun : ∀ τ ν N T G, EndsQ K.w.params (run (K.V [] N T G (specsT τ ν N T G)) n t c p fs (memOf K.w.params τ ν 0 d) 0 0 gm 0 hs []) idx (t' τ N T G) (c' N T G) (fs' N T G) (d' N T G) (gm' N T G))
    (hspec : ∀ τ ν N T G, AllOk K (specsT τ ν N T G))
    (next : ∀ τ N T G s' p', K.B ≤ N → N ≤ s'.heap.objs.size → StD K (d' N T G ++ L) (gm' N T G) s' → Y.H s' ⟨t' τ N T G, c' N T G, p', fs' N T G⟩) : Y.H s ⟨t, c, p, fs⟩ := by
  obtain ⟨mem, F, S⟩ := S
  obtain ⟨x, y, rfl, F1, F2⟩ := F.split
  obtain ⟨τ, ν, rfl⟩ := F1.memOf 0
  have hsp := hspec τ ν s.heap.objs.size s.toks s.gens.size
  have h := hrun τ ν s.heap.objs.size s.toks s.gens.size
  unfold EndsQ at h
  simp only [Prod.mk.injEq] at h
  obtain ⟨h1, h2, h3, h4, h5, h6⟩ := h
  have key := useOne (K := K) Y.ok (W := []) (specs := specsT τ ν s.heap.objs.size s.toks s.gens.size) (fun S hS => (hsp S hS).1) (fun S hS => (hsp S hS).2) (n := n) (t := t) (c := c) (p := p) (fs := fs) (hs := hs) hidx h6 S restNil
  obtain ⟨s', C, S', hs⟩ := key
  rw [h1, h2, h3] at C
  simp only [List.append_nil] at C
  refine Y.back C (next _ _ _ _ s' _ S.low hs ⟨_, Fits.append (Fits.renorm _ h4) F2, ?_⟩)
  rw [h5] at S'
  exact S'
end Mine
end

section
set_option maxRecDepth 100000
namespace Mine
open PySem PySem.W PySem.W.X
variable {prog : Program} {w : World}
noncomputable def c_strit : String := PySem.W.SZ.s13500813778147066322x18
noncomputable def sitO (x : Str) (t : Tok) (k : Int) : Obj := ⟨.type c_strit, none, .fields ⟨[.str x t, .int k 0]⟩, #[]⟩
noncomputable def sitD (k : Int) : Obj := ⟨.type c_strit, none, .fields ⟨[.none, .int k 0]⟩, #[]⟩
noncomputable def spSIter (x : Str) (t : Tok) : Spec := ⟨callB "str.__iter__" [.str x t], [], [], fun _ n => .ok (.ret (.ref n)), 0, fun _ => [sitO x t 0], false⟩
noncomputable def spSNext (it : Addr) (i : Nat) (x : Str) (t : Tok) (k : Nat) (c : Nat) : Spec := ⟨callB "str_ascii_iterator.__next__" [.ref it], [(i, it, sitO x t k)], [(i, it, sitO x t (k + 1))], fun tk _ => .ok (.ret (.str ⟨⟨[c]⟩⟩ tk)), 1, fun _ => [], false⟩
noncomputable def spSEnd (it : Addr) (i : Nat) (x : Str) (t : Tok) (k : Nat) : Spec := ⟨callB "str_ascii_iterator.__next__" [.ref it], [(i, it, sitO x t k)], [(i, it, sitD k)], fun _ b => .error (.ref (b + 1)), 0, stopO, true⟩
theorem ty_sit {s : Shared} {l : Addr} {x : Str} {t : Tok} {k : Int} (h : s.heap.get? l = some (sitO x t k)) : s.TypeIs (.ref l) "str_ascii_iterator" := ⟨_, h, rfl⟩
theorem meets_siter (x : Str) (t : Tok) (ha : x.cps.all (· < 128) = true) :
    Meets (Builtin.«str.__iter__» ⟨[.str x t], []⟩) (fun _ R s => R (.ok (.ret (.ref s.heap.objs.size))) { s with heap := s.heap.push (sitO x t 0) }) := by
  intro prog w A R s h
  show wpAny _ _ (do ret (← newFields (if (true && x.cps.all (· < 128)) = true then "str_ascii_iterator" else "str_iterator") [.str x t, rawInt 0])) _ _ s
  rw [ha]
  exact wpAny_bind (wpAny_newObj_type (wpAny_pure h))
theorem sok_siter (x : Str) (t : Tok) (ha : x.cps.all (· < 128) = true) : SpecOK (model prog w) (spSIter x t) :=
  sok_meets (S := spSIter x t) (meets_siter x t ha) F.slot_str_iter.plain F.entry_str_iter rfl (chk_slot F.slot_str_iter (F.args_str_iter_1 _) fun s _ => ty_str s x t)
    fun _ _ s _ _ hR => hR _ ⟨⟨s.heap, ⟨rfl, fun _ => rfl⟩, rfl⟩, rfl, rfl, rfl, rfl⟩
theorem meets_snext (it : Addr) (x : Str) (t : Tok) (k c : Nat) (hx : x.cps[k]? = some c) :
    Meets (Builtin.«str_ascii_iterator.__next__» ⟨[.ref it], []⟩) (fun _ R s => s.heap.get? it = some (sitO x t k) ∧ R (.ok (.ret (.str ⟨#[c]⟩ s.toks))) { s with heap := s.heap.update it (Obj.mapFields fun x => x.set! 1 (rawInt (k + 1))), toks := s.toks + 1 }) := by
  intro prog w A R s ⟨ho, h⟩
  have hd : (sitO x t k).data = .fields #[.str x t, .int k 0] := rfl
  show wpAny _ _ (field (.ref it) 0 >>= _) _ _ s
  refine wpAny_bind (wpAny_field ho hd (x := .str x t) rfl ?_)
  show wpAny _ _ (field (.ref it) 1 >>= _) _ _ s
  refine wpAny_bind (wpAny_field ho hd (x := .int k 0) rfl ?_)
  simp only [Int.toNat_natCast, hx]
  exact wpAny_bind (wpAny_setField ho hd (by simp) (wpAny_bind (wpAny_mkStr (wpAny_pure h) (by show 1 ≤ sizeLine; decide))))
theorem sok_snext (it : Addr) (i : Nat) (x : Str) (t : Tok) (k c : Nat) (hx : x.cps[k]? = some c) : SpecOK (model prog w) (spSNext it i x t k c) :=
  sok_meets (S := spSNext it i x t k c) (meets_snext it x t k c hx) F.slot_str_ascii_iterator_next.plain F.entry_str_ascii_iterator_next rfl (chk_slot F.slot_str_ascii_iterator_next (F.args_str_ascii_iterator_next_1 _) fun _ hp => ty_sit (hp _ (List.mem_cons_self ..)))
    fun _ _ s hp _ hR => ⟨hp _ (List.mem_cons_self ..), hR _ ⟨⟨_, heap_upd (i := i) (o' := sitO x t (k + 1)) (hp _ (List.mem_cons_self ..)) rfl rfl, rfl⟩, rfl, rfl, rfl, rfl⟩⟩
theorem meets_send (it : Addr) (x : Str) (t : Tok) (k : Nat) (hx : x.cps[k]? = none) :
    Meets (Builtin.«str_ascii_iterator.__next__» ⟨[.ref it], []⟩) (fun A R s => A.handled = none ∧ s.heap.get? it = some (sitO x t k) ∧
      R (.error (.ref (s.heap.objs.size + 1))) { s with heap := pushAll (s.heap.update it (Obj.mapFields fun x => x.set! 0 .none)) (stopO s.heap.objs.size) }) := by
  intro prog w A R s ⟨hh, ho, h⟩
  have hd : (sitO x t k).data = .fields #[.str x t, .int k 0] := rfl
  show wpAny _ _ (field (.ref it) 0 >>= _) _ _ s
  refine wpAny_bind (wpAny_field ho hd (x := .str x t) rfl ?_)
  show wpAny _ _ (field (.ref it) 1 >>= _) _ _ s
  refine wpAny_bind (wpAny_field ho hd (x := .int k 0) rfl ?_)
  simp only [Int.toNat_natCast, hx]
  refine wpAny_bind (wpAny_rule (wpAny_bind (wpAny_setField ho hd (by simp) (wpAny_bind (wpAny_letGo ?_)))))
  show wpAny _ _ (newExc (.type "StopIteration") [] >>= _) _ _ _
  refine wpAny_bind ?_
  simp only [newExc, newTuple]
  refine wpAny_bind (wpAny_newObj_type ?_ (by size_fits))
  refine wpAny_bind (m := firstArgMember _ _) (wpAny_of_eq (a := Value.none) (by first | rfl | (simp only [firstArgMember]; rfl)) ?_)
  refine wpAny_newObj_type ?_ (by size_fits)
  simp only [raiseNew]
  refine wpAny_bind (wpAny_handled ?_)
  rw [show A.in1.handled = none from hh]
  refine wpAny_bind (wpAny_pure (wpAny_throw ?_))
  have e : (s.heap.update it (Obj.mapFields fun x => x.setIfInBounds 0 .none)).objs.size = s.heap.objs.size := (Heap.SameBut.update ..).1
  rw [Heap.size_push, e]
  exact h
theorem sok_send (it : Addr) (i : Nat) (x : Str) (t : Tok) (k : Nat) (hx : x.cps[k]? = none) : SpecOK (model prog w) (spSEnd it i x t k) :=
  sok_meets (S := spSEnd it i x t k) (meets_send it x t k hx) F.slot_str_ascii_iterator_next.plain F.entry_str_ascii_iterator_next rfl (chk_slot F.slot_str_ascii_iterator_next (F.args_str_ascii_iterator_next_1 _) fun _ hp => ty_sit (hp _ (List.mem_cons_self ..)))
    fun _ _ _ hp hc hR => ⟨hc rfl, hp _ (List.mem_cons_self ..), hR _
      ⟨⟨_, heap_upd (i := i) (o' := sitD k) (hp _ (List.mem_cons_self ..)) rfl rfl, rfl⟩, rfl, rfl, rfl, rfl⟩⟩
theorem ok_send {K : Top} (it : Addr) (i : Nat) (x : Str) (t : Tok) (k : Nat) (hx : x.cps[k]? = none) : OkS K (spSEnd it i x t k) :=
  ⟨sok_send it i x t k hx, fun x hx => by cases List.mem_singleton.mp hx; rfl, fun b o ho => by
    have ho : o ∈ stopO b := ho
    unfold stopO at ho
    rcases List.mem_cons.mp ho with rfl | ho
    · rfl
    · cases List.mem_singleton.mp ho; rfl⟩
theorem oka {K : Top} {S : Spec} {o : Nat → Obj} (hp : S.post = []) (hn : S.new = fun b => [o b]) (hf : ∀ b, (o b).isFreed = false) (h : SpecOK (model K.prog K.w) S) : OkS K S :=
  ⟨h, fun x hx => (by rw [hp] at hx; cases hx), fun b q hq => by rw [hn] at hq; cases List.mem_singleton.mp hq; exact hf b⟩
theorem ok_ladd {K : Top} (l b : Addr) (i j : Nat) (xs : Array Value) (n : Nat) (ys : Array Value) (m : Nat) (h : xs.size + ys.size ≤ sizeLine) : OkS K (spLAdd l b i j xs n ys m) := oka rfl rfl (fun _ => rfl) (sok_radd l b i j xs n ys m h)
theorem ok_riter {K : Top} (r : Addr) (j : Nat) (a : Int) (t : Tok) (b : Int) (u v : Tok) (ha : 0 ≤ a) (hab : a ≤ b) (hb : b < 1000) : OkS K (spRIter r j a t b u v) := oka rfl rfl (fun _ => rfl) (sok_riter r j a t b u v ha hab hb)
theorem ok_siter {K : Top} (x : Str) (t : Tok) (ha : x.cps.all (· < 128) = true) : OkS K (spSIter x t) := oka rfl rfl (fun _ => rfl) (sok_siter x t ha)

noncomputable def slO (vl vu : Value) : Obj := ⟨.type c_slice, none, .fields ⟨[vl, vu, .none]⟩, #[]⟩
noncomputable def spSlice (l sl : Addr) (i j : Nat) (xs : Array Value) (n : Nat) (vl vu : Value) (ys : Array Value) : Spec := ⟨callB "list.__getitem__" [.ref l, .ref sl], [(i, l, listO xs n), (j, sl, slO vl vu)], [], fun _ b => .ok (.ret (.ref b)), 0, fun _ => [listO ys 0], false⟩
def SliceIs (xs : Array Value) (vl vu : Value) (ys : Array Value) : Prop := ∃ lo hi, IsPart vl lo ∧ IsPart vu hi ∧ xs.size ≤ sizeLine ∧ slicePick xs lo hi none = ys
theorem meets_slice (l sl : Addr) (items : Array Value) (n : Nat) (vl vu : Value) (lo hi : Option Int) (pl : IsPart vl lo) (pu : IsPart vu hi) (hsz : items.size ≤ sizeLine) :
    Meets (Builtin.«list.__getitem__» ⟨[.ref l, .ref sl], []⟩) (fun _ R s => s.heap.get? l = some (listO items n) ∧ s.heap.get? sl = some (slO vl vu) ∧ R (.ok (.ret (.ref s.heap.objs.size))) { s with heap := s.heap.push (listO (slicePick items lo hi none) 0) }) := by
  intro prog w A R s ⟨ho, hos, h⟩
  have hd : (listO items n).data = .seq items n := rfl
  have hds : (slO vl vu).data = .fields #[vl, vu, .none] := rfl
  have hTs : s.TypeIs (.ref sl) "slice" := ⟨_, hos, rfl⟩
  show wpAny _ _ (Builtin.List.listSubscript? (.ref sl) >>= _) _ _ s
  refine wpAny_bind ?_
  · unfold Builtin.List.listSubscript?
    refine wpAny_bind (wpAny_specialOf hTs slice_no_index ?_)
    simp only [Option.isNone_none, if_true]
    refine wpAny_pure ?_
    show wpAny _ _ (typeOf (.ref sl) >>= _) _ _ s
    refine wpAny_bind (wpAny_typeOf hTs ?_)
    rw [if_neg (by decide)]
    rw [listSliceParts_eq]
    refine wpAny_bind (wpAny_bind (wpAny_field hos hds (x := .none) rfl (wpAny_bind (wpAny_listPart .none ?_))))
    rw [if_neg (show ¬ ((rawPart none == rawInt 0) = true) from Bool.false_ne_true)]
    refine wpAny_bind (wpAny_field hos hds (x := vl) rfl (wpAny_bind (wpAny_listPart pl ?_)))
    refine wpAny_bind (wpAny_field hos hds (x := vu) rfl (wpAny_bind (wpAny_listPart pu (wpAny_pure ?_))))
    refine wpAny_bind (m := Builtin.List.listItems (.ref l)) ?_
    · unfold Builtin.List.listItems
      refine wpAny_bind (wpAny_seqItems ho hd (wpAny_pure ?_))
      refine wpAny_bind (wpAny_of_eq (sliceIndices_raw lo hi none items.size (by simp)) ?_)
      exact wpAny_bind (wpAny_newObj_type (wpAny_pure h) (Nat.le_trans (slicePick_size_le items lo hi none) hsz))
theorem ok_slice {K : Top} (l sl : Addr) (i j : Nat) (xs : Array Value) (n : Nat) (vl vu : Value) (ys : Array Value) (h : SliceIs xs vl vu ys) : OkS K (spSlice l sl i j xs n vl vu ys) := by
  obtain ⟨lo, hi, pl, pu, hsz, rfl⟩ := h
  exact oka rfl rfl (fun _ => rfl) (sok_meets (S := spSlice l sl i j xs n vl vu _) (meets_slice l sl xs n vl vu lo hi pl pu hsz) F.slot_list_getitem.plain F.entry_list_getitem rfl (chk_slot F.slot_list_getitem (F.args_list_getitem_2 _ _) fun _ hp => ty_list (hp _ (List.mem_cons_self ..)))
    fun _ _ s hp _ hR => ⟨hp _ (List.mem_cons_self ..), hp _ (List.mem_cons_of_mem _ (List.mem_cons_self ..)), hR _ ⟨⟨s.heap, ⟨rfl, fun _ => rfl⟩, rfl⟩, rfl, rfl, rfl, rfl⟩⟩)

noncomputable def wtok (wh : Bool) (t u : Tok) : Tok := match wh with | true => t | false => u
noncomputable def wdt (wh : Bool) : Nat := match wh with | true => 0 | false => 1
noncomputable def spSSlice (x : Str) (t : Tok) (sl : Addr) (j : Nat) (vl vu : Value) (y : Str) (wh : Bool) : Spec := ⟨callB "str.__getitem__" [.str x t, .ref sl], [(j, sl, slO vl vu)], [], fun u _ => .ok (.ret (.str y (wtok wh t u))), wdt wh, fun _ => [], false⟩
def SSliceIs (x : Str) (vl vu : Value) (y : Str) (wh : Bool) : Prop := ∃ l u : Option (Int × Tok), vl = partValue l ∧ vu = partValue u ∧ y.length ≤ sizeLine ∧
  match wh with
  | true => y = x ∧ (slicePicked x l u none).length = x.length
  | false => y = ⟨((slicePicked x l u none).filterMap (x.cps[·]?)).toArray⟩ ∧ (slicePicked x l u none).length ≠ x.length
theorem ok_sslice {K : Top} (x : Str) (t : Tok) (sl : Addr) (j : Nat) (vl vu : Value) (y : Str) (wh : Bool) (h : SSliceIs x vl vu y wh) : OkS K (spSSlice x t sl j vl vu y wh) := by
  obtain ⟨l, u, rfl, rfl, hy, h⟩ := h
  refine okr rfl rfl (sok_meets (S := spSSlice x t sl j _ _ y wh) (meets_str_getitem_slice x t sl l u none rfl) F.slot_str_getitem.plain F.entry_str_getitem rfl (chk_slot F.slot_str_getitem (F.args_str_getitem_2 _ _) fun s _ => ty_str s x t)
    fun _ _ s hp _ hR => ⟨⟨_, hp _ (List.mem_cons_self ..), rfl, rfl⟩, ?_⟩)
  unfold sliceMade
  have e1 : ((Option.map (fun x : Int × Tok => x.1) none).getD 1 == 1) = true := rfl
  rw [e1, Bool.true_and]
  cases wh with
  | true =>
    obtain ⟨rfl, h2⟩ := h
    rw [if_pos (by simpa using h2)]
    exact hR _ ⟨⟨s.heap, ⟨rfl, fun _ => rfl⟩, rfl⟩, rfl, rfl, rfl, rfl⟩
  | false =>
    obtain ⟨h1, h2⟩ := h
    rw [if_neg (by simpa using h2), ← h1]
    exact ⟨hy, hR _ ⟨⟨s.heap, ⟨rfl, fun _ => rfl⟩, rfl⟩, rfl, rfl, rfl, rfl⟩⟩

noncomputable def jtok : List (Str × Tok) → Tok → Tok
  | [], u => u
  | p :: r, u => match r with
    | [] => p.2
    | _ :: _ => u
noncomputable def jdt : List (Str × Tok) → Nat
  | [] => 1
  | _ :: r => match r with
    | [] => 0
    | _ :: _ => 1
noncomputable def glue0 : List (Str × Tok) → Str
  | [] => ⟨⟨[]⟩⟩
  | p :: r => match r with
    | [] => p.1
    | q :: r => Builtin.Str.glued ⟨⟨[]⟩⟩ (p.1 :: q.1 :: r.map (·.1))
noncomputable def spJoin (t : Tok) (l : Addr) (j : Nat) (vs : List (Str × Tok)) (n : Nat) : Spec := ⟨callB "str.join" [.str ⟨⟨[]⟩⟩ t, .ref l], [(j, l, listO (strValues vs).toArray n)], [], fun u _ => .ok (.ret (.str (glue0 vs) (jtok vs u))), jdt vs, fun _ => [], false⟩
def JoinOk (vs : List (Str × Tok)) : Prop := (glue0 vs).length ≤ sizeLine ∧ Builtin.Str.tooLong ((vs.map (·.1)).toArray.foldl (· + ·.length + (⟨⟨[]⟩⟩ : Str).length) 0) = false
theorem ok_join {K : Top} (t : Tok) (l : Addr) (j : Nat) (vs : List (Str × Tok)) (n : Nat) (h : JoinOk vs) : OkS K (spJoin t l j vs n) := by
  refine okr rfl rfl (sok_meets (S := spJoin t l j vs n) (meets_str_join_list ⟨⟨[]⟩⟩ t l vs h.2) F.slot_str_join.plain F.entry_str_join rfl (chk_slot F.slot_str_join (F.args_str_join_2 _ _) fun s _ => ty_str s _ t)
    fun _ _ s hp _ hR => ⟨⟨_, hp _ (List.mem_cons_self ..), rfl, _, rfl⟩, ?_⟩)
  have hh : Eff (spJoin t l j vs n) s { s with toks := s.toks + jdt vs } := ⟨⟨s.heap, ⟨rfl, fun _ => rfl⟩, rfl⟩, rfl, rfl, rfl, rfl⟩
  have hR' := hR _ hh
  match vs, h, hR' with
  | [], h, hR' => exact ⟨h.1, hR'⟩
  | [p], h, hR' => exact hR'
  | p :: q :: r, h, hR' => exact ⟨h.1, hR'⟩

theorem sok_pow2 (q : Int) (t u : Tok) (h0 : 0 ≤ q) (h1 : q < 4) : SpecOK (model prog w) (spV (II "int.__pow__" q t 2 u) (.int (q * q)) 1) := by
  have h : q = 0 ∨ q = 1 ∨ q = 2 ∨ q = 3 := by omega
  rcases h with rfl | rfl | rfl | rfl <;>
  exact sok_int (by first | exact .of_eq rfl | exact .rule (.of_eq rfl) | exact .rule (.rule (.of_eq rfl))) F.slot_int_pow.plain F.entry_int_pow (chk_slot F.slot_int_pow (F.args_int_pow_2 _ _) fun s _ => ty_int s _ t)
theorem sok_ibool (a : Int) (t : Tok) : SpecOK (model prog w) (spV (callB "int.__bool__" [.int a t]) (.bool (a != 0)) 0) :=
  sok_bool (gives_int_bool a t) F.slot_int_bool.plain F.entry_int_bool (chk_slot F.slot_int_bool (F.args_int_bool_1 _) fun s _ => ty_int s a t)
theorem sok_sadd0 (y : Str) (t u : Tok) : SpecOK (model prog w) (spV (SS "str.__add__" ⟨⟨[]⟩⟩ t y u) (.raw (.str y u)) 0) :=
  sok_gives (m := .val (.str y u)) (gives_str_add ⟨⟨[]⟩⟩ y t u) F.slot_str_add.plain F.entry_str_add (chk_slot F.slot_str_add (F.args_str_add_2 _ _) fun s _ => ty_str s _ t) fun _ _ h => h
theorem sok_sadd (x y : Str) (t u : Tok) (hx : (x.length == 0) = false) (hy : (y.length == 0) = false) (hs : (x ++ y).length ≤ sizeLine) : SpecOK (model prog w) (spV (SS "str.__add__" x t y u) (.str (x ++ y)) 1) :=
  sok_str (by have := gives_str_add x y t u; rw [hx, hy] at this; exact this) hs F.slot_str_add.plain F.entry_str_add (chk_slot F.slot_str_add (F.args_str_add_2 _ _) fun s _ => ty_str s _ t)
noncomputable def partOf : Value → Option Int
  | .int i _ => some i
  | _ => none
def isPartV : Value → Bool
  | .int _ _ => true
  | .none => true
  | _ => false
theorem isPart_of : ∀ {v : Value}, isPartV v = true → IsPart v (partOf v)
  | .int i t, _ => .int i t
  | .none, _ => .none
def SliceL (xs : Array Value) (lo hi : Option Int) (ys : Array Value) : Prop := xs.size ≤ sizeLine ∧ slicePick xs lo hi none = ys
theorem ok_sliceL {K : Top} (l sl : Addr) (i j : Nat) (xs : Array Value) (n : Nat) (vl vu : Value) (ys : Array Value) {lo hi : Option Int} (h1 : (isPartV vl, partOf vl) = (true, lo)) (h2 : (isPartV vu, partOf vu) = (true, hi)) (h : SliceL xs lo hi ys) : OkS K (spSlice l sl i j xs n vl vu ys) := by
  injection h1 with a1 a2
  injection h2 with b1 b2
  exact ok_slice l sl i j xs n vl vu ys ⟨lo, hi, a2 ▸ isPart_of a1, b2 ▸ isPart_of b1, h.1, h.2⟩
def SSliceL (x : Str) (lo hi : Option Int) (y : Str) (wh : Bool) : Prop := y.length ≤ sizeLine ∧
  match wh with
  | true => y = x ∧ (Builtin.Str.strSliceIndices lo hi 1 x.length).length = x.length
  | false => y = ⟨((Builtin.Str.strSliceIndices lo hi 1 x.length).filterMap (x.cps[·]?)).toArray⟩ ∧ (Builtin.Str.strSliceIndices lo hi 1 x.length).length ≠ x.length
theorem partValue_of : ∀ {v : Value} {lo : Option Int}, (isPartV v, partOf v) = (true, lo) → ∃ l : Option (Int × Tok), v = partValue l ∧ l.map (·.1) = lo
  | .int i t, _, h => ⟨some (i, t), rfl, by injection h⟩
  | .none, _, h => ⟨none, rfl, by injection h⟩
theorem ok_ssliceL {K : Top} (x : Str) (t : Tok) (sl : Addr) (j : Nat) (vl vu : Value) (y : Str) (wh : Bool) {lo hi : Option Int} (h1 : (isPartV vl, partOf vl) = (true, lo)) (h2 : (isPartV vu, partOf vu) = (true, hi)) (h : SSliceL x lo hi y wh) : OkS K (spSSlice x t sl j vl vu y wh) := by
  obtain ⟨l, rfl, rfl⟩ := partValue_of h1
  obtain ⟨u, rfl, rfl⟩ := partValue_of h2
  exact ok_sslice x t sl j _ _ y wh ⟨l, u, rfl, rfl, h.1, h.2⟩
noncomputable def spLen (v : Value) (n : Int) : Spec := ⟨callB "len" [v], [], [], fun t _ => .ok (.ret (.int n (t + 1))), 2, fun _ => [], false⟩
theorem chk_len (v : Value) : Chk "len" [v] fun _ => True := fun M A E s Q _ hq => by
  have ha : argsOk "len" ⟨[v], []⟩ := args_len1 v
  simp only [checkBuiltinCall, kind_len]
  cases hsig : Manifest.signature? "len" with
  | none => exact wpAny_pure hq
  | some sig =>
    simp only [argsOk, hsig] at ha
    have h2 : Bind.checkArgs "len" sig ⟨[v], []⟩ = pure () := ha
    show wpAny _ A (Bind.checkArgs "len" sig ⟨[v], []⟩) _ _ s
    rw [h2]; exact wpAny_pure hq
theorem meets_len_str (x : Str) (t : Tok) (hx : (x.length : Int) < 2 ^ 63) :
    Meets (Builtin.«len» ⟨[.str x t], []⟩) (fun _ R s => R (.ok (.ret (.int x.length (s.toks + 1)))) { s with toks := s.toks + 1 + 1 }) := by
  intro prog w A R s h
  unfold Builtin.«len»
  refine wpAny_bind (m := oneArg "len" _) (wpAny_pure ?_)
  refine wpAny_bind (m := callSpecial? (.str x t) (Str.ofString "__len__")) (wpAny_callSpecial?_slot (name := Str.ofString "__len__") (ty_str s x t) F.slot_str_len (call_gives F.slot_str_len (ty_str s x t) F.entry_str_len (F.args_str_len_1 _) (gives_str_len x t) ?_))
  show wpAny _ _ _ _ _ { s with toks := s.toks + 1 }
  refine wpAny_bind (wpAny_holding (wpAny_pure ?_))
  refine wpAny_bind (wpAny_letGo ?_)
  show wpAny _ _ (if (x.length : Int) < 0 then _ else _) _ _ _
  rw [if_neg (by omega)]
  show wpAny _ _ (if (x.length : Int) ≥ 2 ^ 63 then _ else _) _ _ _
  rw [if_neg (by omega)]
  exact wpAny_bind (wpAny_mkInt (wpAny_pure h))
theorem ok_len_str {K : Top} (x : Str) (t : Tok) (hx : (x.length : Int) < 2 ^ 63) : OkS K (spLen (.str x t) x.length) :=
  okr rfl rfl (sok_meets (S := spLen (.str x t) x.length) (meets_len_str x t hx) plain_len entry_len rfl (fun _ _ _ _ _ _ h => chk_len _ _ _ _ _ _ trivial h)
    fun _ _ s _ _ hR => hR _ ⟨⟨s.heap, ⟨rfl, fun _ => rfl⟩, rfl⟩, rfl, rfl, rfl, rfl⟩)
end Mine
end

section
set_option maxRecDepth 100000
namespace Mine
open PySem PySem.W PySem.W.X
variable {prog : Program} {w : World}
noncomputable def spLenL (l : Addr) (j : Nat) (xs : Array Value) (n : Nat) : Spec := ⟨callB "len" [.ref l], [(j, l, listO xs n)], [], fun t _ => .ok (.ret (.int xs.size (t + 1))), 2, fun _ => [], false⟩
theorem meets_len_list (l : Addr) (xs : Array Value) (n : Nat) (hx : (xs.size : Int) < 2 ^ 63) :
    Meets (Builtin.«len» ⟨[.ref l], []⟩) (fun _ R s => s.heap.get? l = some (listO xs n) ∧ R (.ok (.ret (.int xs.size (s.toks + 1)))) { s with toks := s.toks + 1 + 1 }) := by
  intro prog w A R s ⟨ho, h⟩
  have hd : (listO xs n).data = .seq xs n := rfl
  unfold Builtin.«len»
  refine wpAny_bind (m := oneArg "len" _) (wpAny_pure ?_)
  refine wpAny_bind (m := callSpecial? (.ref l) (Str.ofString "__len__")) (wpAny_callSpecial?_slot (name := Str.ofString "__len__") (ty_list ho) slot_list_len
    (wpAny_call_entry slot_list_len (ty_list ho) entry_list_len ?_ (args_list_len _)))
  · show wpAny _ _ (do retInt (← seqSize l)) _ _ s
    unfold seqSize
    refine wpAny_bind (wpAny_bind (wpAny_load ho ?_))
    rw [hd]
    refine wpAny_pure (wpAny_bind (wpAny_mkInt (wpAny_pure ⟨_, rfl, ?_⟩)))
    refine wpAny_bind (wpAny_holding (wpAny_pure ?_))
    refine wpAny_bind (wpAny_letGo ?_)
    show wpAny _ _ (if ((xs.size : Nat) : Int) < 0 then _ else _) _ _ _
    rw [if_neg (by omega)]
    show wpAny _ _ (if ((xs.size : Nat) : Int) ≥ 2 ^ 63 then _ else _) _ _ _
    rw [if_neg (by omega)]
    exact wpAny_bind (wpAny_mkInt (wpAny_pure h))
theorem ok_len_list {K : Top} (l : Addr) (j : Nat) (xs : Array Value) (n : Nat) (hx : (xs.size : Int) < 2 ^ 63) : OkS K (spLenL l j xs n) :=
  okr rfl rfl (sok_meets (S := spLenL l j xs n) (meets_len_list l xs n hx) plain_len entry_len rfl (fun _ _ _ _ _ _ h => chk_len _ _ _ _ _ _ trivial h)
    fun _ _ s hp _ hR => ⟨hp _ (List.mem_cons_self ..), hR _ ⟨⟨s.heap, ⟨rfl, fun _ => rfl⟩, rfl⟩, rfl, rfl, rfl, rfl⟩⟩)
theorem sok_repr (j : Nat) (t : Tok) (h : j < 4) : SpecOK (model prog w) (spV (callB "int.__repr__" [.int (j : Int) t]) (.str ⟨⟨[48 + j]⟩⟩) 1) := by
  have h : j = 0 ∨ j = 1 ∨ j = 2 ∨ j = 3 := by omega
  rcases h with rfl | rfl | rfl | rfl <;>
  exact sok_str (.of_eq rfl) (by decide) F.slot_int_repr.plain F.entry_int_repr (chk_slot F.slot_int_repr (F.args_int_repr_1 _) fun s _ => ty_int s _ t)
theorem ok_laddC {K : Top} (l b : Addr) (i j : Nat) (xs : Array Value) (n : Nat) (ys : Array Value) (a : Option Int) (m : Nat) (h : xs.size ≤ 100) (hy : ys.size ≤ 100) : OkS K (spLAdd l b i j xs n (slicePick ys a none none) m) :=
  ok_ladd l b i j xs n _ m (by have := slicePick_size_le ys a none none; show _ ≤ 2 ^ 24; omega)
theorem ok_sliceC {K : Top} (l sl : Addr) (i j : Nat) (xs : Array Value) (n : Nat) (vl vu : Value) {lo hi : Option Int} (h1 : (isPartV vl, partOf vl) = (true, lo)) (h2 : (isPartV vu, partOf vu) = (true, hi)) (h : xs.size ≤ 100) : OkS K (spSlice l sl i j xs n vl vu (slicePick xs lo hi none)) :=
  ok_sliceL l sl i j xs n vl vu _ h1 h2 ⟨by show _ ≤ 2 ^ 24; omega, rfl⟩
end Mine
end

section
set_option maxRecDepth 100000
namespace Mine
open PySem PySem.W PySem.W.X
noncomputable def tupT : Expr := .Tuple [] default default
noncomputable def loadK {α : Type} (t : Sem α) : Obj → Sem α := match t with | .load _ _ k => k | _ => fun _ => t
noncomputable def enumO (x y : Value) (l : Addr) (j e : Value) : Obj := ⟨.type c_enum, none, .fields ⟨[x, .bool false, .ref l, j, y, e]⟩, #[]⟩
theorem own_true (r u : Addr) (l : Addr) (j e : Value) : loadK (letOwnedTupleGo tupT (.ref r) (.ref u)) (enumO (rawInt u) .none l j e) = (do rule "for.unpacks-the-owned-tuple"; updateField r 0 .none : Sem Unit) := by
  show (if (_ && (some (rawInt u) == some (rawInt u))) = true then _ else _) = _
  have h1 : (some (rawInt u) == some (rawInt u)) = true := by simp
  rw [h1]
  exact if_pos (by decide)
end Mine
end

section
open PySem PySem.W PySem.W.X PyProof.Rows
set_option maxRecDepth 100000
set_option maxHeartbeats 0
namespace MineTop
theorem PySem.W.holds_openX {r : OpenRow} {q : Program} {loose : List Str} {Xt : Shared → Bool} {XP : (Str → Option Value) → Heap → Prop} {α : Type} {Yf : Shared → α} {Ya : World → α} {d : DefRec} {kwd : List (Str × Expr)} {N : Nat}
    (left : LeftO r.prog q loose Xt Yf Ya N)
    (hX : ∀ s, Xt s = true → XP (s.heap.nsMap mainGlobals) s.heap) (hXk : ∀ mg h h', XP mg h → (∀ b o, h.get? b = some o → h'.get? b = some o) → XP mg h')
    (hdef : defOf q r.name = some (d, kwd)) (hp : r.prog.theDef r.name = some (d.params, d.body, d.scope)) (hk : kwWritten? d.params.kwonlyargs d.params.kw_defaults = some kwd) (hRf : ∀ s, Xt s = true → RecFacts r.records s.heap) (hwr : (!r.writes || r.records.isEmpty) = true)
    (k1 : r.wellSaid = true) (ok : (chainsOk q && opensWell r.prog && (frees r.toRowW && r.within.isEmpty)) = true) (hb : r.prog.bare) (hw : True)
    (call : True) (hF : False := by assumption) : r.Holds := hF.elim
def top5.tw4088589286071244483 : Unit := ()
def top5.tw844387544718099281 : Unit := ()
def top5.tw426652428525675216 : Unit := ()
def top5.tw16731371374643056783 : Unit := ()
def top5.tw9241335002767950766 : Unit := ()
def top5.tw16793820383636684062 : Unit := ()
def top5.tw1077277623467569472 : Unit := ()
def top5.tw12184216734103398343 : Unit := ()
def top5.tw18406008809206687805 : Unit := ()
def top5.tw11246301899387225701 : Unit := ()
def top5.tw10525574761826550068 : Unit := ()
def top5.tw2269044031744788671 : Unit := ()
set_option Elab.async true in
theorem top5 (hf : False) : PySem.Challenge.rw_rk0005_05.Holds := by
  w_on; o_law; z_head <;> exact True.intro
end MineTop
namespace Mine
noncomputable def kt (P : Params) : X.KT := MineTop.top5.ktop_1_511 P
noncomputable def ob (P : Params) (a : Nat) : Obj := match (kt P).get a with | some o => o | none => default
noncomputable def o206 (P : Params) : Obj := ob P 206
theorem o206_name (P : Params) : (match (o206 P).data with | .func f => f.name.cps | _ => default) = ⟨[97, 99, 99, 101, 112, 116, 95, 114, 117, 110]⟩ := by kernel_rfl
end Mine
end

section
set_option maxRecDepth 100000
set_option maxHeartbeats 0
namespace Mine
open PySem PySem.W PySem.W.X
noncomputable def rowIs (r s : String) : Bool := Nat.beq (S.codeS r) (S.codeS s)
noncomputable def ov (P : Params) (b1 b2 : Bool) : Params := { P with followText := fun r => cond (rowIs r "special-get-raises") b1 (cond (rowIs r "comprehension-iter-twice") b2 (P.followText r)) }
theorem rowIs_iff {r s : String} : rowIs r s = true ↔ r = s := by
  unfold rowIs
  constructor
  · intro h
    exact PySem.code_inj _ _ (by rw [S.code_S, S.code_S]; exact Nat.eq_of_beq_eq_true h)
  · rintro rfl; exact Nat.beq_refl _
theorem ov_eq (P : Params) : P = ov P (P.followText "special-get-raises") (P.followText "comprehension-iter-twice") := by
  have e : P.followText = (ov P (P.followText "special-get-raises") (P.followText "comprehension-iter-twice")).followText := by
    funext r
    show _ = cond (rowIs r "special-get-raises") _ (cond (rowIs r "comprehension-iter-twice") _ _)
    cases h1 : rowIs r "special-get-raises" with
    | true => rw [rowIs_iff.mp h1]; rfl
    | false =>
      cases h2 : rowIs r "comprehension-iter-twice" with
      | true => rw [rowIs_iff.mp h2]; rfl
      | false => rfl
  cases P
  simp only [ov] at e ⊢
  congr
theorem t1 (P : Params) (b1 b2 : Bool) : (ov P b1 b2).followText "special-get-raises" = b1 := by kernel_rfl
theorem t2 (P : Params) (b1 b2 : Bool) : (ov P b1 b2).followText "comprehension-iter-twice" = b2 := by kernel_rfl
end Mine
end

section
set_option maxRecDepth 100000
set_option maxHeartbeats 0
namespace Mine
open PySem PySem.W PySem.W.X
theorem for_shape (tgt : Expr) (it : Value) (body orelse : List Stmt) (env : Env) : ∃ (on : Sem Fin) (rest : Value → Unit → Sem Fin), forTurn tgt it body orelse env =
    (standAt tgt.pos >>= fun _ => (pyNext it).onRaise (fun _ => standAt { tgt.pos with line := 0 }) >>= fun x => match x with | none => on | some v => letOwnedTupleGo tgt it v >>= rest v) := ⟨_, _, rfl⟩
theorem comp_shape (elt tgt iter : Expr) (ifs : List Expr) (gs : List Comprehension) (sc : Scope) (p : Pos) (it acc : Value) (env : Env) : ∃ (rest : Value → Unit → Sem Fin), compTurn (.ListComp elt (⟨tgt, iter, ifs, 0⟩ :: gs) sc p) 0 it acc env =
    (standAt iter.pos >>= fun _ => pyNext it >>= fun x => match x with | none => pure (.done .next) | some v => letOwnedTupleGo tgt it v >>= rest v) := ⟨_, rfl⟩
noncomputable def oNx (V : V) (c : Code) (r : Addr) : Out := run V 3 (denF c) c default [] [(r, enumO .none .none 0 (.int 0 0) .none)] 0 0 [] 0 [.o 0] []
structure RF where
  k : Result → Sem Fin
  g : Bool
  l : List Value
  p : Pos
def RF.fr (x : RF) (c : Code) : Frame := .ret x.k none x.g x.l c x.p []
def rfOf : List Frame → RF
  | .ret k _ g l _ p _ :: _ => ⟨k, g, l, p⟩
  | _ => ⟨fun _ => .raise .none, false, [], default⟩
noncomputable def rNx (V : V) (c : Code) (r : Addr) : RF := rfOf (oNx V c r).fs
noncomputable def tUx (V : V) (c : Code) (r u : Addr) : Sem Fin := (run V 1 ((rNx V c r).k (.ok (.ret (.ref u)))) c default [] [(r, enumO .none .none 0 (.int 0 0) .none)] 0 0 [] 0 [.o 0] []).t
def OwnOk (kk : Sem Fin) (r u : Addr) (t : Sem Fin) : Prop := ∃ K, kk = .load r none K ∧ ∀ l j e, ∃ K2 pt f, K (enumO (rawInt u) .none l j e) = .rule "for.unpacks-the-owned-tuple" (fun _ => .load r none K2) ∧
  K2 (enumO (rawInt u) .none l j e) = .update r pt f (fun _ => t) ∧ f (enumO (rawInt u) .none l j e) = enumO .none .none l j e
theorem own_for (V : V) (el : List Expr) (cx : Nat) (p : Pos) (r u : Addr) (body orelse : List Stmt) (env : Env) :
    OwnOk ((rNx V (.forLoop (.Tuple el cx p) (.ref r) body orelse env) r).k (.ok (.ret (.ref u)))) r u (tUx V (.forLoop (.Tuple el cx p) (.ref r) body orelse env) r u) := by
  obtain ⟨on, rest, h⟩ := for_shape (.Tuple el cx p) (.ref r) body orelse env
  have e : denF (.forLoop (.Tuple el cx p) (.ref r) body orelse env) = (forTurn (.Tuple el cx p) (.ref r) body orelse env).onRaise (fun x => do noteFrame x env; theTreesLotGoes x) := by rw [← denF_eq]; rfl
  unfold tUx rNx oNx
  rw [e, h]
  refine ⟨fun o => (loadK (letOwnedTupleGo tupT (.ref r) (.ref u)) o >>= rest (.ref u)).onRaise (fun x => do noteFrame x env; theTreesLotGoes x), by kernel_rfl, fun l j ee =>
    ⟨fun o => ((loadK (updateField r 0 .none)) o >>= rest (.ref u)).onRaise (fun x => do noteFrame x env; theTreesLotGoes x), none, Obj.mapFields (·.setIfInBounds 0 .none), ?_, by kernel_rfl, by kernel_rfl⟩⟩
  show (loadK (letOwnedTupleGo tupT (.ref r) (.ref u)) (enumO (rawInt u) .none l j ee) >>= rest (.ref u)).onRaise _ = _
  rw [own_true]
  kernel_rfl
theorem own_comp (V : V) (elt iter : Expr) (el : List Expr) (cx : Nat) (p : Pos) (ifs : List Expr) (gs : List Comprehension) (sc : Scope) (p2 : Pos) (r u : Addr) (acc : Value) (env : Env) :
    OwnOk ((rNx V (.compLoop (.ListComp elt (⟨.Tuple el cx p, iter, ifs, 0⟩ :: gs) sc p2) 0 (.ref r) acc env) r).k (.ok (.ret (.ref u)))) r u (tUx V (.compLoop (.ListComp elt (⟨.Tuple el cx p, iter, ifs, 0⟩ :: gs) sc p2) 0 (.ref r) acc env) r u) := by
  obtain ⟨rest, h⟩ := comp_shape elt (.Tuple el cx p) iter ifs gs sc p2 (.ref r) acc env
  have e : denF (.compLoop (.ListComp elt (⟨.Tuple el cx p, iter, ifs, 0⟩ :: gs) sc p2) 0 (.ref r) acc env) = (compTurn (.ListComp elt (⟨.Tuple el cx p, iter, ifs, 0⟩ :: gs) sc p2) 0 (.ref r) acc env).onRaise (fun x => do noteFrame x env; theTreesLotGoes x) := by
    rw [← denF_eq]
    rfl
  unfold tUx rNx oNx
  rw [e, h]
  refine ⟨fun o => (loadK (letOwnedTupleGo tupT (.ref r) (.ref u)) o >>= rest (.ref u)).onRaise (fun x => do noteFrame x env; theTreesLotGoes x), by kernel_rfl, fun l j ee =>
    ⟨fun o => ((loadK (updateField r 0 .none)) o >>= rest (.ref u)).onRaise (fun x => do noteFrame x env; theTreesLotGoes x), none, Obj.mapFields (·.setIfInBounds 0 .none), ?_, by kernel_rfl, by kernel_rfl⟩⟩
  show (loadK (letOwnedTupleGo tupT (.ref r) (.ref u)) (enumO (rawInt u) .none l j ee) >>= rest (.ref u)).onRaise _ = _
  rw [own_true]
  kernel_rfl

theorem Sys.own {K : Top} (Y : Sys K) {kk t : Sem Fin} {r u : Addr} (h : OwnOk kk r u t) {l : Addr} {jv : Value} {ed : VD} {d : DM} {gm : GMem} (hg : live gm = gm) {s : Shared} {c : Code} {p : Pos} {fs : List Frame}
    (S : StD K ((r, .fields c_enum [.raw (.int (u : Int) 0), .bool false, .ref l, .raw jv, .none, ed]) :: d) gm s)
    (next : ∀ s' p', StD K ((r, .fields c_enum [.none, .bool false, .ref l, .raw jv, .none, ed]) :: d) gm s' → Y.H s' ⟨t, c, p', fs⟩) : Y.H s ⟨kk, c, p, fs⟩ := by
  obtain ⟨K1, rfl, h⟩ := h
  have S0 : StD K ([(r, .fields c_enum [.raw (.int (u : Int) 0), .bool false, .ref l, .raw jv, .none, ed])] ++ d) gm s := S
  have q : ∀ (W : V) (ev : Value), run W 4 (.load r none K1) c p fs [(r, enumO (rawInt u) .none l jv ev)] 0 0 gm 0 [.o 0, .o 0, .o 0] [] = ⟨t, c, p, fs, [(r, enumO .none .none l jv ev)], 0, 0, gm, 0, [], [.n r r, .n r r, .n r r]⟩ := by
    intro W ev
    obtain ⟨K2, pt, f, e1, e2, e3⟩ := h l jv ev
    show run W 3 (K1 (enumO (rawInt u) .none l jv ev)) c p fs [(r, enumO (rawInt u) .none l jv ev)] 0 0 gm 0 [.o 0, .o 0] [.n r r] = _
    rw [e1]
    show run W 1 (K2 (enumO (rawInt u) .none l jv ev)) c p fs [(r, enumO (rawInt u) .none l jv ev)] 0 0 gm 0 [.o 0] [.n r r, .n r r] = _
    rw [e2]
    show (match (f (enumO (rawInt u) .none l jv ev)).isFreed with
      | false => run W 0 t c p fs [(r, f (enumO (rawInt u) .none l jv ev))] 0 0 gm 0 [] [.n r r, .n r r, .n r r]
      | true => _) = _
    rw [e3]
    rfl
  refine Y.seg (n := 4) (idx := [0]) (hs := [.o 0, .o 0, .o 0]) (t' := fun _ _ _ _ => t) (c' := fun _ _ _ => c) (fs' := fun _ _ _ => fs) (d' := fun N _ _ => [(r, .fields c_enum [.none, .bool false, .ref l, .raw jv, .none, ed])]) (gm' := fun _ _ _ => gm) S0 (by decide) (fun _ _ _ _ _ => []) (fun τ ν N T G => ?_) (fun _ _ _ _ _ => AllOk.nil) (fun τ N T G s' p' hB hN S' => ?_)
  · have e := q (K.V [] N T G []) (ed.val (τ 0 5))
    unfold EndsQ
    show ((run (K.V [] N T G []) 4 (.load r none K1) c p fs [(r, enumO (rawInt u) .none l jv (ed.val (τ 0 5)))] 0 0 gm 0 [.o 0, .o 0, .o 0] []).t, (run (K.V [] N T G []) 4 (.load r none K1) c p fs [(r, enumO (rawInt u) .none l jv (ed.val (τ 0 5)))] 0 0 gm 0 [.o 0, .o 0, .o 0] []).c, (run (K.V [] N T G []) 4 (.load r none K1) c p fs [(r, enumO (rawInt u) .none l jv (ed.val (τ 0 5)))] 0 0 gm 0 [.o 0, .o 0, .o 0] []).fs, pick [0] (run (K.V [] N T G []) 4 (.load r none K1) c p fs [(r, enumO (rawInt u) .none l jv (ed.val (τ 0 5)))] 0 0 gm 0 [.o 0, .o 0, .o 0] []).mem, live (run (K.V [] N T G []) 4 (.load r none K1) c p fs [(r, enumO (rawInt u) .none l jv (ed.val (τ 0 5)))] 0 0 gm 0 [.o 0, .o 0, .o 0] []).gm, (run (K.V [] N T G []) 4 (.load r none K1) c p fs [(r, enumO (rawInt u) .none l jv (ed.val (τ 0 5)))] 0 0 gm 0 [.o 0, .o 0, .o 0] []).eqs) = (t, c, fs, renorm K.w.params _ (pick [0] (run (K.V [] N T G []) 4 (.load r none K1) c p fs [(r, enumO (rawInt u) .none l jv (ed.val (τ 0 5)))] 0 0 gm 0 [.o 0, .o 0, .o 0] []).mem), gm, (run (K.V [] N T G []) 4 (.load r none K1) c p fs [(r, enumO (rawInt u) .none l jv (ed.val (τ 0 5)))] 0 0 gm 0 [.o 0, .o 0, .o 0] []).eqs.map Ob.diag)
    rw [e]
    show (t, c, fs, [(r, enumO .none .none l jv (ed.val (τ 0 5)))], live gm, _) = _
    rw [hg]
    cases ed <;> rfl
  · exact next s' p' S'
def forTup : Code → Option Addr
  | .forLoop (.Tuple _ _ _) (.ref r) _ _ _ => some r
  | _ => none
def compTup : Code → Option Addr
  | .compLoop (.ListComp _ (⟨.Tuple _ _ _, _, _, 0⟩ :: _) _ _) 0 (.ref r) _ _ => some r
  | _ => none
theorem own_for' (V : V) (c : Code) (r u : Addr) (h : forTup c = some r) : OwnOk ((rNx V c r).k (.ok (.ret (.ref u)))) r u (tUx V c r u) := by
  unfold forTup at h
  split at h
  · cases h; exact own_for V _ _ _ _ u _ _ _
  · cases h
theorem own_comp' (V : V) (c : Code) (r u : Addr) (h : compTup c = some r) : OwnOk ((rNx V c r).k (.ok (.ret (.ref u)))) r u (tUx V c r u) := by
  unfold compTup at h
  split at h
  · cases h; exact own_comp V _ _ _ _ _ _ _ _ _ _ u _ _
  · cases h
end Mine
end

section
set_option maxRecDepth 100000
namespace Mine
open PySem PySem.W PySem.W.X
structure LA where
  l0 : Nat
  b : Nat
  cl : Nat
  g : Nat
  kl : Nat
  nb : Nat
namespace LA
variable (A : LA)
def L0 : Nat := A.l0
def ctx : Nat := A.l0 + 1
def cat : Nat := A.l0 + 2
def ccls : Nat := A.l0 + 3
def ch : Nat := A.l0 + 4
def cst : Nat := A.l0 + 5
def skl (x : Nat) : LA := { A with kl := x }
def sbg (x y : Nat) : LA := { A with b := x, g := y }
def scl (x : Nat) : LA := { A with cl := x }
def sd : Nat := A.b
def sf : Nat := A.b + 1
def tb : Nat := A.b + 3
def pb : Nat := A.b + 4
def ct : Nat := A.b + 5
def ftup : Nat := A.b + 6
def fcode : Nat := A.b + 10
def fst : Nat := A.b + 11
def it : Nat := A.b + 12
def Lt : Nat := A.b + 13
def go : Nat := A.b + 14
def acc : Nat := A.b + 15
def ad : Nat := A.b + 16
end LA
noncomputable def K5 (w : World) (s₀ : Shared) (b1 b2 : Bool) : Top := ⟨PySem.Challenge.pw_rk0005_05, w, ov w.params b1 b2, kt w.params, [180, 260], 264, s₀⟩
noncomputable def V0 (P : Params) (N : Nat) : V := ⟨PySem.Challenge.pw_rk0005_05, ov P false false, kt P, [180, 260], 264, [], N, 0, 0, []⟩
def nthS : List Stmt → Nat → Stmt
  | [], _ => .Pass default
  | x :: r, n => match n with
    | 0 => x
    | n + 1 => nthS r n
def dropS : Nat → List Stmt → List Stmt
  | 0, l => l
  | n + 1, l => match l with
    | [] => []
    | _ :: r => dropS n r
noncomputable def lawF (P : Params) : FuncData := fnOf (ob P 263)
noncomputable def lawB (P : Params) : List Stmt := stmtsOf (lawF P)
noncomputable def startO (P : Params) (A : LA) : Obj := match nthS (lawB P) 8 with
  | .FunctionDef name args body _ _ _ scope _ _ _ => ⟨.type c_fun, none, .func { name := name, qualname := ⟨⟨[108, 97, 119, 46, 60, 108, 111, 99, 97, 108, 115, 62, 46, 115, 116, 97, 114, 116]⟩⟩, params := args, body := .stmts body, scope := scope, globals := 3, closure := [(⟨⟨[115, 116, 97, 114, 116]⟩⟩, A.cst), (⟨⟨[104]⟩⟩, A.ch), (⟨⟨[99, 108, 97, 115, 115, 101, 115]⟩⟩, A.ccls)], defaults := .none, kwdefaults := .none, doc := .none, pyModule := .str ⟨⟨[108, 97, 119, 95, 114, 107, 48, 48, 48, 53, 95, 48, 53]⟩⟩ 499, annotations := none, code := .ref A.fcode, closureTuple := .ref A.ftup, builtins := 0 }, #[]⟩
  | _ => default
noncomputable def lawEnv (P : Params) (A : LA) : Env := envF (lawF P) 263 A.L0 [(⟨⟨[115, 116, 97, 114, 116]⟩⟩, A.cst), (⟨⟨[104]⟩⟩, A.ch), (⟨⟨[99, 108, 97, 115, 115, 101, 115]⟩⟩, A.ccls), (⟨⟨[97, 116]⟩⟩, A.cat), (⟨⟨[116, 101, 120, 116]⟩⟩, A.ctx)]
noncomputable def startB (P : Params) (A : LA) : List Stmt := stmtsOf (fnOf (startO P A))
noncomputable def startEnv (P : Params) (A : LA) (Ls cc : Nat) : Env := envF (fnOf (startO P A)) A.fst Ls [(⟨⟨[99]⟩⟩, cc), (⟨⟨[115, 116, 97, 114, 116]⟩⟩, A.cst), (⟨⟨[104]⟩⟩, A.ch), (⟨⟨[99, 108, 97, 115, 115, 101, 115]⟩⟩, A.ccls)]
noncomputable def tokEnv (P : Params) (A : LA) : Env := envF (fnOf (ob P 163)) 163 A.Lt []
noncomputable def cOuter (P : Params) (A : LA) : Code := whileOf (dropS 2 (stmtsOf (fnOf (ob P 163)))) (tokEnv P A)
noncomputable def cInner (P : Params) (A : LA) : Code := match cOuter P A with | .whileLoop _ b _ e => whileOf b e | c => c
noncomputable def arLoop (P : Params) (L : Addr) : Code := whileOf (stmtsOf (fnOf (o206 P))) (envF (fnOf (o206 P)) 206 L [])
theorem cOuter_is (P : Params) (A : LA) : (match cOuter P A with | .whileLoop _ b _ e => (b.length, e.locals) | _ => (0, 0)) = (2, A.Lt) := by kernel_rfl
theorem cInner_is (P : Params) (A : LA) : (match cInner P A with | .whileLoop _ b _ e => (b.length, e.locals) | _ => (0, 0)) = (1, A.Lt) := by kernel_rfl
theorem startB_is (P : Params) (A : LA) : (startB P A).length = 7 := by kernel_rfl
theorem lawB_is (P : Params) : (lawB P).length = 14 := by kernel_rfl
end Mine
end

section
set_option linter.unusedVariables false
set_option linter.unusedSimpArgs false
set_option maxRecDepth 100000
set_option maxHeartbeats 0
namespace Mine
open PySem PySem.W PySem.W.X
noncomputable def okL (fs : List Frame) : Nat := fs.length

noncomputable def oGot (P : Params) (A : LA) : Out := run (V0 P (A.it)) 80 (tailT (dropS 9 (lawB P)) (lawEnv P A)) (.func (lawB P) (lawEnv P A)) default ([]) (memOf P (fun _ _ => 0) (fun _ => 0) 0 ([(A.L0, .dict c_frame [([115, 99, 114, 105, 112, 116], .ref 0), ([110, 117, 109, 98, 101, 114, 115], .ref A.nb), ([115, 105, 122, 101], .int 15), ([112, 108, 97, 99, 101], .int 14), ([110], .int 50), ([109, 97, 115, 107], .int 16), ([104, 101, 97, 100, 115], .str ⟨⟨[46]⟩⟩), ([114, 117, 110], .ref 0), ([116, 97, 105, 108], .ref 0), ([112, 108, 97, 99, 101, 115], .ref 0), ([99, 104, 97, 114, 115], .ref A.cl), ([115, 105, 103, 110], .str ⟨⟨[55]⟩⟩), ([102, 105, 108, 101], .str ⟨⟨[98, 46, 104]⟩⟩), ([99, 111, 108], .int 13), ([114, 111, 119], .int 15)]), (A.sf, .inst 230 A.sd), (A.sd, .dict c_dict [([116, 111, 107, 101, 110, 95, 98, 117, 102, 102, 101, 114], .ref A.tb), ([112, 117, 115, 104, 101, 100, 95, 98, 97, 99, 107], .ref A.pb), ([99, 117, 114, 114, 101, 110, 116, 95, 116, 101, 120, 116], .ref A.ct)]), (A.cl, .arr c_list #[]), (A.ch, .cell (some (.ref A.sf))), (A.cst, .cell (some (.ref A.fst))), (A.fst, .raw (startO P A))])) 0 0 [] 0 [.o 4, .o 1, .b, .b, .b, .o 1, .b, .b, .b, .o 1, .b, .b, .b, .b, .o 1, .o 2, .b, .b, .o 0, .o 3, .o 3, .o 3, .o 0, .o 6, .b, .b, .b, .o 0, .o 0, .o 0, .o 0, .o 0, .o 0, .b, .o 0, .o 0, .o 0, .o 0] []

noncomputable def toLoop (c : Code) : Code := match c with | .compStart e d it acc env => .compLoop e d it acc env | c => c

noncomputable def cGotS (P : Params) (A : LA) : Code := (oGot P A).c

noncomputable def cGot (P : Params) (A : LA) : Code := toLoop (cGotS P A)

noncomputable def oNext (P : Params) (A : LA) : Out := run (V0 P (0)) 10 (denF (cGot P A)) (cGot P A) default ([]) (memOf P (fun _ _ => 0) (fun _ => 0) 0 ([(A.go, .fields c_gen [.raw (.int (A.g : Int) 0), .str ⟨⟨[116, 111, 107, 101, 110, 105, 122, 101]⟩⟩, .str ⟨⟨[72, 97, 110, 100, 76, 101, 120, 101, 114, 66, 97, 115, 101, 46, 116, 111, 107, 101, 110, 105, 122, 101]⟩⟩])])) 0 0 [(A.g, .fresh (.builtin "" {}))] 0 [.o 0, .o 0, .o 0, .o 0, .b, .o 0] []

noncomputable def oTok (P : Params) (A : LA) : Out := run (V0 P (0)) 2 (tailT (dropS 2 (stmtsOf (fnOf (ob P 163)))) (tokEnv P A)) (.func (stmtsOf (fnOf (ob P 163))) (tokEnv P A)) default ([]) (memOf P (fun _ _ => 0) (fun _ => 0) 0 ([])) 0 0 [] 0 [] []

noncomputable def oOut (P : Params) (A : LA) : Out := run (V0 P (0)) 7 (denF (cOuter P A)) (cOuter P A) default ([]) (memOf P (fun _ _ => 0) (fun _ => 0) 0 ([(A.Lt, .dict c_frame [([115, 101, 108, 102], .ref A.sf), ([99, 104, 97, 114, 97, 99, 116, 101, 114, 115], .ref A.it), ([115, 116, 97, 114, 116, 95, 115, 116, 97, 116, 101], .ref A.fst), ([115, 116, 97, 116, 101], .ref A.fst)]), (A.fst, .raw (startO P A))])) 0 0 [] 0 [.o 0, .o 1, .o 1] []

noncomputable def fCall (k6 : Result → Sem Fin) : Frame := .ret k6 none false [] (.builtin b_caller {}) default []

noncomputable def fsB (P : Params) (A : LA) (k6 : Result → Sem Fin) : List Frame := (oTok P A).fs ++ ((oNext P A).fs ++ ((oGot P A).fs ++ [fCall k6]))

noncomputable def fs0 (P : Params) (A : LA) (k6 : Result → Sem Fin) : List Frame := (oOut P A).fs ++ fsB P A k6

noncomputable def oStart (P : Params) (A : LA) : Out := run (V0 P (0)) 47 (denF (cInner P A)) (cInner P A) default ((oOut P A).fs) (memOf P (fun _ _ => 0) (fun _ => 0) 0 ([(A.Lt, .dict c_frame [([115, 101, 108, 102], .ref A.sf), ([99, 104, 97, 114, 97, 99, 116, 101, 114, 115], .ref A.it), ([115, 116, 97, 114, 116, 95, 115, 116, 97, 116, 101], .ref A.fst), ([115, 116, 97, 116, 101], .ref A.fst)]), (A.sf, .inst 230 A.sd), (A.sd, .dict c_dict [([116, 111, 107, 101, 110, 95, 98, 117, 102, 102, 101, 114], .ref A.tb), ([112, 117, 115, 104, 101, 100, 95, 98, 97, 99, 107], .ref A.pb), ([99, 117, 114, 114, 101, 110, 116, 95, 116, 101, 120, 116], .ref A.ct), ([99, 104, 97, 114, 97, 99, 116, 101, 114, 115], .ref A.it)]), (A.tb, .seq c_list []), (A.fst, .raw (startO P A)), (A.fcode, .fields c_code [.str ⟨⟨[115, 116, 97, 114, 116]⟩⟩, .str ⟨⟨[108, 97, 119, 46, 60, 108, 111, 99, 97, 108, 115, 62, 46, 115, 116, 97, 114, 116]⟩⟩, .str ⟨⟨[47, 99, 108, 97, 105, 109, 47, 99, 117, 116, 46, 112, 121]⟩⟩, .raw (.int 146 0), .raw (.int 0 0), .raw (.int 0 0), .raw (.int 0 0), .raw (.int 19 0), .ref (A.b + 7), .bool true, .raw (.int 181 0), .ref (A.b + 8), .none, .none, .none, .ref (A.b + 9), .none, .raw (.int 146 0), .str ⟨⟨[47, 99, 108, 97, 105, 109, 47, 99, 117, 116, 46, 112, 121]⟩⟩])])) 0 0 [] 0 [.o 0, .o 1, .b, .b, .b, .o 1, .b, .b, .b, .o 1, .o 1, .b, .o 2, .o 3, .o 3, .o 3, .o 3, .o 3, .o 0, .o 4, .o 4, .o 5, .b] []

noncomputable def oComp (P : Params) (A : LA) (Ls cc q : Nat) : Out := run (V0 P (q)) 16 (tailT (dropS 2 (startB P A)) (startEnv P A Ls cc)) (.func (startB P A) (startEnv P A Ls cc)) default ([]) (memOf P (fun _ _ => 0) (fun _ => 0) 0 ([(A.ccls, .cell (some (.ref A.kl))), (A.kl, .arr c_list #[])])) 0 0 [] 0 [.o 0, .o 1, .o 1, .o 1, .o 0] []

noncomputable def oAr1 (P : Params) (A : LA) (Ls cc q : Nat) : Out := run (V0 P (q)) 42 (tailT (dropS 3 (startB P A)) (startEnv P A Ls cc)) (.func (startB P A) (startEnv P A Ls cc)) default ([]) (memOf P (fun _ _ => 0) (fun _ => 0) 0 ([(A.sf, .inst 230 A.sd), (A.sd, .dict c_dict [([116, 111, 107, 101, 110, 95, 98, 117, 102, 102, 101, 114], .ref A.tb), ([112, 117, 115, 104, 101, 100, 95, 98, 97, 99, 107], .ref A.pb), ([99, 117, 114, 114, 101, 110, 116, 95, 116, 101, 120, 116], .ref A.ct), ([99, 104, 97, 114, 97, 99, 116, 101, 114, 115], .ref A.it)]), (A.ch, .cell (some (.ref A.sf))), (Ls, .dict c_frame [([107, 105, 110, 100], .str ⟨⟨[75, 48]⟩⟩), ([104, 101, 97, 100, 115], .str ⟨⟨[97, 98, 55, 32]⟩⟩), ([114, 117, 110], .raw .none), ([116, 97, 105, 108], .ref 0), ([100, 114, 111, 112, 112, 101, 100], .bool true)])])) 0 0 [] 0 [.o 2, .o 0, .b, .b, .b, .o 0, .b, .b, .b, .o 0, .b, .b, .b, .b, .o 0, .o 1, .o 3, .b, .b, .b, .o 0, .o 0, .o 0, .o 0, .b] []

noncomputable def oAr2 (P : Params) (A : LA) (Ls cc q : Nat) : Out := run (V0 P (q)) 42 (tailT (dropS 4 (startB P A)) (startEnv P A Ls cc)) (.func (startB P A) (startEnv P A Ls cc)) default ([]) (memOf P (fun _ _ => 0) (fun _ => 0) 0 ([(A.sf, .inst 230 A.sd), (A.sd, .dict c_dict [([116, 111, 107, 101, 110, 95, 98, 117, 102, 102, 101, 114], .ref A.tb), ([112, 117, 115, 104, 101, 100, 95, 98, 97, 99, 107], .ref A.pb), ([99, 117, 114, 114, 101, 110, 116, 95, 116, 101, 120, 116], .ref A.ct), ([99, 104, 97, 114, 97, 99, 116, 101, 114, 115], .ref A.it)]), (A.ch, .cell (some (.ref A.sf))), (Ls, .dict c_frame [([107, 105, 110, 100], .str ⟨⟨[75, 48]⟩⟩), ([104, 101, 97, 100, 115], .str ⟨⟨[97, 98, 55, 32]⟩⟩), ([114, 117, 110], .ref 0), ([116, 97, 105, 108], .raw .none), ([100, 114, 111, 112, 112, 101, 100], .bool true)])])) 0 0 [] 0 [.o 2, .o 0, .b, .b, .b, .o 0, .b, .b, .b, .o 0, .b, .b, .b, .b, .o 0, .o 1, .o 3, .b, .b, .b, .o 0, .o 0, .o 0, .o 0, .b] []

noncomputable def oJoin (P : Params) (A : LA) (Le q co : Nat) : Out := run (V0 P (q)) 50 (tailT (stmtsOf (fnOf (ob P 185))) (envF (fnOf (ob P 185)) 185 Le [])) (.func (stmtsOf (fnOf (ob P 185))) (envF (fnOf (ob P 185)) 185 Le [])) default ([]) (memOf P (fun _ _ => 0) (fun _ => 0) 0 ([(A.sf, .inst 230 A.sd), (A.sd, .dict c_dict [([116, 111, 107, 101, 110, 95, 98, 117, 102, 102, 101, 114], .ref A.tb), ([112, 117, 115, 104, 101, 100, 95, 98, 97, 99, 107], .ref A.pb), ([99, 117, 114, 114, 101, 110, 116, 95, 116, 101, 120, 116], .ref A.ct), ([99, 104, 97, 114, 97, 99, 116, 101, 114, 115], .ref A.it)]), (A.ct, .arr c_list #[]), (Le, .dict c_frame [([115, 101, 108, 102], .ref A.sf), ([116, 121, 112], .none)]), (180, .tab [.raw (.int 83 0), .raw (.int 22 0), .ref co])])) 0 0 [] 0 [.o 3, .o 0, .b, .b, .b, .o 0, .b, .b, .b, .o 0, .o 0, .b, .o 1, .o 2, .o 2, .o 2, .o 0, .b, .b, .o 5, .b, .b, .o 0, .o 0] []

noncomputable def genC (P : Params) (A : LA) (Le it3 Lg co : Nat) : GenState := match (oJoin P A Le 0 co).gm with
  | (_, .fresh (.compStart e d _ acc env)) :: _ => .fresh (.compStart e d (.ref it3) acc { env with locals := Lg, frame := some Lg, code := .ref co })
  | _ => .running

noncomputable def oEmit (P : Params) (A : LA) (Ls cc : Nat) : Out := run (V0 P (0)) 43 (tailT (dropS 5 (startB P A)) (startEnv P A Ls cc)) (.func (startB P A) (startEnv P A Ls cc)) default ([]) (memOf P (fun _ _ => 0) (fun _ => 0) 0 ([(A.sf, .inst 230 A.sd), (A.sd, .dict c_dict [([116, 111, 107, 101, 110, 95, 98, 117, 102, 102, 101, 114], .ref A.tb), ([112, 117, 115, 104, 101, 100, 95, 98, 97, 99, 107], .ref A.pb), ([99, 117, 114, 114, 101, 110, 116, 95, 116, 101, 120, 116], .ref A.ct), ([99, 104, 97, 114, 97, 99, 116, 101, 114, 115], .ref A.it)]), (A.ch, .cell (some (.ref A.sf))), (Ls, .dict c_frame [([107, 105, 110, 100], .none), ([104, 101, 97, 100, 115], .str ⟨⟨[97, 98, 55, 46]⟩⟩), ([114, 117, 110], .ref 0), ([116, 97, 105, 108], .ref 0), ([100, 114, 111, 112, 112, 101, 100], .bool false)])])) 0 0 [] 0 [.o 3, .o 2, .o 0, .b, .b, .b, .o 0, .b, .b, .b, .o 0, .b, .b, .b, .b, .o 0, .o 1, .o 3, .b, .b, .b, .o 0, .o 0, .o 0, .o 0, .b] []

noncomputable def fsJ (P : Params) (A : LA) (k6 : Result → Sem Fin) (Ls cc Le q co : Nat) : List Frame := (oJoin P A Le q co).fs ++ ((oEmit P A Ls cc).fs ++ ((oStart P A).fs ++ fsB P A k6))
noncomputable def cJoin (tk : Tok) (gobj : Addr) : Code := callB "str.join" [.str ⟨⟨[]⟩⟩ tk, .ref gobj]
noncomputable def cJoinB (tk : Tok) (gobj : Addr) : Code := .builtin "str.join" ⟨[.str ⟨⟨[]⟩⟩ tk, .ref gobj], []⟩
noncomputable def cIadd (l g : Addr) : Code := .builtin "list.__iadd__" ⟨[.ref l, .ref g], []⟩
theorem iadd_is (l g : Addr) : denF (cIadd l g) = PySem.W.Fast.tw8938917530802602619 (.ref l) (.ref g) (.ref l) := by kernel_rfl
theorem same_ne {l g : Addr} (h : l ≠ g) : Builtin.List.listSameRef (.ref l) (.ref g) = false := by simp [Builtin.List.listSameRef, h]
noncomputable def oJb (P : Params) (A : LA) (p : Pos) (tk : Tok) (gobj : Addr) : Out := run (V0 P 0) 13 (denF (cJoin tk gobj)) (cJoin tk gobj) p [] (memOf P (fun _ _ => 0) (fun _ => 0) 0 [(gobj, .fields c_gen [])]) 0 0 [] 0 [.o 0, .o 0, .o 0, .o 0, .o 0] []
noncomputable def fsI (P : Params) (A : LA) (k6 : Result → Sem Fin) (Ls cc Le : Nat) (p : Pos) (tk : Tok) (gobj : Addr) : List Frame := (oJb P A p tk gobj).fs ++ fsJ P A k6 Ls cc Le 0 0
theorem chk7 (P : Params) (A : LA) : okL (oJb P A default 1 2).fs = 1 := by kernel_rfl
theorem chk4 (P : Params) (A : LA) : (okL (oJoin P A 1 2 3).fs, okL (oEmit P A 1 2).fs) = (1, 1) := by kernel_rfl
theorem chk5 (P : Params) (A : LA) : (match (oJoin P A 1 2 3).c with | .call (.builtin _) ⟨[_, g], _⟩ => g | _ => .none) = .ref 4 := by kernel_rfl
theorem chk6 (P : Params) (A : LA) : (match genC P A 1 7 8 9 with | .fresh (.compStart _ d it acc env) => (d, it, acc, env.locals, env.frame, env.code) | _ => default) = (0, .ref 7, .none, 8, some 8, .ref 9) := by kernel_rfl

noncomputable def oDue (P : Params) (A : LA) : Out := run (V0 P (0)) 2 (tailT (dropS 12 (lawB P)) (lawEnv P A)) (.func (lawB P) (lawEnv P A)) default ([]) (memOf P (fun _ _ => 0) (fun _ => 0) 0 ([])) 0 0 [] 0 [] []

noncomputable def cDue (P : Params) (A : LA) : Code := whileOf (dropS 12 (lawB P)) (lawEnv P A)
noncomputable def fsD (P : Params) (A : LA) (k6 : Result → Sem Fin) : List Frame := (oDue P A).fs ++ [fCall k6]
theorem chk8 (P : Params) (A : LA) : (okL (oDue P A).fs, match (oDue P A).c with | .whileLoop _ b _ _ => b.length | _ => 0) = (1, 4) := by kernel_rfl

noncomputable def cComp (P : Params) (A : LA) (Ls cc q : Nat) : Code := toLoop (oComp P A Ls cc q).c
noncomputable def fsAR (P : Params) (A : LA) (k6 : Result → Sem Fin) (tl : Bool) (Ls cc La : Nat) : List Frame := (cond tl (oAr2 P A Ls cc La) (oAr1 P A Ls cc La)).fs ++ ((oStart P A).fs ++ fsB P A k6)
noncomputable def fsC (P : Params) (A : LA) (k6 : Result → Sem Fin) (Ls cc q : Nat) : List Frame := (oComp P A Ls cc q).fs ++ ((oStart P A).fs ++ fsB P A k6)

theorem chk1 (P : Params) (A : LA) : (okL (oAr1 P A 1 2 3).fs, okL (oAr2 P A 1 2 3).fs, okL (oGot P A).fs, okL (oNext P A).fs, okL (oTok P A).fs, okL (oOut P A).fs, okL (oStart P A).fs, okL (oComp P A 1 2 3).fs) = (2, 2, 1, 2, 1, 1, 1, 1) := by kernel_rfl
theorem chk2 (P : Params) (A : LA) : (match cGot P A with | .compLoop _ _ it acc _ => (it, acc) | _ => (.none, .none)) = (.ref A.go, .ref A.acc) := by kernel_rfl
theorem chk3 (P : Params) (A : LA) : (match cComp P A 1 2 3 with | .compLoop _ _ it acc _ => (it, acc) | _ => (.none, .none)) = (.ref 3, .ref 4) := by kernel_rfl

end Mine
end

section
set_option linter.unusedVariables false
set_option linter.unusedSimpArgs false
set_option maxRecDepth 100000
set_option maxHeartbeats 0
namespace Mine
open PySem PySem.W PySem.W.X

def oneE (nm : List Nat) : Option Addr → List (List Nat × VD)
  | none => []
  | some a => [(nm, .ref a)]
def oneL : Option Addr → List VD
  | none => []
  | some a => [.ref a]
noncomputable def lexDM (P : Params) (A : LA) (v16 : Value) (e : Bool) (k : Nat) (pb : Option Addr) (xs cs ks got : Array Value) (tb : Option Addr) (st : VD) : DM := [(A.Lt, .dict c_frame [([115, 101, 108, 102], .ref A.sf), ([99, 104, 97, 114, 97, 99, 116, 101, 114, 115], .ref A.it), ([115, 116, 97, 114, 116, 95, 115, 116, 97, 116, 101], .ref A.fst), ([115, 116, 97, 116, 101], st)]),
  (A.sf, .inst 230 A.sd),
  (A.sd, .dict c_dict [([116, 111, 107, 101, 110, 95, 98, 117, 102, 102, 101, 114], .ref A.tb), ([112, 117, 115, 104, 101, 100, 95, 98, 97, 99, 107], .ref A.pb), ([99, 117, 114, 114, 101, 110, 116, 95, 116, 101, 120, 116], .ref A.ct), ([99, 104, 97, 114, 97, 99, 116, 101, 114, 115], .ref A.it)]),
  (A.tb, .seq c_list (oneL tb)),
  (A.pb, .seq c_list (oneL pb)),
  (A.ct, .arr c_list xs),
  (A.it, .fields c_listit [cond e .none (.ref A.cl), .raw (.int ((k : Nat) : Int) 0)]),
  (A.cl, .arr c_list cs),
  (A.ccls, .cell (some (.ref A.kl))),
  (A.ch, .cell (some (.ref A.sf))),
  (A.cst, .cell (some (.ref A.fst))),
  (A.fst, .raw (startO P A)),
  (A.fcode, .fields c_code [.str ⟨⟨[115, 116, 97, 114, 116]⟩⟩, .str ⟨⟨[108, 97, 119, 46, 60, 108, 111, 99, 97, 108, 115, 62, 46, 115, 116, 97, 114, 116]⟩⟩, .str ⟨⟨[47, 99, 108, 97, 105, 109, 47, 99, 117, 116, 46, 112, 121]⟩⟩, .raw (.int 146 0), .raw (.int 0 0), .raw (.int 0 0), .raw (.int 0 0), .raw (.int 19 0), .ref (A.b + 7), .bool true, .raw (.int 181 0), .ref (A.b + 8), .none, .none, .none, .ref (A.b + 9), .raw v16, .raw (.int 146 0), .str ⟨⟨[47, 99, 108, 97, 105, 109, 47, 99, 117, 116, 46, 112, 121]⟩⟩]),
  (A.kl, .arr c_list ks),
  (A.go, .fields c_gen [.raw (.int (A.g : Int) 0), .str ⟨⟨[116, 111, 107, 101, 110, 105, 122, 101]⟩⟩, .str ⟨⟨[72, 97, 110, 100, 76, 101, 120, 101, 114, 66, 97, 115, 101, 46, 116, 111, 107, 101, 110, 105, 122, 101]⟩⟩]),
  (A.acc, .arr c_list got)]

noncomputable def chD (c cd lc : Addr) (sg : Str) : DM := [(c, .inst 138 cd), (cd, .dict c_dict [([99, 104, 97, 114], .str sg), ([108, 111, 99], .ref lc)])]

noncomputable def stD (A : LA) (Ls cc c q : Addr) (j : Nat) (rs : Array Value) (fo : Option Addr) : DM := [(Ls, .dict c_frame []), (cc, .cell (some (.ref c))), (q, .fields c_listit [.ref A.kl, .raw (.int (j : Int) 0)]), (q + 1, .arr c_list rs), (q + 2, .dict c_dict (oneE [111, 110, 101] fo))]

noncomputable def A1n_h : List Hint := [.o 0, .o 1, .b, .b, .b, .o 1, .b, .b, .b, .o 1, .o 1, .b, .o 2, .o 3, .o 3, .o 3, .o 3, .o 3, .o 0, .o 11, .o 11, .o 12, .b, .o 11, .o 3, .b, .b, .b, .o 3, .b, .b, .b, .o 3, .b, .b, .b, .b, .o 3, .o 4, .b, .b, .b, .b, .o 0, .o 0, .o 0, .o 0, .b, .o 0, .o 4, .b, .b, .b, .o 4, .b, .b, .b, .o 4, .o 4, .b, .o 5, .o 7, .o 7, .o 7, .o 7, .o 7, .b, .b, .o 0, .o 4, .b, .b, .b, .o 4, .b, .b, .b, .o 4, .o 4, .b, .o 5, .o 9, .o 9, .s 0 0, .o 0, .o 0, .o 0, .o 19, .b, .b, .b, .o 19, .b, .b, .b, .o 0, .o 4, .b, .b, .b, .o 4, .b, .b, .b, .o 4, .o 4, .b, .o 5, .o 8, .o 8, .o 8, .o 8, .o 0, .s 1 0, .o 0, .o 0, .o 1, .o 1, .o 1, .o 11, .o 16, .o 16, .o 16, .o 0]
noncomputable def A1n_sp (w : World) (s₀ : Shared) (b1 b2 : Bool) (A : LA) (v16 : Value) (cs ks got : Array Value) (k6 : Result → Sem Fin) (k : Nat) (c cd lc : Addr) (sg : Str) (τ : Nat → Nat → Tok) (ν : Nat → Nat) (N T G : Nat) : List Spec := [spNext A.it A.cl 9 10 cs (ν 7) (k : Nat) (.ref c),
  spPush A.ct 8 (#[] : Array Value) (ν 5) (.ref c)]
theorem A1n_r (w : World) (s₀ : Shared) (b1 b2 : Bool) (A : LA) (v16 : Value) (cs ks got : Array Value) (k6 : Result → Sem Fin) (k : Nat) (c cd lc : Addr) (sg : Str)  (p : Pos) (τ : Nat → Nat → Tok) (ν : Nat → Nat) (N T G : Nat) :
  EndsQ w.params (run ((K5 w s₀ b1 b2).V [] N T G (A1n_sp w s₀ b1 b2 A v16 cs ks got k6 k c cd lc sg τ ν N T G)) 236 (denF (cInner w.params A)) (cInner w.params A) p (fs0 w.params A k6) (memOf w.params τ ν 0 (lexDM w.params A v16 false k none #[] cs ks got none (.ref A.fst) ++ chD c cd lc sg)) 0 0 [(A.g, .running)] 0 A1n_h []) [6, 7, 8, 9, 10, 11, 12, 13, 14, 15, 16, 17, 18, 19, 20, 21, 22, 23, 5, 4, 2, 1, 0]
    (denF (oComp w.params A N (N + 1) (N + 3)).c) ((oComp w.params A N (N + 1) (N + 3)).c) ((oComp w.params A N (N + 1) (N + 3)).fs ++ ((oStart w.params A).fs ++ fsB w.params A k6)) (lexDM w.params A v16 false (k + 1) none #[.ref c] cs ks got none (.ref A.fst) ++ (chD c cd lc sg ++ stD A N (N + 1) c (N + 3) 0 #[] none)) [(A.g, .running)] := by
  cases b1 <;> (unfold EndsQ; kernel_rfl)
theorem A1n (w : World) (s₀ : Shared) (b1 b2 : Bool) (Y : Sys (K5 w s₀ b1 b2)) (A : LA) (v16 : Value) (cs ks got : Array Value) (k6 : Result → Sem Fin) (k : Nat) (c cd lc : Addr) (sg : Str)  (h0 : cs[k]? = some (.ref c)) {L : DM} {s : Shared} {p : Pos} (S : StD (K5 w s₀ b1 b2) (lexDM w.params A v16 false k none #[] cs ks got none (.ref A.fst) ++ chD c cd lc sg ++ L) [(A.g, .running)] s)
    (next : ∀ (τ : Nat → Nat → Tok) (N T G : Nat) (s' : Shared) (p' : Pos), (K5 w s₀ b1 b2).B ≤ N → N ≤ s'.heap.objs.size → StD (K5 w s₀ b1 b2) (lexDM w.params A v16 false (k + 1) none #[.ref c] cs ks got none (.ref A.fst) ++ (chD c cd lc sg ++ stD A N (N + 1) c (N + 3) 0 #[] none) ++ L) [(A.g, .running)] s' → Y.H s' ⟨denF (oComp w.params A N (N + 1) (N + 3)).c, (oComp w.params A N (N + 1) (N + 3)).c, p', (oComp w.params A N (N + 1) (N + 3)).fs ++ ((oStart w.params A).fs ++ fsB w.params A k6)⟩) : Y.H s ⟨denF (cInner w.params A), cInner w.params A, p, fs0 w.params A k6⟩ :=
  Y.seg (t' := fun τ N T G => denF (oComp w.params A N (N + 1) (N + 3)).c) (c' := fun N T G => (oComp w.params A N (N + 1) (N + 3)).c) (fs' := fun N T G => (oComp w.params A N (N + 1) (N + 3)).fs ++ ((oStart w.params A).fs ++ fsB w.params A k6)) (d' := fun N T G => lexDM w.params A v16 false (k + 1) none #[.ref c] cs ks got none (.ref A.fst) ++ (chD c cd lc sg ++ stD A N (N + 1) c (N + 3) 0 #[] none)) (gm' := fun N T G => [(A.g, .running)]) S (by decide) (A1n_sp w s₀ b1 b2 A v16 cs ks got k6 k c cd lc sg) (A1n_r w s₀ b1 b2 A v16 cs ks got k6 k c cd lc sg  p) (fun τ ν N T G => .cons (ok1 rfl rfl rfl (sok_next _ _ _ _ _ _ _ _ h0)) (.cons (ok1 rfl rfl rfl (sok_push _ _ _ _ _ (Nat.zero_le _))) (AllOk.nil))) next

inductive SV where
  | s (x : Str) (t : Tok)
  | l (a : Addr)
noncomputable def SV.val : SV → Value
  | .s x t => .str x t
  | .l a => .ref a

noncomputable def kD (kc : Addr) (nm hd : Str) (rv tv : SV) (dv : Bool) : DM := [(kc, .seq c_tuple [.str nm, .str hd, .raw rv.val, .raw tv.val, .bool dv])]

noncomputable def A1p_h : List Hint := [.o 0, .o 1, .b, .b, .b, .o 1, .b, .b, .b, .o 1, .o 1, .b, .o 2, .o 3, .o 3, .o 3, .o 3, .o 3, .o 0, .o 11, .o 11, .o 12, .b, .o 11, .o 3, .b, .b, .b, .o 3, .b, .b, .b, .o 3, .b, .b, .b, .b, .o 3, .o 4, .b, .b, .b, .b, .o 0, .o 0, .o 0, .o 0, .b, .o 0, .o 4, .b, .b, .b, .o 4, .b, .b, .b, .o 4, .o 4, .b, .o 5, .o 7, .o 7, .o 7, .o 7, .o 7, .o 0, .o 4, .b, .b, .b, .o 4, .b, .b, .b, .o 4, .o 4, .b, .o 5, .o 7, .o 7, .o 7, .o 7, .o 7, .o 7, .o 7, .o 7, .o 7, .o 0, .o 0, .o 0, .o 19, .b, .b, .b, .o 19, .b, .b, .b, .o 0, .o 4, .b, .b, .b, .o 4, .b, .b, .b, .o 4, .o 4, .b, .o 5, .o 8, .o 8, .o 8, .o 8, .o 0, .s 0 0, .o 0, .o 0, .o 1, .o 1, .o 1, .o 11, .o 16, .o 16, .o 16, .o 0]
noncomputable def A1p_sp (w : World) (s₀ : Shared) (b1 b2 : Bool) (A : LA) (v16 : Value) (cs ks got : Array Value) (k6 : Result → Sem Fin) (k : Nat) (c cd lc : Addr) (sg : Str) (τ : Nat → Nat → Tok) (ν : Nat → Nat) (N T G : Nat) : List Spec := [spPush A.ct 8 (#[] : Array Value) (ν 5) (.ref c)]
theorem A1p_r (w : World) (s₀ : Shared) (b1 b2 : Bool) (A : LA) (v16 : Value) (cs ks got : Array Value) (k6 : Result → Sem Fin) (k : Nat) (c cd lc : Addr) (sg : Str)  (p : Pos) (τ : Nat → Nat → Tok) (ν : Nat → Nat) (N T G : Nat) :
  EndsQ w.params (run ((K5 w s₀ b1 b2).V [] N T G (A1p_sp w s₀ b1 b2 A v16 cs ks got k6 k c cd lc sg τ ν N T G)) 242 (denF (cInner w.params A)) (cInner w.params A) p (fs0 w.params A k6) (memOf w.params τ ν 0 (lexDM w.params A v16 false k (some c) #[] cs ks got none (.ref A.fst) ++ chD c cd lc sg)) 0 0 [(A.g, .running)] 0 A1p_h []) [6, 7, 8, 9, 10, 11, 12, 13, 14, 15, 16, 17, 18, 19, 20, 21, 22, 23, 5, 4, 2, 1, 0]
    (denF (oComp w.params A N (N + 1) (N + 3)).c) ((oComp w.params A N (N + 1) (N + 3)).c) (fsC w.params A k6 N (N + 1) (N + 3)) (lexDM w.params A v16 false k none #[.ref c] cs ks got none (.ref A.fst) ++ (chD c cd lc sg ++ stD A N (N + 1) c (N + 3) 0 #[] none)) [(A.g, .running)] := by
  cases b1 <;> (unfold EndsQ; kernel_rfl)
theorem A1p (w : World) (s₀ : Shared) (b1 b2 : Bool) (Y : Sys (K5 w s₀ b1 b2)) (A : LA) (v16 : Value) (cs ks got : Array Value) (k6 : Result → Sem Fin) (k : Nat) (c cd lc : Addr) (sg : Str)   {L : DM} {s : Shared} {p : Pos} (S : StD (K5 w s₀ b1 b2) (lexDM w.params A v16 false k (some c) #[] cs ks got none (.ref A.fst) ++ chD c cd lc sg ++ L) [(A.g, .running)] s)
    (next : ∀ (τ : Nat → Nat → Tok) (N T G : Nat) (s' : Shared) (p' : Pos), (K5 w s₀ b1 b2).B ≤ N → N ≤ s'.heap.objs.size → StD (K5 w s₀ b1 b2) (lexDM w.params A v16 false k none #[.ref c] cs ks got none (.ref A.fst) ++ (chD c cd lc sg ++ stD A N (N + 1) c (N + 3) 0 #[] none) ++ L) [(A.g, .running)] s' → Y.H s' ⟨denF (oComp w.params A N (N + 1) (N + 3)).c, (oComp w.params A N (N + 1) (N + 3)).c, p', fsC w.params A k6 N (N + 1) (N + 3)⟩) : Y.H s ⟨denF (cInner w.params A), cInner w.params A, p, fs0 w.params A k6⟩ :=
  Y.seg (t' := fun τ N T G => denF (oComp w.params A N (N + 1) (N + 3)).c) (c' := fun N T G => (oComp w.params A N (N + 1) (N + 3)).c) (fs' := fun N T G => fsC w.params A k6 N (N + 1) (N + 3)) (d' := fun N T G => lexDM w.params A v16 false k none #[.ref c] cs ks got none (.ref A.fst) ++ (chD c cd lc sg ++ stD A N (N + 1) c (N + 3) 0 #[] none)) (gm' := fun N T G => [(A.g, .running)]) S (by decide) (A1p_sp w s₀ b1 b2 A v16 cs ks got k6 k c cd lc sg) (A1p_r w s₀ b1 b2 A v16 cs ks got k6 k c cd lc sg  p) (fun τ ν N T G => .cons (ok1 rfl rfl rfl (sok_push _ _ _ _ _ (Nat.zero_le _))) (AllOk.nil)) next

noncomputable def CS1_h2 : List Hint := []
noncomputable def CS1_h : List Hint := [.o 20, .o 20, .o 20, .o 20]
noncomputable def CS1_sp (w : World) (s₀ : Shared) (b1 b2 : Bool) (A : LA) (v16 : Value) (cs ks got : Array Value) (k6 : Result → Sem Fin) (k : Nat) (pb : Option Addr) (Ls cc q c cd lc : Addr) (sg : Str) (τ : Nat → Nat → Tok) (ν : Nat → Nat) (N T G : Nat) : List Spec := []
theorem CS1_r (w : World) (s₀ : Shared) (b1 b2 : Bool) (A : LA) (v16 : Value) (cs ks got : Array Value) (k6 : Result → Sem Fin) (k : Nat) (pb : Option Addr) (Ls cc q c cd lc : Addr) (sg : Str)  (p : Pos) (τ : Nat → Nat → Tok) (ν : Nat → Nat) (N T G : Nat) :
  EndsQ w.params (run ((K5 w s₀ b1 b2).V [] N T G (CS1_sp w s₀ b1 b2 A v16 cs ks got k6 k pb Ls cc q c cd lc sg τ ν N T G)) (cond b2 2 12) (denF (oComp w.params A Ls cc q).c) ((oComp w.params A Ls cc q).c) p (fsC w.params A k6 Ls cc q) (memOf w.params τ ν 0 (lexDM w.params A v16 false k none #[.ref c] cs ks got none (.ref A.fst) ++ (chD c cd lc sg ++ stD A Ls cc c q 0 #[] none))) 0 0 [(A.g, .running)] 0 (cond b2 CS1_h2 CS1_h) []) [0, 1, 2, 3, 4, 5, 6, 7, 8, 9, 10, 11, 12, 13, 14, 15, 16, 17, 18, 19, 20, 21, 22]
    (denF (cComp w.params A Ls cc q)) ((cComp w.params A Ls cc q)) (fsC w.params A k6 Ls cc q) (lexDM w.params A v16 false k none #[.ref c] cs ks got none (.ref A.fst) ++ (chD c cd lc sg ++ stD A Ls cc c q 0 #[] none)) [(A.g, .running)] := by
  cases b1 <;> cases b2 <;> (unfold EndsQ; kernel_rfl)
theorem CS1 (w : World) (s₀ : Shared) (b1 b2 : Bool) (Y : Sys (K5 w s₀ b1 b2)) (A : LA) (v16 : Value) (cs ks got : Array Value) (k6 : Result → Sem Fin) (k : Nat) (pb : Option Addr) (Ls cc q c cd lc : Addr) (sg : Str)   {L : DM} {s : Shared} {p : Pos} (S : StD (K5 w s₀ b1 b2) (lexDM w.params A v16 false k none #[.ref c] cs ks got none (.ref A.fst) ++ (chD c cd lc sg ++ stD A Ls cc c q 0 #[] none) ++ L) [(A.g, .running)] s)
    (next : ∀ (τ : Nat → Nat → Tok) (N T G : Nat) (s' : Shared) (p' : Pos), (K5 w s₀ b1 b2).B ≤ N → N ≤ s'.heap.objs.size → StD (K5 w s₀ b1 b2) (lexDM w.params A v16 false k none #[.ref c] cs ks got none (.ref A.fst) ++ (chD c cd lc sg ++ stD A Ls cc c q 0 #[] none) ++ L) [(A.g, .running)] s' → Y.H s' ⟨denF (cComp w.params A Ls cc q), (cComp w.params A Ls cc q), p', fsC w.params A k6 Ls cc q⟩) : Y.H s ⟨denF (oComp w.params A Ls cc q).c, (oComp w.params A Ls cc q).c, p, fsC w.params A k6 Ls cc q⟩ :=
  Y.seg (t' := fun τ N T G => denF (cComp w.params A Ls cc q)) (c' := fun N T G => (cComp w.params A Ls cc q)) (fs' := fun N T G => fsC w.params A k6 Ls cc q) (d' := fun N T G => lexDM w.params A v16 false k none #[.ref c] cs ks got none (.ref A.fst) ++ (chD c cd lc sg ++ stD A Ls cc c q 0 #[] none)) (gm' := fun N T G => [(A.g, .running)]) S (by decide) (CS1_sp w s₀ b1 b2 A v16 cs ks got k6 k pb Ls cc q c cd lc sg) (CS1_r w s₀ b1 b2 A v16 cs ks got k6 k pb Ls cc q c cd lc sg  p) (fun τ ν N T G => AllOk.nil) next

noncomputable def A2t_h : List Hint := [.o 20, .s 0 0, .o 22, .o 22, .o 19, .o 16, .b, .b, .b, .o 16, .b, .b, .b, .o 16, .o 16, .b, .o 17, .o 22, .o 23, .o 23, .o 23, .o 23, .o 23, .s 1 0, .o 22, .s 2 0]
noncomputable def A2t_sp (w : World) (s₀ : Shared) (b1 b2 : Bool) (A : LA) (v16 : Value) (cs ks got : Array Value) (k6 : Result → Sem Fin) (k : Nat) (Ls cc q c cd lc : Addr) (sg : Str) (j : Nat) (rs : Array Value) (fo : Option Addr) (kc : Addr) (nm hd : Str) (rv tv : SV) (dv : Bool) (τ : Nat → Nat → Tok) (ν : Nat → Nat) (N T G : Nat) : List Spec := [spNext q A.kl 20 13 ks (ν 13) (j : Nat) (.ref kc),
  spV (callB "str.__contains__" [.str (hd) (τ 23 1), .str (sg) (τ 17 1)]) (.bool true) 0,
  spPush (q + 1) 21 rs (ν 21) (.ref kc)]
theorem A2t_r (w : World) (s₀ : Shared) (b1 b2 : Bool) (A : LA) (v16 : Value) (cs ks got : Array Value) (k6 : Result → Sem Fin) (k : Nat) (Ls cc q c cd lc : Addr) (sg : Str) (j : Nat) (rs : Array Value) (fo : Option Addr) (kc : Addr) (nm hd : Str) (rv tv : SV) (dv : Bool)  (p : Pos) (τ : Nat → Nat → Tok) (ν : Nat → Nat) (N T G : Nat) :
  EndsQ w.params (run ((K5 w s₀ b1 b2).V [] N T G (A2t_sp w s₀ b1 b2 A v16 cs ks got k6 k Ls cc q c cd lc sg j rs fo kc nm hd rv tv dv τ ν N T G)) 47 (denF (cComp w.params A Ls cc q)) (cComp w.params A Ls cc q) p (fsC w.params A k6 Ls cc q) (memOf w.params τ ν 0 (lexDM w.params A v16 false k none #[.ref c] cs ks got none (.ref A.fst) ++ (chD c cd lc sg ++ (stD A Ls cc c q j rs fo ++ kD kc nm hd rv tv dv)))) 0 0 [(A.g, .running)] 0 A2t_h []) [0, 1, 2, 3, 4, 5, 6, 7, 8, 9, 10, 11, 12, 13, 14, 15, 16, 17, 18, 19, 20, 21, 22, 23]
    (denF (cComp w.params A Ls cc q)) (cComp w.params A Ls cc q) (fsC w.params A k6 Ls cc q) (lexDM w.params A v16 false k none #[.ref c] cs ks got none (.ref A.fst) ++ (chD c cd lc sg ++ (stD A Ls cc c q (j + 1) (rs.push (.ref kc)) (some kc) ++ kD kc nm hd rv tv dv))) [(A.g, .running)] := by
  cases fo <;> (unfold EndsQ; kernel_rfl)
theorem A2t (w : World) (s₀ : Shared) (b1 b2 : Bool) (Y : Sys (K5 w s₀ b1 b2)) (A : LA) (v16 : Value) (cs ks got : Array Value) (k6 : Result → Sem Fin) (k : Nat) (Ls cc q c cd lc : Addr) (sg : Str) (j : Nat) (rs : Array Value) (fo : Option Addr) (kc : Addr) (nm hd : Str) (rv tv : SV) (dv : Bool)  (h0 : ks[j]? = some (.ref kc)) (h1 : (!(Builtin.Str.occurrences (hd) (sg) 0 (hd).length 1).isEmpty) = true) (h2 : rs.size ≤ sizeLine) {L : DM} {s : Shared} {p : Pos} (S : StD (K5 w s₀ b1 b2) (lexDM w.params A v16 false k none #[.ref c] cs ks got none (.ref A.fst) ++ (chD c cd lc sg ++ (stD A Ls cc c q j rs fo ++ kD kc nm hd rv tv dv)) ++ L) [(A.g, .running)] s)
    (next : ∀ (τ : Nat → Nat → Tok) (N T G : Nat) (s' : Shared) (p' : Pos), (K5 w s₀ b1 b2).B ≤ N → N ≤ s'.heap.objs.size → StD (K5 w s₀ b1 b2) (lexDM w.params A v16 false k none #[.ref c] cs ks got none (.ref A.fst) ++ (chD c cd lc sg ++ (stD A Ls cc c q (j + 1) (rs.push (.ref kc)) (some kc) ++ kD kc nm hd rv tv dv)) ++ L) [(A.g, .running)] s' → Y.H s' ⟨denF (cComp w.params A Ls cc q), cComp w.params A Ls cc q, p', fsC w.params A k6 Ls cc q⟩) : Y.H s ⟨denF (cComp w.params A Ls cc q), cComp w.params A Ls cc q, p, fsC w.params A k6 Ls cc q⟩ :=
  Y.seg (t' := fun τ N T G => denF (cComp w.params A Ls cc q)) (c' := fun N T G => cComp w.params A Ls cc q) (fs' := fun N T G => fsC w.params A k6 Ls cc q) (d' := fun N T G => lexDM w.params A v16 false k none #[.ref c] cs ks got none (.ref A.fst) ++ (chD c cd lc sg ++ (stD A Ls cc c q (j + 1) (rs.push (.ref kc)) (some kc) ++ kD kc nm hd rv tv dv))) (gm' := fun N T G => [(A.g, .running)]) S (by decide) (A2t_sp w s₀ b1 b2 A v16 cs ks got k6 k Ls cc q c cd lc sg j rs fo kc nm hd rv tv dv) (A2t_r w s₀ b1 b2 A v16 cs ks got k6 k Ls cc q c cd lc sg j rs fo kc nm hd rv tv dv  p) (fun τ ν N T G => .cons (ok1 rfl rfl rfl (sok_next _ _ _ _ _ _ _ _ h0)) (.cons (okv (h1 ▸ sok_scontains _ _ _ _)) (.cons (ok1 rfl rfl rfl (sok_push _ _ _ _ _ h2)) (AllOk.nil)))) next

noncomputable def A2f_h : List Hint := [.o 20, .s 0 0, .o 22, .o 22, .o 19, .o 16, .b, .b, .b, .o 16, .b, .b, .b, .o 16, .o 16, .b, .o 17, .o 22, .o 23, .o 23, .o 23, .o 23, .o 23, .s 1 0]
noncomputable def A2f_sp (w : World) (s₀ : Shared) (b1 b2 : Bool) (A : LA) (v16 : Value) (cs ks got : Array Value) (k6 : Result → Sem Fin) (k : Nat) (Ls cc q c cd lc : Addr) (sg : Str) (j : Nat) (rs : Array Value) (fo : Option Addr) (kc : Addr) (nm hd : Str) (rv tv : SV) (dv : Bool) (τ : Nat → Nat → Tok) (ν : Nat → Nat) (N T G : Nat) : List Spec := [spNext q A.kl 20 13 ks (ν 13) (j : Nat) (.ref kc),
  spV (callB "str.__contains__" [.str (hd) (τ 23 1), .str (sg) (τ 17 1)]) (.bool false) 0]
theorem A2f_r (w : World) (s₀ : Shared) (b1 b2 : Bool) (A : LA) (v16 : Value) (cs ks got : Array Value) (k6 : Result → Sem Fin) (k : Nat) (Ls cc q c cd lc : Addr) (sg : Str) (j : Nat) (rs : Array Value) (fo : Option Addr) (kc : Addr) (nm hd : Str) (rv tv : SV) (dv : Bool)  (p : Pos) (τ : Nat → Nat → Tok) (ν : Nat → Nat) (N T G : Nat) :
  EndsQ w.params (run ((K5 w s₀ b1 b2).V [] N T G (A2f_sp w s₀ b1 b2 A v16 cs ks got k6 k Ls cc q c cd lc sg j rs fo kc nm hd rv tv dv τ ν N T G)) 44 (denF (cComp w.params A Ls cc q)) (cComp w.params A Ls cc q) p (fsC w.params A k6 Ls cc q) (memOf w.params τ ν 0 (lexDM w.params A v16 false k none #[.ref c] cs ks got none (.ref A.fst) ++ (chD c cd lc sg ++ (stD A Ls cc c q j rs fo ++ kD kc nm hd rv tv dv)))) 0 0 [(A.g, .running)] 0 A2f_h []) [0, 1, 2, 3, 4, 5, 6, 7, 8, 9, 10, 11, 12, 13, 14, 15, 16, 17, 18, 19, 20, 21, 22, 23]
    (denF (cComp w.params A Ls cc q)) (cComp w.params A Ls cc q) (fsC w.params A k6 Ls cc q) (lexDM w.params A v16 false k none #[.ref c] cs ks got none (.ref A.fst) ++ (chD c cd lc sg ++ (stD A Ls cc c q (j + 1) rs (some kc) ++ kD kc nm hd rv tv dv))) [(A.g, .running)] := by
  cases fo <;> (unfold EndsQ; kernel_rfl)
theorem A2f (w : World) (s₀ : Shared) (b1 b2 : Bool) (Y : Sys (K5 w s₀ b1 b2)) (A : LA) (v16 : Value) (cs ks got : Array Value) (k6 : Result → Sem Fin) (k : Nat) (Ls cc q c cd lc : Addr) (sg : Str) (j : Nat) (rs : Array Value) (fo : Option Addr) (kc : Addr) (nm hd : Str) (rv tv : SV) (dv : Bool)  (h0 : ks[j]? = some (.ref kc)) (h1 : (!(Builtin.Str.occurrences (hd) (sg) 0 (hd).length 1).isEmpty) = false) {L : DM} {s : Shared} {p : Pos} (S : StD (K5 w s₀ b1 b2) (lexDM w.params A v16 false k none #[.ref c] cs ks got none (.ref A.fst) ++ (chD c cd lc sg ++ (stD A Ls cc c q j rs fo ++ kD kc nm hd rv tv dv)) ++ L) [(A.g, .running)] s)
    (next : ∀ (τ : Nat → Nat → Tok) (N T G : Nat) (s' : Shared) (p' : Pos), (K5 w s₀ b1 b2).B ≤ N → N ≤ s'.heap.objs.size → StD (K5 w s₀ b1 b2) (lexDM w.params A v16 false k none #[.ref c] cs ks got none (.ref A.fst) ++ (chD c cd lc sg ++ (stD A Ls cc c q (j + 1) rs (some kc) ++ kD kc nm hd rv tv dv)) ++ L) [(A.g, .running)] s' → Y.H s' ⟨denF (cComp w.params A Ls cc q), cComp w.params A Ls cc q, p', fsC w.params A k6 Ls cc q⟩) : Y.H s ⟨denF (cComp w.params A Ls cc q), cComp w.params A Ls cc q, p, fsC w.params A k6 Ls cc q⟩ :=
  Y.seg (t' := fun τ N T G => denF (cComp w.params A Ls cc q)) (c' := fun N T G => cComp w.params A Ls cc q) (fs' := fun N T G => fsC w.params A k6 Ls cc q) (d' := fun N T G => lexDM w.params A v16 false k none #[.ref c] cs ks got none (.ref A.fst) ++ (chD c cd lc sg ++ (stD A Ls cc c q (j + 1) rs (some kc) ++ kD kc nm hd rv tv dv))) (gm' := fun N T G => [(A.g, .running)]) S (by decide) (A2f_sp w s₀ b1 b2 A v16 cs ks got k6 k Ls cc q c cd lc sg j rs fo kc nm hd rv tv dv) (A2f_r w s₀ b1 b2 A v16 cs ks got k6 k Ls cc q c cd lc sg j rs fo kc nm hd rv tv dv  p) (fun τ ν N T G => .cons (ok1 rfl rfl rfl (sok_next _ _ _ _ _ _ _ _ h0)) (.cons (okv (h1 ▸ sok_scontains _ _ _ _)) (AllOk.nil))) next

noncomputable def lsD (Ls : Addr) (nm hd : Str) (rv tv : SV) (dv : Bool) : DM := [(Ls, .dict c_frame [([107, 105, 110, 100], .str nm), ([104, 101, 97, 100, 115], .str hd), ([114, 117, 110], .raw rv.val), ([116, 97, 105, 108], .raw tv.val), ([100, 114, 111, 112, 112, 101, 100], .bool dv)])]

noncomputable def laD (A : LA) (La : Addr) (va : Value) : DM := [(La, .dict c_frame [([115, 101, 108, 102], .ref A.sf), ([118, 97, 108, 105, 100], .raw va)])]

noncomputable def A3_h : List Hint := [.o 20, .s 0 0, .o 0, .o 24, .o 24, .o 24, .o 23, .o 23, .o 23, .s 1 0, .o 25, .o 25, .o 25, .o 25, .o 0, .o 0, .o 0, .o 0, .o 0, .o 26, .o 0, .o 0, .o 0, .o 0, .o 0, .o 0, .o 26, .o 0, .o 0, .o 0, .o 0, .o 0, .o 0, .o 26, .o 0, .o 0, .o 0, .o 0, .o 0, .o 0, .o 26, .o 0, .o 0, .o 0, .o 0, .o 0, .o 0, .o 26, .o 0, .o 0, .o 0, .o 0, .o 0, .o 0, .o 26, .o 0, .o 0, .o 0, .o 23, .o 23, .o 23, .o 23, .o 23, .o 23, .o 23, .o 23, .o 23, .o 23, .o 14, .o 6, .b, .b, .b, .o 6, .b, .b, .b, .o 6, .b, .b, .b, .b, .o 6, .o 7, .o 23, .b, .b, .b, .o 0, .o 0, .o 0, .o 0, .b]
noncomputable def A3_sp (w : World) (s₀ : Shared) (b1 b2 : Bool) (A : LA) (v16 : Value) (cs ks got : Array Value) (k6 : Result → Sem Fin) (k : Nat) (Ls cc q c cd lc : Addr) (sg : Str) (j : Nat) (rs : Array Value) (ko : Addr) (kc : Addr) (nm hd : Str) (rv tv : SV) (dv : Bool) (τ : Nat → Nat → Tok) (ν : Nat → Nat) (N T G : Nat) : List Spec := [spEnd q A.kl 20 13 ks (ν 13) (j : Nat),
  spItem (q + 1) 23 rs (ν 21) (0) (T + 0) (.ref kc)]
theorem A3_r (w : World) (s₀ : Shared) (b1 b2 : Bool) (A : LA) (v16 : Value) (cs ks got : Array Value) (k6 : Result → Sem Fin) (k : Nat) (Ls cc q c cd lc : Addr) (sg : Str) (j : Nat) (rs : Array Value) (ko : Addr) (kc : Addr) (nm hd : Str) (rv tv : SV) (dv : Bool)  (p : Pos) (τ : Nat → Nat → Tok) (ν : Nat → Nat) (N T G : Nat) :
  EndsQ w.params (run ((K5 w s₀ b1 b2).V [] N T G (A3_sp w s₀ b1 b2 A v16 cs ks got k6 k Ls cc q c cd lc sg j rs ko kc nm hd rv tv dv τ ν N T G)) 171 (denF (cComp w.params A Ls cc q)) (cComp w.params A Ls cc q) p (fsC w.params A k6 Ls cc q) (memOf w.params τ ν 0 (lexDM w.params A v16 false k none #[.ref c] cs ks got none (.ref A.fst) ++ (chD c cd lc sg ++ (stD A Ls cc c q j rs (some ko) ++ kD kc nm hd rv tv dv)))) 0 0 [(A.g, .running)] 0 A3_h []) [6, 7, 8, 9, 10, 11, 12, 13, 14, 15, 16, 17, 18, 19, 20, 21, 22, 23, 24, 0, 29]
    (denF (arLoop w.params (N + 5))) (arLoop w.params (N + 5)) (fsAR w.params A k6 false Ls cc (N + 5)) (lexDM w.params A v16 false k none #[.ref c] cs ks got none (.ref A.fst) ++ (chD c cd lc sg ++ (lsD Ls nm hd rv tv dv ++ (laD A (N + 5) rv.val ++ kD kc nm hd rv tv dv)))) [(A.g, .running)] := by
  cases rv <;> cases tv <;> cases b1 <;> (unfold EndsQ; kernel_rfl)
theorem A3 (w : World) (s₀ : Shared) (b1 b2 : Bool) (Y : Sys (K5 w s₀ b1 b2)) (A : LA) (v16 : Value) (cs ks got : Array Value) (k6 : Result → Sem Fin) (k : Nat) (Ls cc q c cd lc : Addr) (sg : Str) (j : Nat) (rs : Array Value) (ko : Addr) (kc : Addr) (nm hd : Str) (rv tv : SV) (dv : Bool)  (h0 : ks[j]? = none) (h1 : ItemAt rs (0) (.ref kc)) {L : DM} {s : Shared} {p : Pos} (S : StD (K5 w s₀ b1 b2) (lexDM w.params A v16 false k none #[.ref c] cs ks got none (.ref A.fst) ++ (chD c cd lc sg ++ (stD A Ls cc c q j rs (some ko) ++ kD kc nm hd rv tv dv)) ++ L) [(A.g, .running)] s)
    (next : ∀ (τ : Nat → Nat → Tok) (N T G : Nat) (s' : Shared) (p' : Pos), (K5 w s₀ b1 b2).B ≤ N → N ≤ s'.heap.objs.size → StD (K5 w s₀ b1 b2) (lexDM w.params A v16 false k none #[.ref c] cs ks got none (.ref A.fst) ++ (chD c cd lc sg ++ (lsD Ls nm hd rv tv dv ++ (laD A (N + 5) rv.val ++ kD kc nm hd rv tv dv))) ++ L) [(A.g, .running)] s' → Y.H s' ⟨denF (arLoop w.params (N + 5)), arLoop w.params (N + 5), p', fsAR w.params A k6 false Ls cc (N + 5)⟩) : Y.H s ⟨denF (cComp w.params A Ls cc q), cComp w.params A Ls cc q, p, fsC w.params A k6 Ls cc q⟩ :=
  Y.seg (t' := fun τ N T G => denF (arLoop w.params (N + 5))) (c' := fun N T G => arLoop w.params (N + 5)) (fs' := fun N T G => fsAR w.params A k6 false Ls cc (N + 5)) (d' := fun N T G => lexDM w.params A v16 false k none #[.ref c] cs ks got none (.ref A.fst) ++ (chD c cd lc sg ++ (lsD Ls nm hd rv tv dv ++ (laD A (N + 5) rv.val ++ kD kc nm hd rv tv dv)))) (gm' := fun N T G => [(A.g, .running)]) S (by decide) (A3_sp w s₀ b1 b2 A v16 cs ks got k6 k Ls cc q c cd lc sg j rs ko kc nm hd rv tv dv) (A3_r w s₀ b1 b2 A v16 cs ks got k6 k Ls cc q c cd lc sg j rs ko kc nm hd rv tv dv  p) (fun τ ν N T G => .cons (ok_end _ _ _ _ _ _ _ h0) (.cons (ok_item _ _ _ _ _ _ _ h1) (AllOk.nil))) next

noncomputable def vlD (vl : Addr) (vs : Array Value) : DM := [(vl, .arr c_list vs)]

noncomputable def AR_next_ok_l_h : List Hint := [.o 18, .o 1, .b, .b, .b, .o 1, .b, .b, .b, .o 1, .b, .b, .b, .b, .o 1, .o 2, .o 18, .b, .b, .b, .o 0, .o 0, .o 0, .o 0, .b, .o 0, .o 2, .b, .b, .b, .o 2, .b, .b, .b, .o 2, .b, .b, .b, .b, .o 2, .o 3, .b, .b, .b, .b, .o 0, .o 0, .o 0, .o 0, .b, .o 0, .o 3, .b, .b, .b, .o 3, .b, .b, .b, .o 3, .o 3, .b, .o 4, .o 6, .o 6, .o 6, .o 6, .o 6, .b, .b, .o 0, .o 3, .b, .b, .b, .o 3, .b, .b, .b, .o 3, .o 3, .b, .o 4, .o 8, .o 8, .s 0 0, .o 0, .o 0, .o 0, .o 18, .b, .b, .b, .o 18, .b, .b, .b, .o 0, .o 3, .b, .b, .b, .o 3, .b, .b, .b, .o 3, .o 3, .b, .o 4, .o 7, .o 7, .o 7, .o 7, .o 0, .s 1 0, .o 0, .o 0, .o 1, .o 1, .o 1, .o 18, .b, .b, .b, .o 18, .b, .b, .b, .o 1, .o 18, .b, .b, .b, .o 18, .b, .b, .b, .o 18, .o 18, .b, .o 19, .o 1, .o 21, .o 21, .s 2 0]
noncomputable def AR_next_ok_l_sp (w : World) (s₀ : Shared) (b1 b2 : Bool) (A : LA) (v16 : Value) (cs ks got : Array Value) (k6 : Result → Sem Fin) (tl : Bool) (k : Nat) (xs : Array Value) (Ls cc La : Addr) (c cd lc : Addr) (sg : Str) (vl : Addr) (vs : Array Value) (τ : Nat → Nat → Tok) (ν : Nat → Nat) (N T G : Nat) : List Spec := [spNext A.it A.cl 8 9 cs (ν 7) (k : Nat) (.ref c),
  spPush A.ct 7 xs (ν 5) (.ref c),
  spHas vl 21 vs (ν 19) (.str (sg) (τ 17 1)) true]
theorem AR_next_ok_l_r (w : World) (s₀ : Shared) (b1 b2 : Bool) (A : LA) (v16 : Value) (cs ks got : Array Value) (k6 : Result → Sem Fin) (tl : Bool) (k : Nat) (xs : Array Value) (Ls cc La : Addr) (c cd lc : Addr) (sg : Str) (vl : Addr) (vs : Array Value)  (p : Pos) (τ : Nat → Nat → Tok) (ν : Nat → Nat) (N T G : Nat) :
  EndsQ w.params (run ((K5 w s₀ b1 b2).V [] N T G (AR_next_ok_l_sp w s₀ b1 b2 A v16 cs ks got k6 tl k xs Ls cc La c cd lc sg vl vs τ ν N T G)) 252 (denF (arLoop w.params La)) (arLoop w.params La) p (fsAR w.params A k6 tl Ls cc La) (memOf w.params τ ν 0 (lexDM w.params A v16 false k none xs cs ks got none (.ref A.fst) ++ (chD c cd lc sg ++ laD A La (.ref vl) ++ vlD vl vs))) 0 0 [(A.g, .running)] 0 AR_next_ok_l_h []) [2, 3, 4, 5, 6, 7, 8, 9, 10, 11, 12, 13, 14, 15, 16, 17, 18, 19, 20, 21]
    (denF (arLoop w.params La)) (arLoop w.params La) (fsAR w.params A k6 tl Ls cc La) (lexDM w.params A v16 false (k + 1) none (xs.push (.ref c)) cs ks got none (.ref A.fst) ++ (chD c cd lc sg ++ laD A La (.ref vl) ++ vlD vl vs)) [(A.g, .running)] := by
  cases tl <;> (unfold EndsQ; kernel_rfl)
theorem AR_next_ok_l (w : World) (s₀ : Shared) (b1 b2 : Bool) (Y : Sys (K5 w s₀ b1 b2)) (A : LA) (v16 : Value) (cs ks got : Array Value) (k6 : Result → Sem Fin) (tl : Bool) (k : Nat) (xs : Array Value) (Ls cc La : Addr) (c cd lc : Addr) (sg : Str) (vl : Addr) (vs : Array Value)  (h0 : cs[k]? = some (.ref c)) (h1 : xs.size ≤ sizeLine) (h2 : HasS vs (sg) true) {L : DM} {s : Shared} {p : Pos} (S : StD (K5 w s₀ b1 b2) (lexDM w.params A v16 false k none xs cs ks got none (.ref A.fst) ++ (chD c cd lc sg ++ laD A La (.ref vl) ++ vlD vl vs) ++ L) [(A.g, .running)] s)
    (next : ∀ (τ : Nat → Nat → Tok) (N T G : Nat) (s' : Shared) (p' : Pos), (K5 w s₀ b1 b2).B ≤ N → N ≤ s'.heap.objs.size → StD (K5 w s₀ b1 b2) (lexDM w.params A v16 false (k + 1) none (xs.push (.ref c)) cs ks got none (.ref A.fst) ++ (chD c cd lc sg ++ laD A La (.ref vl) ++ vlD vl vs) ++ L) [(A.g, .running)] s' → Y.H s' ⟨denF (arLoop w.params La), arLoop w.params La, p', fsAR w.params A k6 tl Ls cc La⟩) : Y.H s ⟨denF (arLoop w.params La), arLoop w.params La, p, fsAR w.params A k6 tl Ls cc La⟩ :=
  Y.seg (t' := fun τ N T G => denF (arLoop w.params La)) (c' := fun N T G => arLoop w.params La) (fs' := fun N T G => fsAR w.params A k6 tl Ls cc La) (d' := fun N T G => lexDM w.params A v16 false (k + 1) none (xs.push (.ref c)) cs ks got none (.ref A.fst) ++ (chD c cd lc sg ++ laD A La (.ref vl) ++ vlD vl vs)) (gm' := fun N T G => [(A.g, .running)]) S (by decide) (AR_next_ok_l_sp w s₀ b1 b2 A v16 cs ks got k6 tl k xs Ls cc La c cd lc sg vl vs) (AR_next_ok_l_r w s₀ b1 b2 A v16 cs ks got k6 tl k xs Ls cc La c cd lc sg vl vs  p) (fun τ ν N T G => .cons (ok1 rfl rfl rfl (sok_next _ _ _ _ _ _ _ _ h0)) (.cons (ok1 rfl rfl rfl (sok_push _ _ _ _ _ h1)) (.cons (ok_has _ _ _ _ _ _ _ h2) (AllOk.nil)))) next

noncomputable def AR_next_ok_s_h : List Hint := [.o 18, .o 1, .b, .b, .b, .o 1, .b, .b, .b, .o 1, .b, .b, .b, .b, .o 1, .o 2, .o 18, .b, .b, .b, .o 0, .o 0, .o 0, .o 0, .b, .o 0, .o 2, .b, .b, .b, .o 2, .b, .b, .b, .o 2, .b, .b, .b, .b, .o 2, .o 3, .b, .b, .b, .b, .o 0, .o 0, .o 0, .o 0, .b, .o 0, .o 3, .b, .b, .b, .o 3, .b, .b, .b, .o 3, .o 3, .b, .o 4, .o 6, .o 6, .o 6, .o 6, .o 6, .b, .b, .o 0, .o 3, .b, .b, .b, .o 3, .b, .b, .b, .o 3, .o 3, .b, .o 4, .o 8, .o 8, .s 0 0, .o 0, .o 0, .o 0, .o 18, .b, .b, .b, .o 18, .b, .b, .b, .o 0, .o 3, .b, .b, .b, .o 3, .b, .b, .b, .o 3, .o 3, .b, .o 4, .o 7, .o 7, .o 7, .o 7, .o 0, .s 1 0, .o 0, .o 0, .o 1, .o 1, .o 1, .o 18, .b, .b, .b, .o 18, .b, .b, .b, .o 1, .o 18, .b, .b, .b, .o 18, .b, .b, .b, .o 18, .o 18, .b, .o 19, .o 1, .s 2 0]
noncomputable def AR_next_ok_s_sp (w : World) (s₀ : Shared) (b1 b2 : Bool) (A : LA) (v16 : Value) (cs ks got : Array Value) (k6 : Result → Sem Fin) (tl : Bool) (k : Nat) (xs : Array Value) (Ls cc La : Addr) (c cd lc : Addr) (sg : Str) (vs : Str) (vt : Tok) (τ : Nat → Nat → Tok) (ν : Nat → Nat) (N T G : Nat) : List Spec := [spNext A.it A.cl 8 9 cs (ν 7) (k : Nat) (.ref c),
  spPush A.ct 7 xs (ν 5) (.ref c),
  spV (callB "str.__contains__" [(.str vs vt), .str (sg) (τ 17 1)]) (.bool true) 0]
theorem AR_next_ok_s_r (w : World) (s₀ : Shared) (b1 b2 : Bool) (A : LA) (v16 : Value) (cs ks got : Array Value) (k6 : Result → Sem Fin) (tl : Bool) (k : Nat) (xs : Array Value) (Ls cc La : Addr) (c cd lc : Addr) (sg : Str) (vs : Str) (vt : Tok)  (p : Pos) (τ : Nat → Nat → Tok) (ν : Nat → Nat) (N T G : Nat) :
  EndsQ w.params (run ((K5 w s₀ b1 b2).V [] N T G (AR_next_ok_s_sp w s₀ b1 b2 A v16 cs ks got k6 tl k xs Ls cc La c cd lc sg vs vt τ ν N T G)) 250 (denF (arLoop w.params La)) (arLoop w.params La) p (fsAR w.params A k6 tl Ls cc La) (memOf w.params τ ν 0 (lexDM w.params A v16 false k none xs cs ks got none (.ref A.fst) ++ (chD c cd lc sg ++ laD A La (.str vs vt)))) 0 0 [(A.g, .running)] 0 AR_next_ok_s_h []) [2, 3, 4, 5, 6, 7, 8, 9, 10, 11, 12, 13, 14, 15, 16, 17, 18, 19, 20]
    (denF (arLoop w.params La)) (arLoop w.params La) (fsAR w.params A k6 tl Ls cc La) (lexDM w.params A v16 false (k + 1) none (xs.push (.ref c)) cs ks got none (.ref A.fst) ++ (chD c cd lc sg ++ laD A La (.str vs vt))) [(A.g, .running)] := by
  cases tl <;> (unfold EndsQ; kernel_rfl)
theorem AR_next_ok_s (w : World) (s₀ : Shared) (b1 b2 : Bool) (Y : Sys (K5 w s₀ b1 b2)) (A : LA) (v16 : Value) (cs ks got : Array Value) (k6 : Result → Sem Fin) (tl : Bool) (k : Nat) (xs : Array Value) (Ls cc La : Addr) (c cd lc : Addr) (sg : Str) (vs : Str) (vt : Tok)  (h0 : cs[k]? = some (.ref c)) (h1 : xs.size ≤ sizeLine) (h2 : (!(Builtin.Str.occurrences (vs) (sg) 0 (vs).length 1).isEmpty) = true) {L : DM} {s : Shared} {p : Pos} (S : StD (K5 w s₀ b1 b2) (lexDM w.params A v16 false k none xs cs ks got none (.ref A.fst) ++ (chD c cd lc sg ++ laD A La (.str vs vt)) ++ L) [(A.g, .running)] s)
    (next : ∀ (τ : Nat → Nat → Tok) (N T G : Nat) (s' : Shared) (p' : Pos), (K5 w s₀ b1 b2).B ≤ N → N ≤ s'.heap.objs.size → StD (K5 w s₀ b1 b2) (lexDM w.params A v16 false (k + 1) none (xs.push (.ref c)) cs ks got none (.ref A.fst) ++ (chD c cd lc sg ++ laD A La (.str vs vt)) ++ L) [(A.g, .running)] s' → Y.H s' ⟨denF (arLoop w.params La), arLoop w.params La, p', fsAR w.params A k6 tl Ls cc La⟩) : Y.H s ⟨denF (arLoop w.params La), arLoop w.params La, p, fsAR w.params A k6 tl Ls cc La⟩ :=
  Y.seg (t' := fun τ N T G => denF (arLoop w.params La)) (c' := fun N T G => arLoop w.params La) (fs' := fun N T G => fsAR w.params A k6 tl Ls cc La) (d' := fun N T G => lexDM w.params A v16 false (k + 1) none (xs.push (.ref c)) cs ks got none (.ref A.fst) ++ (chD c cd lc sg ++ laD A La (.str vs vt))) (gm' := fun N T G => [(A.g, .running)]) S (by decide) (AR_next_ok_s_sp w s₀ b1 b2 A v16 cs ks got k6 tl k xs Ls cc La c cd lc sg vs vt) (AR_next_ok_s_r w s₀ b1 b2 A v16 cs ks got k6 tl k xs Ls cc La c cd lc sg vs vt  p) (fun τ ν N T G => .cons (ok1 rfl rfl rfl (sok_next _ _ _ _ _ _ _ _ h0)) (.cons (ok1 rfl rfl rfl (sok_push _ _ _ _ _ h1)) (.cons (okv (h2 ▸ sok_scontains _ _ _ _)) (AllOk.nil)))) next

noncomputable def AR_next_no_l_h : List Hint := [.o 18, .o 1, .b, .b, .b, .o 1, .b, .b, .b, .o 1, .b, .b, .b, .b, .o 1, .o 2, .o 18, .b, .b, .b, .o 0, .o 0, .o 0, .o 0, .b, .o 0, .o 2, .b, .b, .b, .o 2, .b, .b, .b, .o 2, .b, .b, .b, .b, .o 2, .o 3, .b, .b, .b, .b, .o 0, .o 0, .o 0, .o 0, .b, .o 0, .o 3, .b, .b, .b, .o 3, .b, .b, .b, .o 3, .o 3, .b, .o 4, .o 6, .o 6, .o 6, .o 6, .o 6, .b, .b, .o 0, .o 3, .b, .b, .b, .o 3, .b, .b, .b, .o 3, .o 3, .b, .o 4, .o 8, .o 8, .s 0 0, .o 0, .o 0, .o 0, .o 18, .b, .b, .b, .o 18, .b, .b, .b, .o 0, .o 3, .b, .b, .b, .o 3, .b, .b, .b, .o 3, .o 3, .b, .o 4, .o 7, .o 7, .o 7, .o 7, .o 0, .s 1 0, .o 0, .o 0, .o 1, .o 1, .o 1, .o 18, .b, .b, .b, .o 18, .b, .b, .b, .o 1, .o 18, .b, .b, .b, .o 18, .b, .b, .b, .o 18, .o 18, .b, .o 19, .o 1, .o 21, .o 21, .s 2 0, .o 1, .o 3, .b, .b, .b, .o 3, .b, .b, .b, .o 3, .b, .b, .b, .b, .o 3, .o 4, .o 1, .b, .b, .b, .o 0, .o 0, .o 0, .o 0, .b, .o 0, .o 19, .b, .b, .b, .o 19, .b, .b, .b, .o 0, .o 4, .b, .b, .b, .o 4, .b, .b, .b, .o 4, .o 4, .b, .o 5, .o 8, .o 8, .o 8, .o 8, .s 3 0, .s 4 0, .o 0, .o 4, .b, .b, .b, .o 4, .b, .b, .b, .o 4, .o 4, .b, .o 5, .o 7, .o 7, .o 7, .o 7, .o 0, .o 7, .o 7, .o 7, .o 7]
noncomputable def AR_next_no_l_sp (w : World) (s₀ : Shared) (b1 b2 : Bool) (A : LA) (v16 : Value) (cs ks got : Array Value) (k6 : Result → Sem Fin) (tl : Bool) (k : Nat) (xs : Array Value) (Ls cc La : Addr) (c cd lc : Addr) (sg : Str) (vl : Addr) (vs : Array Value) (τ : Nat → Nat → Tok) (ν : Nat → Nat) (N T G : Nat) : List Spec := [spNext A.it A.cl 8 9 cs (ν 7) (k : Nat) (.ref c),
  spPush A.ct 7 xs (ν 5) (.ref c),
  spHas vl 21 vs (ν 19) (.str (sg) (τ 17 1)) false,
  spV (callB "int.__neg__" [.int (1) (T + 15)]) (.int (-(1))) 1,
  spPop A.ct 8 xs ((ν 5) + 1) (.ref c) (T + 16)]
theorem AR_next_no_l_r (w : World) (s₀ : Shared) (b1 b2 : Bool) (A : LA) (v16 : Value) (cs ks got : Array Value) (k6 : Result → Sem Fin) (tl : Bool) (k : Nat) (xs : Array Value) (Ls cc La : Addr) (c cd lc : Addr) (sg : Str) (vl : Addr) (vs : Array Value)  (p : Pos) (τ : Nat → Nat → Tok) (ν : Nat → Nat) (N T G : Nat) :
  EndsQ w.params (run ((K5 w s₀ b1 b2).V [] N T G (AR_next_no_l_sp w s₀ b1 b2 A v16 cs ks got k6 tl k xs Ls cc La c cd lc sg vl vs τ ν N T G)) 377 (denF (arLoop w.params La)) (arLoop w.params La) p (fsAR w.params A k6 tl Ls cc La) (memOf w.params τ ν 0 (lexDM w.params A v16 false k none xs cs ks got none (.ref A.fst) ++ (chD c cd lc sg ++ laD A La (.ref vl) ++ vlD vl vs))) 0 0 [(A.g, .running)] 0 AR_next_no_l_h []) [3, 4, 5, 6, 7, 8, 9, 10, 11, 12, 13, 14, 15, 16, 17, 18, 19, 20, 21, 22]
    ((.pure (.done .next) : Sem Fin)) (arLoop w.params La) (fsAR w.params A k6 tl Ls cc La) (lexDM w.params A v16 false (k + 1) (some c) xs cs ks got none (.ref A.fst) ++ (chD c cd lc sg ++ laD A La (.ref vl) ++ vlD vl vs)) [(A.g, .running)] := by
  cases tl <;> (unfold EndsQ; kernel_rfl)
theorem AR_next_no_l (w : World) (s₀ : Shared) (b1 b2 : Bool) (Y : Sys (K5 w s₀ b1 b2)) (A : LA) (v16 : Value) (cs ks got : Array Value) (k6 : Result → Sem Fin) (tl : Bool) (k : Nat) (xs : Array Value) (Ls cc La : Addr) (c cd lc : Addr) (sg : Str) (vl : Addr) (vs : Array Value)  (h0 : cs[k]? = some (.ref c)) (h1 : xs.size ≤ sizeLine) (h2 : HasS vs (sg) false) (h3 : xs.size < sizeLine) {L : DM} {s : Shared} {p : Pos} (S : StD (K5 w s₀ b1 b2) (lexDM w.params A v16 false k none xs cs ks got none (.ref A.fst) ++ (chD c cd lc sg ++ laD A La (.ref vl) ++ vlD vl vs) ++ L) [(A.g, .running)] s)
    (next : ∀ (τ : Nat → Nat → Tok) (N T G : Nat) (s' : Shared) (p' : Pos), (K5 w s₀ b1 b2).B ≤ N → N ≤ s'.heap.objs.size → StD (K5 w s₀ b1 b2) (lexDM w.params A v16 false (k + 1) (some c) xs cs ks got none (.ref A.fst) ++ (chD c cd lc sg ++ laD A La (.ref vl) ++ vlD vl vs) ++ L) [(A.g, .running)] s' → Y.H s' ⟨(.pure (.done .next) : Sem Fin), arLoop w.params La, p', fsAR w.params A k6 tl Ls cc La⟩) : Y.H s ⟨denF (arLoop w.params La), arLoop w.params La, p, fsAR w.params A k6 tl Ls cc La⟩ :=
  Y.seg (t' := fun τ N T G => (.pure (.done .next) : Sem Fin)) (c' := fun N T G => arLoop w.params La) (fs' := fun N T G => fsAR w.params A k6 tl Ls cc La) (d' := fun N T G => lexDM w.params A v16 false (k + 1) (some c) xs cs ks got none (.ref A.fst) ++ (chD c cd lc sg ++ laD A La (.ref vl) ++ vlD vl vs)) (gm' := fun N T G => [(A.g, .running)]) S (by decide) (AR_next_no_l_sp w s₀ b1 b2 A v16 cs ks got k6 tl k xs Ls cc La c cd lc sg vl vs) (AR_next_no_l_r w s₀ b1 b2 A v16 cs ks got k6 tl k xs Ls cc La c cd lc sg vl vs  p) (fun τ ν N T G => .cons (ok1 rfl rfl rfl (sok_next _ _ _ _ _ _ _ _ h0)) (.cons (ok1 rfl rfl rfl (sok_push _ _ _ _ _ h1)) (.cons (ok_has _ _ _ _ _ _ _ h2) (.cons (okv (sok_neg _ _)) (.cons (ok_pop _ _ _ _ _ _ h3) (AllOk.nil)))))) next

noncomputable def AR_next_no_s_h : List Hint := [.o 18, .o 1, .b, .b, .b, .o 1, .b, .b, .b, .o 1, .b, .b, .b, .b, .o 1, .o 2, .o 18, .b, .b, .b, .o 0, .o 0, .o 0, .o 0, .b, .o 0, .o 2, .b, .b, .b, .o 2, .b, .b, .b, .o 2, .b, .b, .b, .b, .o 2, .o 3, .b, .b, .b, .b, .o 0, .o 0, .o 0, .o 0, .b, .o 0, .o 3, .b, .b, .b, .o 3, .b, .b, .b, .o 3, .o 3, .b, .o 4, .o 6, .o 6, .o 6, .o 6, .o 6, .b, .b, .o 0, .o 3, .b, .b, .b, .o 3, .b, .b, .b, .o 3, .o 3, .b, .o 4, .o 8, .o 8, .s 0 0, .o 0, .o 0, .o 0, .o 18, .b, .b, .b, .o 18, .b, .b, .b, .o 0, .o 3, .b, .b, .b, .o 3, .b, .b, .b, .o 3, .o 3, .b, .o 4, .o 7, .o 7, .o 7, .o 7, .o 0, .s 1 0, .o 0, .o 0, .o 1, .o 1, .o 1, .o 18, .b, .b, .b, .o 18, .b, .b, .b, .o 1, .o 18, .b, .b, .b, .o 18, .b, .b, .b, .o 18, .o 18, .b, .o 19, .o 1, .s 2 0, .o 1, .o 3, .b, .b, .b, .o 3, .b, .b, .b, .o 3, .b, .b, .b, .b, .o 3, .o 4, .o 1, .b, .b, .b, .o 0, .o 0, .o 0, .o 0, .b, .o 0, .o 19, .b, .b, .b, .o 19, .b, .b, .b, .o 0, .o 4, .b, .b, .b, .o 4, .b, .b, .b, .o 4, .o 4, .b, .o 5, .o 8, .o 8, .o 8, .o 8, .s 3 0, .s 4 0, .o 0, .o 4, .b, .b, .b, .o 4, .b, .b, .b, .o 4, .o 4, .b, .o 5, .o 7, .o 7, .o 7, .o 7, .o 0, .o 7, .o 7, .o 7, .o 7]
noncomputable def AR_next_no_s_sp (w : World) (s₀ : Shared) (b1 b2 : Bool) (A : LA) (v16 : Value) (cs ks got : Array Value) (k6 : Result → Sem Fin) (tl : Bool) (k : Nat) (xs : Array Value) (Ls cc La : Addr) (c cd lc : Addr) (sg : Str) (vs : Str) (vt : Tok) (τ : Nat → Nat → Tok) (ν : Nat → Nat) (N T G : Nat) : List Spec := [spNext A.it A.cl 8 9 cs (ν 7) (k : Nat) (.ref c),
  spPush A.ct 7 xs (ν 5) (.ref c),
  spV (callB "str.__contains__" [(.str vs vt), .str (sg) (τ 17 1)]) (.bool false) 0,
  spV (callB "int.__neg__" [.int (1) (T + 15)]) (.int (-(1))) 1,
  spPop A.ct 8 xs ((ν 5) + 1) (.ref c) (T + 16)]
theorem AR_next_no_s_r (w : World) (s₀ : Shared) (b1 b2 : Bool) (A : LA) (v16 : Value) (cs ks got : Array Value) (k6 : Result → Sem Fin) (tl : Bool) (k : Nat) (xs : Array Value) (Ls cc La : Addr) (c cd lc : Addr) (sg : Str) (vs : Str) (vt : Tok)  (p : Pos) (τ : Nat → Nat → Tok) (ν : Nat → Nat) (N T G : Nat) :
  EndsQ w.params (run ((K5 w s₀ b1 b2).V [] N T G (AR_next_no_s_sp w s₀ b1 b2 A v16 cs ks got k6 tl k xs Ls cc La c cd lc sg vs vt τ ν N T G)) 375 (denF (arLoop w.params La)) (arLoop w.params La) p (fsAR w.params A k6 tl Ls cc La) (memOf w.params τ ν 0 (lexDM w.params A v16 false k none xs cs ks got none (.ref A.fst) ++ (chD c cd lc sg ++ laD A La (.str vs vt)))) 0 0 [(A.g, .running)] 0 AR_next_no_s_h []) [3, 4, 5, 6, 7, 8, 9, 10, 11, 12, 13, 14, 15, 16, 17, 18, 19, 20, 21]
    ((.pure (.done .next) : Sem Fin)) (arLoop w.params La) (fsAR w.params A k6 tl Ls cc La) (lexDM w.params A v16 false (k + 1) (some c) xs cs ks got none (.ref A.fst) ++ (chD c cd lc sg ++ laD A La (.str vs vt))) [(A.g, .running)] := by
  cases tl <;> (unfold EndsQ; kernel_rfl)
theorem AR_next_no_s (w : World) (s₀ : Shared) (b1 b2 : Bool) (Y : Sys (K5 w s₀ b1 b2)) (A : LA) (v16 : Value) (cs ks got : Array Value) (k6 : Result → Sem Fin) (tl : Bool) (k : Nat) (xs : Array Value) (Ls cc La : Addr) (c cd lc : Addr) (sg : Str) (vs : Str) (vt : Tok)  (h0 : cs[k]? = some (.ref c)) (h1 : xs.size ≤ sizeLine) (h2 : (!(Builtin.Str.occurrences (vs) (sg) 0 (vs).length 1).isEmpty) = false) (h3 : xs.size < sizeLine) {L : DM} {s : Shared} {p : Pos} (S : StD (K5 w s₀ b1 b2) (lexDM w.params A v16 false k none xs cs ks got none (.ref A.fst) ++ (chD c cd lc sg ++ laD A La (.str vs vt)) ++ L) [(A.g, .running)] s)
    (next : ∀ (τ : Nat → Nat → Tok) (N T G : Nat) (s' : Shared) (p' : Pos), (K5 w s₀ b1 b2).B ≤ N → N ≤ s'.heap.objs.size → StD (K5 w s₀ b1 b2) (lexDM w.params A v16 false (k + 1) (some c) xs cs ks got none (.ref A.fst) ++ (chD c cd lc sg ++ laD A La (.str vs vt)) ++ L) [(A.g, .running)] s' → Y.H s' ⟨(.pure (.done .next) : Sem Fin), arLoop w.params La, p', fsAR w.params A k6 tl Ls cc La⟩) : Y.H s ⟨denF (arLoop w.params La), arLoop w.params La, p, fsAR w.params A k6 tl Ls cc La⟩ :=
  Y.seg (t' := fun τ N T G => (.pure (.done .next) : Sem Fin)) (c' := fun N T G => arLoop w.params La) (fs' := fun N T G => fsAR w.params A k6 tl Ls cc La) (d' := fun N T G => lexDM w.params A v16 false (k + 1) (some c) xs cs ks got none (.ref A.fst) ++ (chD c cd lc sg ++ laD A La (.str vs vt))) (gm' := fun N T G => [(A.g, .running)]) S (by decide) (AR_next_no_s_sp w s₀ b1 b2 A v16 cs ks got k6 tl k xs Ls cc La c cd lc sg vs vt) (AR_next_no_s_r w s₀ b1 b2 A v16 cs ks got k6 tl k xs Ls cc La c cd lc sg vs vt  p) (fun τ ν N T G => .cons (ok1 rfl rfl rfl (sok_next _ _ _ _ _ _ _ _ h0)) (.cons (ok1 rfl rfl rfl (sok_push _ _ _ _ _ h1)) (.cons (okv (h2 ▸ sok_scontains _ _ _ _)) (.cons (okv (sok_neg _ _)) (.cons (ok_pop _ _ _ _ _ _ h3) (AllOk.nil)))))) next

noncomputable def AR_pb_ok_l_h : List Hint := [.o 18, .o 1, .b, .b, .b, .o 1, .b, .b, .b, .o 1, .b, .b, .b, .b, .o 1, .o 2, .o 18, .b, .b, .b, .o 0, .o 0, .o 0, .o 0, .b, .o 0, .o 2, .b, .b, .b, .o 2, .b, .b, .b, .o 2, .b, .b, .b, .b, .o 2, .o 3, .b, .b, .b, .b, .o 0, .o 0, .o 0, .o 0, .b, .o 0, .o 3, .b, .b, .b, .o 3, .b, .b, .b, .o 3, .o 3, .b, .o 4, .o 6, .o 6, .o 6, .o 6, .o 6, .o 0, .o 3, .b, .b, .b, .o 3, .b, .b, .b, .o 3, .o 3, .b, .o 4, .o 6, .o 6, .o 6, .o 6, .o 6, .o 6, .o 6, .o 6, .o 6, .o 0, .o 0, .o 0, .o 18, .b, .b, .b, .o 18, .b, .b, .b, .o 0, .o 3, .b, .b, .b, .o 3, .b, .b, .b, .o 3, .o 3, .b, .o 4, .o 7, .o 7, .o 7, .o 7, .o 0, .s 0 0, .o 0, .o 0, .o 1, .o 1, .o 1, .o 18, .b, .b, .b, .o 18, .b, .b, .b, .o 1, .o 18, .b, .b, .b, .o 18, .b, .b, .b, .o 18, .o 18, .b, .o 19, .o 1, .o 21, .o 21, .s 1 0]
noncomputable def AR_pb_ok_l_sp (w : World) (s₀ : Shared) (b1 b2 : Bool) (A : LA) (v16 : Value) (cs ks got : Array Value) (k6 : Result → Sem Fin) (tl : Bool) (k : Nat) (xs : Array Value) (Ls cc La : Addr) (c cd lc : Addr) (sg : Str) (vl : Addr) (vs : Array Value) (τ : Nat → Nat → Tok) (ν : Nat → Nat) (N T G : Nat) : List Spec := [spPush A.ct 7 xs (ν 5) (.ref c),
  spHas vl 21 vs (ν 19) (.str (sg) (τ 17 1)) true]
theorem AR_pb_ok_l_r (w : World) (s₀ : Shared) (b1 b2 : Bool) (A : LA) (v16 : Value) (cs ks got : Array Value) (k6 : Result → Sem Fin) (tl : Bool) (k : Nat) (xs : Array Value) (Ls cc La : Addr) (c cd lc : Addr) (sg : Str) (vl : Addr) (vs : Array Value)  (p : Pos) (τ : Nat → Nat → Tok) (ν : Nat → Nat) (N T G : Nat) :
  EndsQ w.params (run ((K5 w s₀ b1 b2).V [] N T G (AR_pb_ok_l_sp w s₀ b1 b2 A v16 cs ks got k6 tl k xs Ls cc La c cd lc sg vl vs τ ν N T G)) 258 (denF (arLoop w.params La)) (arLoop w.params La) p (fsAR w.params A k6 tl Ls cc La) (memOf w.params τ ν 0 (lexDM w.params A v16 false k (some c) xs cs ks got none (.ref A.fst) ++ (chD c cd lc sg ++ laD A La (.ref vl) ++ vlD vl vs))) 0 0 [(A.g, .running)] 0 AR_pb_ok_l_h []) [2, 3, 4, 5, 6, 7, 8, 9, 10, 11, 12, 13, 14, 15, 16, 17, 18, 19, 20, 21]
    (denF (arLoop w.params La)) (arLoop w.params La) (fsAR w.params A k6 tl Ls cc La) (lexDM w.params A v16 false k none (xs.push (.ref c)) cs ks got none (.ref A.fst) ++ (chD c cd lc sg ++ laD A La (.ref vl) ++ vlD vl vs)) [(A.g, .running)] := by
  cases tl <;> (unfold EndsQ; kernel_rfl)
theorem AR_pb_ok_l (w : World) (s₀ : Shared) (b1 b2 : Bool) (Y : Sys (K5 w s₀ b1 b2)) (A : LA) (v16 : Value) (cs ks got : Array Value) (k6 : Result → Sem Fin) (tl : Bool) (k : Nat) (xs : Array Value) (Ls cc La : Addr) (c cd lc : Addr) (sg : Str) (vl : Addr) (vs : Array Value)  (h0 : xs.size ≤ sizeLine) (h1 : HasS vs (sg) true) {L : DM} {s : Shared} {p : Pos} (S : StD (K5 w s₀ b1 b2) (lexDM w.params A v16 false k (some c) xs cs ks got none (.ref A.fst) ++ (chD c cd lc sg ++ laD A La (.ref vl) ++ vlD vl vs) ++ L) [(A.g, .running)] s)
    (next : ∀ (τ : Nat → Nat → Tok) (N T G : Nat) (s' : Shared) (p' : Pos), (K5 w s₀ b1 b2).B ≤ N → N ≤ s'.heap.objs.size → StD (K5 w s₀ b1 b2) (lexDM w.params A v16 false k none (xs.push (.ref c)) cs ks got none (.ref A.fst) ++ (chD c cd lc sg ++ laD A La (.ref vl) ++ vlD vl vs) ++ L) [(A.g, .running)] s' → Y.H s' ⟨denF (arLoop w.params La), arLoop w.params La, p', fsAR w.params A k6 tl Ls cc La⟩) : Y.H s ⟨denF (arLoop w.params La), arLoop w.params La, p, fsAR w.params A k6 tl Ls cc La⟩ :=
  Y.seg (t' := fun τ N T G => denF (arLoop w.params La)) (c' := fun N T G => arLoop w.params La) (fs' := fun N T G => fsAR w.params A k6 tl Ls cc La) (d' := fun N T G => lexDM w.params A v16 false k none (xs.push (.ref c)) cs ks got none (.ref A.fst) ++ (chD c cd lc sg ++ laD A La (.ref vl) ++ vlD vl vs)) (gm' := fun N T G => [(A.g, .running)]) S (by decide) (AR_pb_ok_l_sp w s₀ b1 b2 A v16 cs ks got k6 tl k xs Ls cc La c cd lc sg vl vs) (AR_pb_ok_l_r w s₀ b1 b2 A v16 cs ks got k6 tl k xs Ls cc La c cd lc sg vl vs  p) (fun τ ν N T G => .cons (ok1 rfl rfl rfl (sok_push _ _ _ _ _ h0)) (.cons (ok_has _ _ _ _ _ _ _ h1) (AllOk.nil))) next

noncomputable def AR_pb_ok_s_h : List Hint := [.o 18, .o 1, .b, .b, .b, .o 1, .b, .b, .b, .o 1, .b, .b, .b, .b, .o 1, .o 2, .o 18, .b, .b, .b, .o 0, .o 0, .o 0, .o 0, .b, .o 0, .o 2, .b, .b, .b, .o 2, .b, .b, .b, .o 2, .b, .b, .b, .b, .o 2, .o 3, .b, .b, .b, .b, .o 0, .o 0, .o 0, .o 0, .b, .o 0, .o 3, .b, .b, .b, .o 3, .b, .b, .b, .o 3, .o 3, .b, .o 4, .o 6, .o 6, .o 6, .o 6, .o 6, .o 0, .o 3, .b, .b, .b, .o 3, .b, .b, .b, .o 3, .o 3, .b, .o 4, .o 6, .o 6, .o 6, .o 6, .o 6, .o 6, .o 6, .o 6, .o 6, .o 0, .o 0, .o 0, .o 18, .b, .b, .b, .o 18, .b, .b, .b, .o 0, .o 3, .b, .b, .b, .o 3, .b, .b, .b, .o 3, .o 3, .b, .o 4, .o 7, .o 7, .o 7, .o 7, .o 0, .s 0 0, .o 0, .o 0, .o 1, .o 1, .o 1, .o 18, .b, .b, .b, .o 18, .b, .b, .b, .o 1, .o 18, .b, .b, .b, .o 18, .b, .b, .b, .o 18, .o 18, .b, .o 19, .o 1, .s 1 0]
noncomputable def AR_pb_ok_s_sp (w : World) (s₀ : Shared) (b1 b2 : Bool) (A : LA) (v16 : Value) (cs ks got : Array Value) (k6 : Result → Sem Fin) (tl : Bool) (k : Nat) (xs : Array Value) (Ls cc La : Addr) (c cd lc : Addr) (sg : Str) (vs : Str) (vt : Tok) (τ : Nat → Nat → Tok) (ν : Nat → Nat) (N T G : Nat) : List Spec := [spPush A.ct 7 xs (ν 5) (.ref c),
  spV (callB "str.__contains__" [(.str vs vt), .str (sg) (τ 17 1)]) (.bool true) 0]
theorem AR_pb_ok_s_r (w : World) (s₀ : Shared) (b1 b2 : Bool) (A : LA) (v16 : Value) (cs ks got : Array Value) (k6 : Result → Sem Fin) (tl : Bool) (k : Nat) (xs : Array Value) (Ls cc La : Addr) (c cd lc : Addr) (sg : Str) (vs : Str) (vt : Tok)  (p : Pos) (τ : Nat → Nat → Tok) (ν : Nat → Nat) (N T G : Nat) :
  EndsQ w.params (run ((K5 w s₀ b1 b2).V [] N T G (AR_pb_ok_s_sp w s₀ b1 b2 A v16 cs ks got k6 tl k xs Ls cc La c cd lc sg vs vt τ ν N T G)) 256 (denF (arLoop w.params La)) (arLoop w.params La) p (fsAR w.params A k6 tl Ls cc La) (memOf w.params τ ν 0 (lexDM w.params A v16 false k (some c) xs cs ks got none (.ref A.fst) ++ (chD c cd lc sg ++ laD A La (.str vs vt)))) 0 0 [(A.g, .running)] 0 AR_pb_ok_s_h []) [2, 3, 4, 5, 6, 7, 8, 9, 10, 11, 12, 13, 14, 15, 16, 17, 18, 19, 20]
    (denF (arLoop w.params La)) (arLoop w.params La) (fsAR w.params A k6 tl Ls cc La) (lexDM w.params A v16 false k none (xs.push (.ref c)) cs ks got none (.ref A.fst) ++ (chD c cd lc sg ++ laD A La (.str vs vt))) [(A.g, .running)] := by
  cases tl <;> (unfold EndsQ; kernel_rfl)
theorem AR_pb_ok_s (w : World) (s₀ : Shared) (b1 b2 : Bool) (Y : Sys (K5 w s₀ b1 b2)) (A : LA) (v16 : Value) (cs ks got : Array Value) (k6 : Result → Sem Fin) (tl : Bool) (k : Nat) (xs : Array Value) (Ls cc La : Addr) (c cd lc : Addr) (sg : Str) (vs : Str) (vt : Tok)  (h0 : xs.size ≤ sizeLine) (h1 : (!(Builtin.Str.occurrences (vs) (sg) 0 (vs).length 1).isEmpty) = true) {L : DM} {s : Shared} {p : Pos} (S : StD (K5 w s₀ b1 b2) (lexDM w.params A v16 false k (some c) xs cs ks got none (.ref A.fst) ++ (chD c cd lc sg ++ laD A La (.str vs vt)) ++ L) [(A.g, .running)] s)
    (next : ∀ (τ : Nat → Nat → Tok) (N T G : Nat) (s' : Shared) (p' : Pos), (K5 w s₀ b1 b2).B ≤ N → N ≤ s'.heap.objs.size → StD (K5 w s₀ b1 b2) (lexDM w.params A v16 false k none (xs.push (.ref c)) cs ks got none (.ref A.fst) ++ (chD c cd lc sg ++ laD A La (.str vs vt)) ++ L) [(A.g, .running)] s' → Y.H s' ⟨denF (arLoop w.params La), arLoop w.params La, p', fsAR w.params A k6 tl Ls cc La⟩) : Y.H s ⟨denF (arLoop w.params La), arLoop w.params La, p, fsAR w.params A k6 tl Ls cc La⟩ :=
  Y.seg (t' := fun τ N T G => denF (arLoop w.params La)) (c' := fun N T G => arLoop w.params La) (fs' := fun N T G => fsAR w.params A k6 tl Ls cc La) (d' := fun N T G => lexDM w.params A v16 false k none (xs.push (.ref c)) cs ks got none (.ref A.fst) ++ (chD c cd lc sg ++ laD A La (.str vs vt))) (gm' := fun N T G => [(A.g, .running)]) S (by decide) (AR_pb_ok_s_sp w s₀ b1 b2 A v16 cs ks got k6 tl k xs Ls cc La c cd lc sg vs vt) (AR_pb_ok_s_r w s₀ b1 b2 A v16 cs ks got k6 tl k xs Ls cc La c cd lc sg vs vt  p) (fun τ ν N T G => .cons (ok1 rfl rfl rfl (sok_push _ _ _ _ _ h0)) (.cons (okv (h1 ▸ sok_scontains _ _ _ _)) (AllOk.nil))) next

noncomputable def AR_pb_no_l_h : List Hint := [.o 18, .o 1, .b, .b, .b, .o 1, .b, .b, .b, .o 1, .b, .b, .b, .b, .o 1, .o 2, .o 18, .b, .b, .b, .o 0, .o 0, .o 0, .o 0, .b, .o 0, .o 2, .b, .b, .b, .o 2, .b, .b, .b, .o 2, .b, .b, .b, .b, .o 2, .o 3, .b, .b, .b, .b, .o 0, .o 0, .o 0, .o 0, .b, .o 0, .o 3, .b, .b, .b, .o 3, .b, .b, .b, .o 3, .o 3, .b, .o 4, .o 6, .o 6, .o 6, .o 6, .o 6, .o 0, .o 3, .b, .b, .b, .o 3, .b, .b, .b, .o 3, .o 3, .b, .o 4, .o 6, .o 6, .o 6, .o 6, .o 6, .o 6, .o 6, .o 6, .o 6, .o 0, .o 0, .o 0, .o 18, .b, .b, .b, .o 18, .b, .b, .b, .o 0, .o 3, .b, .b, .b, .o 3, .b, .b, .b, .o 3, .o 3, .b, .o 4, .o 7, .o 7, .o 7, .o 7, .o 0, .s 0 0, .o 0, .o 0, .o 1, .o 1, .o 1, .o 18, .b, .b, .b, .o 18, .b, .b, .b, .o 1, .o 18, .b, .b, .b, .o 18, .b, .b, .b, .o 18, .o 18, .b, .o 19, .o 1, .o 21, .o 21, .s 1 0, .o 1, .o 3, .b, .b, .b, .o 3, .b, .b, .b, .o 3, .b, .b, .b, .b, .o 3, .o 4, .o 1, .b, .b, .b, .o 0, .o 0, .o 0, .o 0, .b, .o 0, .o 19, .b, .b, .b, .o 19, .b, .b, .b, .o 0, .o 4, .b, .b, .b, .o 4, .b, .b, .b, .o 4, .o 4, .b, .o 5, .o 8, .o 8, .o 8, .o 8, .s 2 0, .s 3 0, .o 0, .o 4, .b, .b, .b, .o 4, .b, .b, .b, .o 4, .o 4, .b, .o 5, .o 7, .o 7, .o 7, .o 7, .o 0, .o 7, .o 7, .o 7, .o 7]
noncomputable def AR_pb_no_l_sp (w : World) (s₀ : Shared) (b1 b2 : Bool) (A : LA) (v16 : Value) (cs ks got : Array Value) (k6 : Result → Sem Fin) (tl : Bool) (k : Nat) (xs : Array Value) (Ls cc La : Addr) (c cd lc : Addr) (sg : Str) (vl : Addr) (vs : Array Value) (τ : Nat → Nat → Tok) (ν : Nat → Nat) (N T G : Nat) : List Spec := [spPush A.ct 7 xs (ν 5) (.ref c),
  spHas vl 21 vs (ν 19) (.str (sg) (τ 17 1)) false,
  spV (callB "int.__neg__" [.int (1) (T + 16)]) (.int (-(1))) 1,
  spPop A.ct 8 xs ((ν 5) + 1) (.ref c) (T + 17)]
theorem AR_pb_no_l_r (w : World) (s₀ : Shared) (b1 b2 : Bool) (A : LA) (v16 : Value) (cs ks got : Array Value) (k6 : Result → Sem Fin) (tl : Bool) (k : Nat) (xs : Array Value) (Ls cc La : Addr) (c cd lc : Addr) (sg : Str) (vl : Addr) (vs : Array Value)  (p : Pos) (τ : Nat → Nat → Tok) (ν : Nat → Nat) (N T G : Nat) :
  EndsQ w.params (run ((K5 w s₀ b1 b2).V [] N T G (AR_pb_no_l_sp w s₀ b1 b2 A v16 cs ks got k6 tl k xs Ls cc La c cd lc sg vl vs τ ν N T G)) 383 (denF (arLoop w.params La)) (arLoop w.params La) p (fsAR w.params A k6 tl Ls cc La) (memOf w.params τ ν 0 (lexDM w.params A v16 false k (some c) xs cs ks got none (.ref A.fst) ++ (chD c cd lc sg ++ laD A La (.ref vl) ++ vlD vl vs))) 0 0 [(A.g, .running)] 0 AR_pb_no_l_h []) [3, 4, 5, 6, 7, 8, 9, 10, 11, 12, 13, 14, 15, 16, 17, 18, 19, 20, 21, 22]
    ((.pure (.done .next) : Sem Fin)) (arLoop w.params La) (fsAR w.params A k6 tl Ls cc La) (lexDM w.params A v16 false k (some c) xs cs ks got none (.ref A.fst) ++ (chD c cd lc sg ++ laD A La (.ref vl) ++ vlD vl vs)) [(A.g, .running)] := by
  cases tl <;> (unfold EndsQ; kernel_rfl)
theorem AR_pb_no_l (w : World) (s₀ : Shared) (b1 b2 : Bool) (Y : Sys (K5 w s₀ b1 b2)) (A : LA) (v16 : Value) (cs ks got : Array Value) (k6 : Result → Sem Fin) (tl : Bool) (k : Nat) (xs : Array Value) (Ls cc La : Addr) (c cd lc : Addr) (sg : Str) (vl : Addr) (vs : Array Value)  (h0 : xs.size ≤ sizeLine) (h1 : HasS vs (sg) false) (h2 : xs.size < sizeLine) {L : DM} {s : Shared} {p : Pos} (S : StD (K5 w s₀ b1 b2) (lexDM w.params A v16 false k (some c) xs cs ks got none (.ref A.fst) ++ (chD c cd lc sg ++ laD A La (.ref vl) ++ vlD vl vs) ++ L) [(A.g, .running)] s)
    (next : ∀ (τ : Nat → Nat → Tok) (N T G : Nat) (s' : Shared) (p' : Pos), (K5 w s₀ b1 b2).B ≤ N → N ≤ s'.heap.objs.size → StD (K5 w s₀ b1 b2) (lexDM w.params A v16 false k (some c) xs cs ks got none (.ref A.fst) ++ (chD c cd lc sg ++ laD A La (.ref vl) ++ vlD vl vs) ++ L) [(A.g, .running)] s' → Y.H s' ⟨(.pure (.done .next) : Sem Fin), arLoop w.params La, p', fsAR w.params A k6 tl Ls cc La⟩) : Y.H s ⟨denF (arLoop w.params La), arLoop w.params La, p, fsAR w.params A k6 tl Ls cc La⟩ :=
  Y.seg (t' := fun τ N T G => (.pure (.done .next) : Sem Fin)) (c' := fun N T G => arLoop w.params La) (fs' := fun N T G => fsAR w.params A k6 tl Ls cc La) (d' := fun N T G => lexDM w.params A v16 false k (some c) xs cs ks got none (.ref A.fst) ++ (chD c cd lc sg ++ laD A La (.ref vl) ++ vlD vl vs)) (gm' := fun N T G => [(A.g, .running)]) S (by decide) (AR_pb_no_l_sp w s₀ b1 b2 A v16 cs ks got k6 tl k xs Ls cc La c cd lc sg vl vs) (AR_pb_no_l_r w s₀ b1 b2 A v16 cs ks got k6 tl k xs Ls cc La c cd lc sg vl vs  p) (fun τ ν N T G => .cons (ok1 rfl rfl rfl (sok_push _ _ _ _ _ h0)) (.cons (ok_has _ _ _ _ _ _ _ h1) (.cons (okv (sok_neg _ _)) (.cons (ok_pop _ _ _ _ _ _ h2) (AllOk.nil))))) next

noncomputable def AR_pb_no_s_h : List Hint := [.o 18, .o 1, .b, .b, .b, .o 1, .b, .b, .b, .o 1, .b, .b, .b, .b, .o 1, .o 2, .o 18, .b, .b, .b, .o 0, .o 0, .o 0, .o 0, .b, .o 0, .o 2, .b, .b, .b, .o 2, .b, .b, .b, .o 2, .b, .b, .b, .b, .o 2, .o 3, .b, .b, .b, .b, .o 0, .o 0, .o 0, .o 0, .b, .o 0, .o 3, .b, .b, .b, .o 3, .b, .b, .b, .o 3, .o 3, .b, .o 4, .o 6, .o 6, .o 6, .o 6, .o 6, .o 0, .o 3, .b, .b, .b, .o 3, .b, .b, .b, .o 3, .o 3, .b, .o 4, .o 6, .o 6, .o 6, .o 6, .o 6, .o 6, .o 6, .o 6, .o 6, .o 0, .o 0, .o 0, .o 18, .b, .b, .b, .o 18, .b, .b, .b, .o 0, .o 3, .b, .b, .b, .o 3, .b, .b, .b, .o 3, .o 3, .b, .o 4, .o 7, .o 7, .o 7, .o 7, .o 0, .s 0 0, .o 0, .o 0, .o 1, .o 1, .o 1, .o 18, .b, .b, .b, .o 18, .b, .b, .b, .o 1, .o 18, .b, .b, .b, .o 18, .b, .b, .b, .o 18, .o 18, .b, .o 19, .o 1, .s 1 0, .o 1, .o 3, .b, .b, .b, .o 3, .b, .b, .b, .o 3, .b, .b, .b, .b, .o 3, .o 4, .o 1, .b, .b, .b, .o 0, .o 0, .o 0, .o 0, .b, .o 0, .o 19, .b, .b, .b, .o 19, .b, .b, .b, .o 0, .o 4, .b, .b, .b, .o 4, .b, .b, .b, .o 4, .o 4, .b, .o 5, .o 8, .o 8, .o 8, .o 8, .s 2 0, .s 3 0, .o 0, .o 4, .b, .b, .b, .o 4, .b, .b, .b, .o 4, .o 4, .b, .o 5, .o 7, .o 7, .o 7, .o 7, .o 0, .o 7, .o 7, .o 7, .o 7]
noncomputable def AR_pb_no_s_sp (w : World) (s₀ : Shared) (b1 b2 : Bool) (A : LA) (v16 : Value) (cs ks got : Array Value) (k6 : Result → Sem Fin) (tl : Bool) (k : Nat) (xs : Array Value) (Ls cc La : Addr) (c cd lc : Addr) (sg : Str) (vs : Str) (vt : Tok) (τ : Nat → Nat → Tok) (ν : Nat → Nat) (N T G : Nat) : List Spec := [spPush A.ct 7 xs (ν 5) (.ref c),
  spV (callB "str.__contains__" [(.str vs vt), .str (sg) (τ 17 1)]) (.bool false) 0,
  spV (callB "int.__neg__" [.int (1) (T + 16)]) (.int (-(1))) 1,
  spPop A.ct 8 xs ((ν 5) + 1) (.ref c) (T + 17)]
theorem AR_pb_no_s_r (w : World) (s₀ : Shared) (b1 b2 : Bool) (A : LA) (v16 : Value) (cs ks got : Array Value) (k6 : Result → Sem Fin) (tl : Bool) (k : Nat) (xs : Array Value) (Ls cc La : Addr) (c cd lc : Addr) (sg : Str) (vs : Str) (vt : Tok)  (p : Pos) (τ : Nat → Nat → Tok) (ν : Nat → Nat) (N T G : Nat) :
  EndsQ w.params (run ((K5 w s₀ b1 b2).V [] N T G (AR_pb_no_s_sp w s₀ b1 b2 A v16 cs ks got k6 tl k xs Ls cc La c cd lc sg vs vt τ ν N T G)) 381 (denF (arLoop w.params La)) (arLoop w.params La) p (fsAR w.params A k6 tl Ls cc La) (memOf w.params τ ν 0 (lexDM w.params A v16 false k (some c) xs cs ks got none (.ref A.fst) ++ (chD c cd lc sg ++ laD A La (.str vs vt)))) 0 0 [(A.g, .running)] 0 AR_pb_no_s_h []) [3, 4, 5, 6, 7, 8, 9, 10, 11, 12, 13, 14, 15, 16, 17, 18, 19, 20, 21]
    ((.pure (.done .next) : Sem Fin)) (arLoop w.params La) (fsAR w.params A k6 tl Ls cc La) (lexDM w.params A v16 false k (some c) xs cs ks got none (.ref A.fst) ++ (chD c cd lc sg ++ laD A La (.str vs vt))) [(A.g, .running)] := by
  cases tl <;> (unfold EndsQ; kernel_rfl)
theorem AR_pb_no_s (w : World) (s₀ : Shared) (b1 b2 : Bool) (Y : Sys (K5 w s₀ b1 b2)) (A : LA) (v16 : Value) (cs ks got : Array Value) (k6 : Result → Sem Fin) (tl : Bool) (k : Nat) (xs : Array Value) (Ls cc La : Addr) (c cd lc : Addr) (sg : Str) (vs : Str) (vt : Tok)  (h0 : xs.size ≤ sizeLine) (h1 : (!(Builtin.Str.occurrences (vs) (sg) 0 (vs).length 1).isEmpty) = false) (h2 : xs.size < sizeLine) {L : DM} {s : Shared} {p : Pos} (S : StD (K5 w s₀ b1 b2) (lexDM w.params A v16 false k (some c) xs cs ks got none (.ref A.fst) ++ (chD c cd lc sg ++ laD A La (.str vs vt)) ++ L) [(A.g, .running)] s)
    (next : ∀ (τ : Nat → Nat → Tok) (N T G : Nat) (s' : Shared) (p' : Pos), (K5 w s₀ b1 b2).B ≤ N → N ≤ s'.heap.objs.size → StD (K5 w s₀ b1 b2) (lexDM w.params A v16 false k (some c) xs cs ks got none (.ref A.fst) ++ (chD c cd lc sg ++ laD A La (.str vs vt)) ++ L) [(A.g, .running)] s' → Y.H s' ⟨(.pure (.done .next) : Sem Fin), arLoop w.params La, p', fsAR w.params A k6 tl Ls cc La⟩) : Y.H s ⟨denF (arLoop w.params La), arLoop w.params La, p, fsAR w.params A k6 tl Ls cc La⟩ :=
  Y.seg (t' := fun τ N T G => (.pure (.done .next) : Sem Fin)) (c' := fun N T G => arLoop w.params La) (fs' := fun N T G => fsAR w.params A k6 tl Ls cc La) (d' := fun N T G => lexDM w.params A v16 false k (some c) xs cs ks got none (.ref A.fst) ++ (chD c cd lc sg ++ laD A La (.str vs vt))) (gm' := fun N T G => [(A.g, .running)]) S (by decide) (AR_pb_no_s_sp w s₀ b1 b2 A v16 cs ks got k6 tl k xs Ls cc La c cd lc sg vs vt) (AR_pb_no_s_r w s₀ b1 b2 A v16 cs ks got k6 tl k xs Ls cc La c cd lc sg vs vt  p) (fun τ ν N T G => .cons (ok1 rfl rfl rfl (sok_push _ _ _ _ _ h0)) (.cons (okv (h1 ▸ sok_scontains _ _ _ _)) (.cons (okv (sok_neg _ _)) (.cons (ok_pop _ _ _ _ _ _ h2) (AllOk.nil))))) next

noncomputable def AR_next_no_eof_h : List Hint := [.o 16, .o 1, .b, .b, .b, .o 1, .b, .b, .b, .o 1, .b, .b, .b, .b, .o 1, .o 2, .o 16, .b, .b, .b, .o 0, .o 0, .o 0, .o 0, .b, .o 0, .o 2, .b, .b, .b, .o 2, .b, .b, .b, .o 2, .b, .b, .b, .b, .o 2, .o 3, .b, .b, .b, .b, .o 0, .o 0, .o 0, .o 0, .b, .o 0, .o 3, .b, .b, .b, .o 3, .b, .b, .b, .o 3, .o 3, .b, .o 4, .o 6, .o 6, .o 6, .o 6, .o 6, .b, .b, .o 0, .o 3, .b, .b, .b, .o 3, .b, .b, .b, .o 3, .o 3, .b, .o 4, .o 8, .o 8, .s 0 0, .o 0, .o 2, .o 2, .o 2, .o 2, .o 2, .o 3, .o 3, .o 3, .o 3, .o 5, .b, .b, .b, .o 5, .b, .b, .b, .o 5, .b, .b, .b, .b, .o 5, .o 6, .o 3, .b, .b, .b, .o 0, .o 0, .o 0, .o 0, .b, .o 0]
noncomputable def AR_next_no_eof_sp (w : World) (s₀ : Shared) (b1 b2 : Bool) (A : LA) (v16 : Value) (cs ks got : Array Value) (k6 : Result → Sem Fin) (tl : Bool) (k : Nat) (xs : Array Value) (Ls cc La : Addr) (va : SV) (τ : Nat → Nat → Tok) (ν : Nat → Nat) (N T G : Nat) : List Spec := [spEnd A.it A.cl 8 9 cs (ν 7) (k : Nat)]
theorem AR_next_no_eof_r (w : World) (s₀ : Shared) (b1 b2 : Bool) (A : LA) (v16 : Value) (cs ks got : Array Value) (k6 : Result → Sem Fin) (tl : Bool) (k : Nat) (xs : Array Value) (Ls cc La : Addr) (va : SV)  (p : Pos) (τ : Nat → Nat → Tok) (ν : Nat → Nat) (N T G : Nat) :
  EndsQ w.params (run ((K5 w s₀ b1 b2).V [] N T G (AR_next_no_eof_sp w s₀ b1 b2 A v16 cs ks got k6 tl k xs Ls cc La va τ ν N T G)) 225 (denF (arLoop w.params La)) (arLoop w.params La) p (fsAR w.params A k6 tl Ls cc La) (memOf w.params τ ν 0 (lexDM w.params A v16 false k none xs cs ks got none (.ref A.fst) ++ (laD A La va.val))) 0 0 [(A.g, .running)] 0 AR_next_no_eof_h []) [5, 6, 7, 8, 9, 10, 11, 12, 13, 14, 15, 16, 17, 18, 19, 20, 21]
    ((.pure (.done .next) : Sem Fin)) (arLoop w.params La) (fsAR w.params A k6 tl Ls cc La) (lexDM w.params A v16 true k none xs cs ks got none (.ref A.fst) ++ laD A La va.val) [(A.g, .running)] := by
  cases tl <;> cases va <;> (unfold EndsQ; kernel_rfl)
theorem AR_next_no_eof (w : World) (s₀ : Shared) (b1 b2 : Bool) (Y : Sys (K5 w s₀ b1 b2)) (A : LA) (v16 : Value) (cs ks got : Array Value) (k6 : Result → Sem Fin) (tl : Bool) (k : Nat) (xs : Array Value) (Ls cc La : Addr) (va : SV)  (h0 : cs[k]? = none) {L : DM} {s : Shared} {p : Pos} (S : StD (K5 w s₀ b1 b2) (lexDM w.params A v16 false k none xs cs ks got none (.ref A.fst) ++ (laD A La va.val) ++ L) [(A.g, .running)] s)
    (next : ∀ (τ : Nat → Nat → Tok) (N T G : Nat) (s' : Shared) (p' : Pos), (K5 w s₀ b1 b2).B ≤ N → N ≤ s'.heap.objs.size → StD (K5 w s₀ b1 b2) (lexDM w.params A v16 true k none xs cs ks got none (.ref A.fst) ++ laD A La va.val ++ L) [(A.g, .running)] s' → Y.H s' ⟨(.pure (.done .next) : Sem Fin), arLoop w.params La, p', fsAR w.params A k6 tl Ls cc La⟩) : Y.H s ⟨denF (arLoop w.params La), arLoop w.params La, p, fsAR w.params A k6 tl Ls cc La⟩ :=
  Y.seg (t' := fun τ N T G => (.pure (.done .next) : Sem Fin)) (c' := fun N T G => arLoop w.params La) (fs' := fun N T G => fsAR w.params A k6 tl Ls cc La) (d' := fun N T G => lexDM w.params A v16 true k none xs cs ks got none (.ref A.fst) ++ laD A La va.val) (gm' := fun N T G => [(A.g, .running)]) S (by decide) (AR_next_no_eof_sp w s₀ b1 b2 A v16 cs ks got k6 tl k xs Ls cc La va) (AR_next_no_eof_r w s₀ b1 b2 A v16 cs ks got k6 tl k xs Ls cc La va  p) (fun τ ν N T G => .cons (ok_end _ _ _ _ _ _ _ h0) (AllOk.nil)) next

noncomputable def AR_next_no_eof2_h : List Hint := [.o 16, .o 1, .b, .b, .b, .o 1, .b, .b, .b, .o 1, .b, .b, .b, .b, .o 1, .o 2, .o 16, .b, .b, .b, .o 0, .o 0, .o 0, .o 0, .b, .o 0, .o 2, .b, .b, .b, .o 2, .b, .b, .b, .o 2, .b, .b, .b, .b, .o 2, .o 3, .b, .b, .b, .b, .o 0, .o 0, .o 0, .o 0, .b, .o 0, .o 3, .b, .b, .b, .o 3, .b, .b, .b, .o 3, .o 3, .b, .o 4, .o 6, .o 6, .o 6, .o 6, .o 6, .b, .b, .o 0, .o 3, .b, .b, .b, .o 3, .b, .b, .b, .o 3, .o 3, .b, .o 4, .o 8, .o 8, .o 8, .o 8, .o 0, .o 2, .o 2, .o 2, .o 2, .o 2, .o 3, .o 3, .o 3, .o 3, .o 5, .b, .b, .b, .o 5, .b, .b, .b, .o 5, .b, .b, .b, .b, .o 5, .o 6, .o 3, .b, .b, .b, .o 0, .o 0, .o 0, .o 0, .b, .o 0]
noncomputable def AR_next_no_eof2_sp (w : World) (s₀ : Shared) (b1 b2 : Bool) (A : LA) (v16 : Value) (cs ks got : Array Value) (k6 : Result → Sem Fin) (tl : Bool) (k : Nat) (xs : Array Value) (Ls cc La : Addr) (va : SV) (τ : Nat → Nat → Tok) (ν : Nat → Nat) (N T G : Nat) : List Spec := []
theorem AR_next_no_eof2_r (w : World) (s₀ : Shared) (b1 b2 : Bool) (A : LA) (v16 : Value) (cs ks got : Array Value) (k6 : Result → Sem Fin) (tl : Bool) (k : Nat) (xs : Array Value) (Ls cc La : Addr) (va : SV)  (p : Pos) (τ : Nat → Nat → Tok) (ν : Nat → Nat) (N T G : Nat) :
  EndsQ w.params (run ((K5 w s₀ b1 b2).V [] N T G (AR_next_no_eof2_sp w s₀ b1 b2 A v16 cs ks got k6 tl k xs Ls cc La va τ ν N T G)) 233 (denF (arLoop w.params La)) (arLoop w.params La) p (fsAR w.params A k6 tl Ls cc La) (memOf w.params τ ν 0 (lexDM w.params A v16 true k none xs cs ks got none (.ref A.fst) ++ laD A La va.val)) 0 0 [(A.g, .running)] 0 AR_next_no_eof2_h []) [5, 6, 7, 8, 9, 10, 11, 12, 13, 14, 15, 16, 17, 18, 19, 20, 21]
    ((.pure (.done .next) : Sem Fin)) (arLoop w.params La) (fsAR w.params A k6 tl Ls cc La) (lexDM w.params A v16 true k none xs cs ks got none (.ref A.fst) ++ laD A La va.val) [(A.g, .running)] := by
  cases tl <;> cases va <;> (unfold EndsQ; kernel_rfl)
theorem AR_next_no_eof2 (w : World) (s₀ : Shared) (b1 b2 : Bool) (Y : Sys (K5 w s₀ b1 b2)) (A : LA) (v16 : Value) (cs ks got : Array Value) (k6 : Result → Sem Fin) (tl : Bool) (k : Nat) (xs : Array Value) (Ls cc La : Addr) (va : SV)   {L : DM} {s : Shared} {p : Pos} (S : StD (K5 w s₀ b1 b2) (lexDM w.params A v16 true k none xs cs ks got none (.ref A.fst) ++ laD A La va.val ++ L) [(A.g, .running)] s)
    (next : ∀ (τ : Nat → Nat → Tok) (N T G : Nat) (s' : Shared) (p' : Pos), (K5 w s₀ b1 b2).B ≤ N → N ≤ s'.heap.objs.size → StD (K5 w s₀ b1 b2) (lexDM w.params A v16 true k none xs cs ks got none (.ref A.fst) ++ laD A La va.val ++ L) [(A.g, .running)] s' → Y.H s' ⟨(.pure (.done .next) : Sem Fin), arLoop w.params La, p', fsAR w.params A k6 tl Ls cc La⟩) : Y.H s ⟨denF (arLoop w.params La), arLoop w.params La, p, fsAR w.params A k6 tl Ls cc La⟩ :=
  Y.seg (t' := fun τ N T G => (.pure (.done .next) : Sem Fin)) (c' := fun N T G => arLoop w.params La) (fs' := fun N T G => fsAR w.params A k6 tl Ls cc La) (d' := fun N T G => lexDM w.params A v16 true k none xs cs ks got none (.ref A.fst) ++ laD A La va.val) (gm' := fun N T G => [(A.g, .running)]) S (by decide) (AR_next_no_eof2_sp w s₀ b1 b2 A v16 cs ks got k6 tl k xs Ls cc La va) (AR_next_no_eof2_r w s₀ b1 b2 A v16 cs ks got k6 tl k xs Ls cc La va  p) (fun τ ν N T G => AllOk.nil) next

end Mine
end

section
set_option linter.unusedVariables false
set_option linter.unusedSimpArgs false
set_option maxRecDepth 100000
set_option maxHeartbeats 0
namespace Mine
open PySem PySem.W PySem.W.X

noncomputable def R1_h : List Hint := [.o 9, .o 1, .b, .b, .b, .o 1, .b, .b, .b, .o 1, .b, .b, .b, .b, .o 1, .o 2, .o 16, .b, .b, .b, .o 0, .o 0, .o 0, .o 0, .b]
noncomputable def R1_sp (w : World) (s₀ : Shared) (b1 b2 : Bool) (A : LA) (v16 : Value) (cs ks got : Array Value) (k6 : Result → Sem Fin) (e : Bool) (k : Nat) (pb : Option Addr) (xs : Array Value) (Ls cc La : Addr) (nm hd : Str) (rv tv : SV) (dv : Bool) (τ : Nat → Nat → Tok) (ν : Nat → Nat) (N T G : Nat) : List Spec := []
theorem R1_r (w : World) (s₀ : Shared) (b1 b2 : Bool) (A : LA) (v16 : Value) (cs ks got : Array Value) (k6 : Result → Sem Fin) (e : Bool) (k : Nat) (pb : Option Addr) (xs : Array Value) (Ls cc La : Addr) (nm hd : Str) (rv tv : SV) (dv : Bool)  (p : Pos) (τ : Nat → Nat → Tok) (ν : Nat → Nat) (N T G : Nat) :
  EndsQ w.params (run ((K5 w s₀ b1 b2).V [] N T G (R1_sp w s₀ b1 b2 A v16 cs ks got k6 e k pb xs Ls cc La nm hd rv tv dv τ ν N T G)) 45 ((.pure (.done .next) : Sem Fin)) (arLoop w.params La) p (fsAR w.params A k6 false Ls cc La) (memOf w.params τ ν 0 (lexDM w.params A v16 e k pb xs cs ks got none (.ref A.fst) ++ lsD Ls nm hd rv tv dv)) 0 0 [(A.g, .running)] 0 R1_h []) [1, 2, 3, 4, 5, 6, 7, 8, 9, 10, 11, 12, 13, 14, 15, 16, 17, 0]
    (denF (arLoop w.params (N + 0))) (arLoop w.params (N + 0)) (fsAR w.params A k6 true Ls cc (N + 0)) (lexDM w.params A v16 e k pb xs cs ks got none (.ref A.fst) ++ (lsD Ls nm hd rv tv dv ++ laD A (N + 0) tv.val)) [(A.g, .running)] := by
  cases tv <;> cases rv <;> cases pb <;> cases e <;> (unfold EndsQ; kernel_rfl)
theorem R1 (w : World) (s₀ : Shared) (b1 b2 : Bool) (Y : Sys (K5 w s₀ b1 b2)) (A : LA) (v16 : Value) (cs ks got : Array Value) (k6 : Result → Sem Fin) (e : Bool) (k : Nat) (pb : Option Addr) (xs : Array Value) (Ls cc La : Addr) (nm hd : Str) (rv tv : SV) (dv : Bool)   {L : DM} {s : Shared} {p : Pos} (S : StD (K5 w s₀ b1 b2) (lexDM w.params A v16 e k pb xs cs ks got none (.ref A.fst) ++ lsD Ls nm hd rv tv dv ++ L) [(A.g, .running)] s)
    (next : ∀ (τ : Nat → Nat → Tok) (N T G : Nat) (s' : Shared) (p' : Pos), (K5 w s₀ b1 b2).B ≤ N → N ≤ s'.heap.objs.size → StD (K5 w s₀ b1 b2) (lexDM w.params A v16 e k pb xs cs ks got none (.ref A.fst) ++ (lsD Ls nm hd rv tv dv ++ laD A (N + 0) tv.val) ++ L) [(A.g, .running)] s' → Y.H s' ⟨denF (arLoop w.params (N + 0)), arLoop w.params (N + 0), p', fsAR w.params A k6 true Ls cc (N + 0)⟩) : Y.H s ⟨(.pure (.done .next) : Sem Fin), arLoop w.params La, p, fsAR w.params A k6 false Ls cc La⟩ :=
  Y.seg (t' := fun τ N T G => denF (arLoop w.params (N + 0))) (c' := fun N T G => arLoop w.params (N + 0)) (fs' := fun N T G => fsAR w.params A k6 true Ls cc (N + 0)) (d' := fun N T G => lexDM w.params A v16 e k pb xs cs ks got none (.ref A.fst) ++ (lsD Ls nm hd rv tv dv ++ laD A (N + 0) tv.val)) (gm' := fun N T G => [(A.g, .running)]) S (by decide) (R1_sp w s₀ b1 b2 A v16 cs ks got k6 e k pb xs Ls cc La nm hd rv tv dv) (R1_r w s₀ b1 b2 A v16 cs ks got k6 e k pb xs Ls cc La nm hd rv tv dv  p) (fun τ ν N T G => AllOk.nil) next

noncomputable def R2d_h : List Hint := [.o 16, .o 9, .o 1, .b, .b, .b, .o 1, .b, .b, .b, .o 1, .b, .b, .b, .b, .o 1, .o 2, .b, .b, .b, .o 0, .o 0, .b, .o 0, .o 2, .b, .b, .b, .o 2, .b, .b, .b, .o 2, .o 2, .b, .o 3, .o 6, .o 6, .o 6, .o 6, .s 0 0, .o 11, .o 1, .o 1, .o 1, .o 12, .o 12]
noncomputable def R2d_sp (w : World) (s₀ : Shared) (b1 b2 : Bool) (A : LA) (v16 : Value) (cs ks got : Array Value) (k6 : Result → Sem Fin) (e : Bool) (k : Nat) (pb : Option Addr) (xs : Array Value) (Ls cc La : Addr) (nm hd : Str) (rv tv : SV) (τ : Nat → Nat → Tok) (ν : Nat → Nat) (N T G : Nat) : List Spec := [spClear A.ct 6 xs (ν 5)]
theorem R2d_r (w : World) (s₀ : Shared) (b1 b2 : Bool) (A : LA) (v16 : Value) (cs ks got : Array Value) (k6 : Result → Sem Fin) (e : Bool) (k : Nat) (pb : Option Addr) (xs : Array Value) (Ls cc La : Addr) (nm hd : Str) (rv tv : SV)  (p : Pos) (τ : Nat → Nat → Tok) (ν : Nat → Nat) (N T G : Nat) :
  EndsQ w.params (run ((K5 w s₀ b1 b2).V [] N T G (R2d_sp w s₀ b1 b2 A v16 cs ks got k6 e k pb xs Ls cc La nm hd rv tv τ ν N T G)) 92 ((.pure (.done .next) : Sem Fin)) (arLoop w.params La) p (fsAR w.params A k6 true Ls cc La) (memOf w.params τ ν 0 (lexDM w.params A v16 e k pb xs cs ks got none (.ref A.fst) ++ lsD Ls nm hd rv tv true)) 0 0 [(A.g, .running)] 0 R2d_h []) [1, 2, 3, 4, 5, 6, 7, 8, 9, 10, 11, 12, 13, 14, 15, 16]
    (denF (cInner w.params A)) (cInner w.params A) (fs0 w.params A k6) (lexDM w.params A v16 e k pb #[] cs ks got none (.ref A.fst)) [(A.g, .running)] := by
  cases tv <;> cases rv <;> cases pb <;> cases e <;> (unfold EndsQ; kernel_rfl)
theorem R2d (w : World) (s₀ : Shared) (b1 b2 : Bool) (Y : Sys (K5 w s₀ b1 b2)) (A : LA) (v16 : Value) (cs ks got : Array Value) (k6 : Result → Sem Fin) (e : Bool) (k : Nat) (pb : Option Addr) (xs : Array Value) (Ls cc La : Addr) (nm hd : Str) (rv tv : SV)  (h0 : xs.size ≤ sizeLine) {L : DM} {s : Shared} {p : Pos} (S : StD (K5 w s₀ b1 b2) (lexDM w.params A v16 e k pb xs cs ks got none (.ref A.fst) ++ lsD Ls nm hd rv tv true ++ L) [(A.g, .running)] s)
    (next : ∀ (τ : Nat → Nat → Tok) (N T G : Nat) (s' : Shared) (p' : Pos), (K5 w s₀ b1 b2).B ≤ N → N ≤ s'.heap.objs.size → StD (K5 w s₀ b1 b2) (lexDM w.params A v16 e k pb #[] cs ks got none (.ref A.fst) ++ L) [(A.g, .running)] s' → Y.H s' ⟨denF (cInner w.params A), cInner w.params A, p', fs0 w.params A k6⟩) : Y.H s ⟨(.pure (.done .next) : Sem Fin), arLoop w.params La, p, fsAR w.params A k6 true Ls cc La⟩ :=
  Y.seg (t' := fun τ N T G => denF (cInner w.params A)) (c' := fun N T G => cInner w.params A) (fs' := fun N T G => fs0 w.params A k6) (d' := fun N T G => lexDM w.params A v16 e k pb #[] cs ks got none (.ref A.fst)) (gm' := fun N T G => [(A.g, .running)]) S (by decide) (R2d_sp w s₀ b1 b2 A v16 cs ks got k6 e k pb xs Ls cc La nm hd rv tv) (R2d_r w s₀ b1 b2 A v16 cs ks got k6 e k pb xs Ls cc La nm hd rv tv  p) (fun τ ν N T G => .cons (ok_clear _ _ _ _ h0) (AllOk.nil)) next

noncomputable def tabD : Option Addr → DM
  | none => [(180, .tab [])]
  | some co => [(180, .tab [.raw (.int 83 0), .raw (.int 22 0), .ref co])]

noncomputable def genD (A : LA) (Le it3 Lg gobj g : Addr) (nm : Str) : DM := [(Le, .dict c_frame [([115, 101, 108, 102], .ref A.sf), ([116, 121, 112], .str nm)]), (it3, .fields c_listit [.ref A.ct, .raw (.int 0 0)]), (Lg, .dict c_frame [([46, 48], .ref it3)]), (gobj, .fields c_gen [.raw (.int (g : Int) 0), .str ⟨⟨[60, 103, 101, 110, 101, 120, 112, 114, 62]⟩⟩, .str ⟨⟨[72, 97, 110, 100, 76, 101, 120, 101, 114, 66, 97, 115, 101, 46, 101, 109, 105, 116, 46, 60, 108, 111, 99, 97, 108, 115, 62, 46, 60, 103, 101, 110, 101, 120, 112, 114, 62]⟩⟩])]

noncomputable def R2e0_h : List Hint := [.o 16, .o 9, .o 1, .b, .b, .b, .o 1, .b, .b, .b, .o 1, .b, .b, .b, .b, .o 1, .o 2, .o 16, .b, .b, .b, .o 0, .o 0, .o 0, .o 0, .b, .o 0, .o 2, .b, .b, .b, .o 2, .b, .b, .b, .o 2, .o 2, .b, .o 3, .o 6, .o 6, .o 6, .o 0, .b, .b, .o 19, .o 22, .o 22, .o 22, .b, .b, .o 0, .o 0]
noncomputable def R2e0_sp (w : World) (s₀ : Shared) (b1 b2 : Bool) (A : LA) (v16 : Value) (cs ks got : Array Value) (k6 : Result → Sem Fin) (e : Bool) (k : Nat) (pb : Option Addr) (xs : Array Value) (Ls cc La : Addr) (nm hd : Str) (rv tv : SV) (τ : Nat → Nat → Tok) (ν : Nat → Nat) (N T G : Nat) : List Spec := []
theorem R2e0_r (w : World) (s₀ : Shared) (b1 b2 : Bool) (A : LA) (v16 : Value) (cs ks got : Array Value) (k6 : Result → Sem Fin) (e : Bool) (k : Nat) (pb : Option Addr) (xs : Array Value) (Ls cc La : Addr) (nm hd : Str) (rv tv : SV)  (p : Pos) (τ : Nat → Nat → Tok) (ν : Nat → Nat) (N T G : Nat) :
  EndsQ w.params (run ((K5 w s₀ b1 b2).V [] N T G (R2e0_sp w s₀ b1 b2 A v16 cs ks got k6 e k pb xs Ls cc La nm hd rv tv τ ν N T G)) 108 ((.pure (.done .next) : Sem Fin)) (arLoop w.params La) p (fsAR w.params A k6 true Ls cc La) (memOf w.params τ ν 0 (lexDM w.params A v16 e k pb xs cs ks got none (.ref A.fst) ++ (lsD Ls nm hd rv tv false ++ tabD none))) 0 0 [(A.g, .running)] 0 R2e0_h []) [7, 8, 9, 10, 11, 12, 13, 14, 15, 16, 17, 18, 19, 20, 21, 22, 23, 24, 6, 5, 1, 0]
    (denF (cJoin (T + 2) (N + 6))) (cJoin (T + 2) (N + 6)) (fsJ w.params A k6 Ls cc (N + 0) 0 0) (lexDM w.params A v16 e k pb xs cs ks got none (.ref A.fst) ++ (lsD Ls nm hd rv tv false ++ (tabD (some (N + 4)) ++ genD A (N + 0) (N + 1) (N + 5) (N + 6) G nm))) [(G, genC w.params A (N + 0) (N + 1) (N + 5) (N + 4)), (A.g, .running)] := by
  cases tv <;> cases rv <;> cases pb <;> cases e <;> cases b1 <;> (unfold EndsQ; kernel_rfl)
theorem R2e0 (w : World) (s₀ : Shared) (b1 b2 : Bool) (Y : Sys (K5 w s₀ b1 b2)) (A : LA) (v16 : Value) (cs ks got : Array Value) (k6 : Result → Sem Fin) (e : Bool) (k : Nat) (pb : Option Addr) (xs : Array Value) (Ls cc La : Addr) (nm hd : Str) (rv tv : SV)   {L : DM} {s : Shared} {p : Pos} (S : StD (K5 w s₀ b1 b2) (lexDM w.params A v16 e k pb xs cs ks got none (.ref A.fst) ++ (lsD Ls nm hd rv tv false ++ tabD none) ++ L) [(A.g, .running)] s)
    (next : ∀ (τ : Nat → Nat → Tok) (N T G : Nat) (s' : Shared) (p' : Pos), (K5 w s₀ b1 b2).B ≤ N → N ≤ s'.heap.objs.size → StD (K5 w s₀ b1 b2) (lexDM w.params A v16 e k pb xs cs ks got none (.ref A.fst) ++ (lsD Ls nm hd rv tv false ++ (tabD (some (N + 4)) ++ genD A (N + 0) (N + 1) (N + 5) (N + 6) G nm)) ++ L) [(G, genC w.params A (N + 0) (N + 1) (N + 5) (N + 4)), (A.g, .running)] s' → Y.H s' ⟨denF (cJoin (T + 2) (N + 6)), cJoin (T + 2) (N + 6), p', fsJ w.params A k6 Ls cc (N + 0) 0 0⟩) : Y.H s ⟨(.pure (.done .next) : Sem Fin), arLoop w.params La, p, fsAR w.params A k6 true Ls cc La⟩ :=
  Y.seg (t' := fun τ N T G => denF (cJoin (T + 2) (N + 6))) (c' := fun N T G => cJoin (T + 2) (N + 6)) (fs' := fun N T G => fsJ w.params A k6 Ls cc (N + 0) 0 0) (d' := fun N T G => lexDM w.params A v16 e k pb xs cs ks got none (.ref A.fst) ++ (lsD Ls nm hd rv tv false ++ (tabD (some (N + 4)) ++ genD A (N + 0) (N + 1) (N + 5) (N + 6) G nm))) (gm' := fun N T G => [(G, genC w.params A (N + 0) (N + 1) (N + 5) (N + 4)), (A.g, .running)]) S (by decide) (R2e0_sp w s₀ b1 b2 A v16 cs ks got k6 e k pb xs Ls cc La nm hd rv tv) (R2e0_r w s₀ b1 b2 A v16 cs ks got k6 e k pb xs Ls cc La nm hd rv tv  p) (fun τ ν N T G => AllOk.nil) next

noncomputable def R2e1_h : List Hint := [.o 16, .o 9, .o 1, .b, .b, .b, .o 1, .b, .b, .b, .o 1, .b, .b, .b, .b, .o 1, .o 2, .o 16, .b, .b, .b, .o 0, .o 0, .o 0, .o 0, .b, .o 0, .o 2, .b, .b, .b, .o 2, .b, .b, .b, .o 2, .o 2, .b, .o 3, .o 6, .o 6, .o 6, .o 0, .b, .b, .o 19, .b, .b, .o 0, .o 0]
noncomputable def R2e1_sp (w : World) (s₀ : Shared) (b1 b2 : Bool) (A : LA) (v16 : Value) (cs ks got : Array Value) (k6 : Result → Sem Fin) (e : Bool) (k : Nat) (pb : Option Addr) (xs : Array Value) (Ls cc La : Addr) (nm hd : Str) (rv tv : SV) (co : Addr) (τ : Nat → Nat → Tok) (ν : Nat → Nat) (N T G : Nat) : List Spec := []
theorem R2e1_r (w : World) (s₀ : Shared) (b1 b2 : Bool) (A : LA) (v16 : Value) (cs ks got : Array Value) (k6 : Result → Sem Fin) (e : Bool) (k : Nat) (pb : Option Addr) (xs : Array Value) (Ls cc La : Addr) (nm hd : Str) (rv tv : SV) (co : Addr)  (p : Pos) (τ : Nat → Nat → Tok) (ν : Nat → Nat) (N T G : Nat) :
  EndsQ w.params (run ((K5 w s₀ b1 b2).V [] N T G (R2e1_sp w s₀ b1 b2 A v16 cs ks got k6 e k pb xs Ls cc La nm hd rv tv co τ ν N T G)) 97 ((.pure (.done .next) : Sem Fin)) (arLoop w.params La) p (fsAR w.params A k6 true Ls cc La) (memOf w.params τ ν 0 (lexDM w.params A v16 e k pb xs cs ks got none (.ref A.fst) ++ (lsD Ls nm hd rv tv false ++ tabD (some co)))) 0 0 [(A.g, .running)] 0 R2e1_h []) [4, 5, 6, 7, 8, 9, 10, 11, 12, 13, 14, 15, 16, 17, 18, 19, 20, 21, 3, 2, 1, 0]
    (denF (cJoin (T + 2) (N + 3))) (cJoin (T + 2) (N + 3)) (fsJ w.params A k6 Ls cc (N + 0) 0 0) (lexDM w.params A v16 e k pb xs cs ks got none (.ref A.fst) ++ (lsD Ls nm hd rv tv false ++ (tabD (some co) ++ genD A (N + 0) (N + 1) (N + 2) (N + 3) G nm))) [(G, genC w.params A (N + 0) (N + 1) (N + 2) co), (A.g, .running)] := by
  cases tv <;> cases rv <;> cases pb <;> cases e <;> cases b1 <;> (unfold EndsQ; kernel_rfl)
theorem R2e1 (w : World) (s₀ : Shared) (b1 b2 : Bool) (Y : Sys (K5 w s₀ b1 b2)) (A : LA) (v16 : Value) (cs ks got : Array Value) (k6 : Result → Sem Fin) (e : Bool) (k : Nat) (pb : Option Addr) (xs : Array Value) (Ls cc La : Addr) (nm hd : Str) (rv tv : SV) (co : Addr)   {L : DM} {s : Shared} {p : Pos} (S : StD (K5 w s₀ b1 b2) (lexDM w.params A v16 e k pb xs cs ks got none (.ref A.fst) ++ (lsD Ls nm hd rv tv false ++ tabD (some co)) ++ L) [(A.g, .running)] s)
    (next : ∀ (τ : Nat → Nat → Tok) (N T G : Nat) (s' : Shared) (p' : Pos), (K5 w s₀ b1 b2).B ≤ N → N ≤ s'.heap.objs.size → StD (K5 w s₀ b1 b2) (lexDM w.params A v16 e k pb xs cs ks got none (.ref A.fst) ++ (lsD Ls nm hd rv tv false ++ (tabD (some co) ++ genD A (N + 0) (N + 1) (N + 2) (N + 3) G nm)) ++ L) [(G, genC w.params A (N + 0) (N + 1) (N + 2) co), (A.g, .running)] s' → Y.H s' ⟨denF (cJoin (T + 2) (N + 3)), cJoin (T + 2) (N + 3), p', fsJ w.params A k6 Ls cc (N + 0) 0 0⟩) : Y.H s ⟨(.pure (.done .next) : Sem Fin), arLoop w.params La, p, fsAR w.params A k6 true Ls cc La⟩ :=
  Y.seg (t' := fun τ N T G => denF (cJoin (T + 2) (N + 3))) (c' := fun N T G => cJoin (T + 2) (N + 3)) (fs' := fun N T G => fsJ w.params A k6 Ls cc (N + 0) 0 0) (d' := fun N T G => lexDM w.params A v16 e k pb xs cs ks got none (.ref A.fst) ++ (lsD Ls nm hd rv tv false ++ (tabD (some co) ++ genD A (N + 0) (N + 1) (N + 2) (N + 3) G nm))) (gm' := fun N T G => [(G, genC w.params A (N + 0) (N + 1) (N + 2) co), (A.g, .running)]) S (by decide) (R2e1_sp w s₀ b1 b2 A v16 cs ks got k6 e k pb xs Ls cc La nm hd rv tv co) (R2e1_r w s₀ b1 b2 A v16 cs ks got k6 e k pb xs Ls cc La nm hd rv tv co  p) (fun τ ν N T G => AllOk.nil) next

structure Ch where
  a : Addr
  d : Addr
  l : Addr
  ld : Addr
  sg : Nat
  row : Int
  col : Int
  file : Str
noncomputable def Ch.sgs (x : Ch) : Str := ⟨⟨[x.sg]⟩⟩
noncomputable def leD (A : LA) (Le : Addr) (nm : Str) : DM := [(Le, .dict c_frame [([115, 101, 108, 102], .ref A.sf), ([116, 121, 112], .str nm)])]
noncomputable def locD (x : Ch) : DM := [(x.l, .both 79 x.ld [some (.int x.col), some (.str x.file), some (.int 1), some (.int x.row), some .none]), (x.ld, .dict c_dict [])]
noncomputable def tokD (tok td : Addr) (nm x : Str) (l : Addr) : DM := [(tok, .both 47 td [some (.ref l), some (.str nm), some (.str x)]), (td, .dict c_dict [])]
noncomputable def adD (A : LA) (fr : Option Addr) : DM := [(A.ad, .dict c_dict (oneE [116] fr))]

end Mine
end

section
set_option linter.unusedVariables false
set_option linter.unusedSimpArgs false
set_option maxRecDepth 100000
set_option maxHeartbeats 0
namespace Mine
open PySem PySem.W PySem.W.X

noncomputable def J0_h : List Hint := [.o 3, .o 3, .o 3, .o 3, .o 3]
noncomputable def J0_sp (w : World) (s₀ : Shared) (b1 b2 : Bool) (A : LA) (k6 : Result → Sem Fin) (Ls cc Le it3 Lg gobj g2 co : Addr) (tk : Tok) (nm : Str) (τ : Nat → Nat → Tok) (ν : Nat → Nat) (N T G : Nat) : List Spec := []
theorem J0_r (w : World) (s₀ : Shared) (b1 b2 : Bool) (A : LA) (k6 : Result → Sem Fin) (Ls cc Le it3 Lg gobj g2 co : Addr) (tk : Tok) (nm : Str)  (p : Pos) (τ : Nat → Nat → Tok) (ν : Nat → Nat) (N T G : Nat) :
  EndsQ w.params (run ((K5 w s₀ b1 b2).V [] N T G (J0_sp w s₀ b1 b2 A k6 Ls cc Le it3 Lg gobj g2 co tk nm τ ν N T G)) 13 (denF (cJoin tk gobj)) (cJoin tk gobj) p (fsJ w.params A k6 Ls cc Le 0 0) (memOf w.params τ ν 0 (genD A Le it3 Lg gobj g2 nm)) 0 0 [(g2, genC w.params A Le it3 Lg co), (A.g, .running)] 0 J0_h []) [1, 2, 3, 4, 0]
    (denF (cIadd N gobj)) (cIadd N gobj) (fsI w.params A k6 Ls cc Le p tk gobj) (genD A Le it3 Lg gobj g2 nm ++ ([(N, .seq c_list [])] : DM)) [(g2, genC w.params A Le it3 Lg co), (A.g, .running)] := by
  cases b1 <;> (unfold EndsQ; kernel_rfl)
theorem J0 (w : World) (s₀ : Shared) (b1 b2 : Bool) (Y : Sys (K5 w s₀ b1 b2)) (A : LA) (k6 : Result → Sem Fin) (Ls cc Le it3 Lg gobj g2 co : Addr) (tk : Tok) (nm : Str)   {L : DM} {s : Shared} {p : Pos} (S : StD (K5 w s₀ b1 b2) (genD A Le it3 Lg gobj g2 nm ++ L) [(g2, genC w.params A Le it3 Lg co), (A.g, .running)] s)
    (next : ∀ (τ : Nat → Nat → Tok) (N T G : Nat) (s' : Shared) (p' : Pos), (K5 w s₀ b1 b2).B ≤ N → N ≤ s'.heap.objs.size → StD (K5 w s₀ b1 b2) (genD A Le it3 Lg gobj g2 nm ++ ([(N, .seq c_list [])] : DM) ++ L) [(g2, genC w.params A Le it3 Lg co), (A.g, .running)] s' → Y.H s' ⟨denF (cIadd N gobj), cIadd N gobj, p', fsI w.params A k6 Ls cc Le p tk gobj⟩) : Y.H s ⟨denF (cJoin tk gobj), cJoin tk gobj, p, fsJ w.params A k6 Ls cc Le 0 0⟩ :=
  Y.seg (t' := fun τ N T G => denF (cIadd N gobj)) (c' := fun N T G => cIadd N gobj) (fs' := fun N T G => fsI w.params A k6 Ls cc Le p tk gobj) (d' := fun N T G => genD A Le it3 Lg gobj g2 nm ++ ([(N, .seq c_list [])] : DM)) (gm' := fun N T G => [(g2, genC w.params A Le it3 Lg co), (A.g, .running)]) S (by decide) (J0_sp w s₀ b1 b2 A k6 Ls cc Le it3 Lg gobj g2 co tk nm) (J0_r w s₀ b1 b2 A k6 Ls cc Le it3 Lg gobj g2 co tk nm  p) (fun τ ν N T G => AllOk.nil) next

noncomputable def J1_h : List Hint := [.o 6, .o 6, .o 6, .o 6, .o 6, .o 6, .o 6, .o 7, .o 7, .o 7, .o 7, .o 7, .o 7, .o 6, .o 6, .o 6, .o 0, .b, .o 0, .o 4, .o 4, .o 4, .o 4, .o 4, .o 4, .o 4, .o 4, .o 0, .o 4, .o 4, .o 5, .o 5, .o 5, .o 1, .b, .b, .b, .o 1, .b, .b, .b, .o 1, .o 1, .b, .o 2, .o 0, .o 7, .o 7, .o 7, .o 6, .o 6, .o 6, .o 0, .b, .o 0, .o 4, .o 4, .o 4, .o 4, .o 0, .o 4, .o 4, .o 0, .o 0, .o 0, .o 11]
noncomputable def J1_h2 : List Hint := [.o 6, .o 6, .o 6, .o 6, .o 6, .o 6, .o 6, .o 7, .o 7, .o 7, .o 7, .o 7, .o 7, .o 6, .o 6, .o 6, .o 0, .b, .o 0, .o 4, .o 4, .o 4, .o 4, .o 0, .o 4, .o 4, .o 5, .o 5, .o 5, .o 1, .b, .b, .b, .o 1, .b, .b, .b, .o 1, .o 1, .b, .o 2, .o 0, .o 7, .o 7, .o 7, .o 6, .o 6, .o 6, .o 0, .b, .o 0, .o 4, .o 4, .o 4, .o 4, .o 0, .o 4, .o 4, .o 0, .o 0, .o 0, .o 11]
noncomputable def J1_sp (w : World) (s₀ : Shared) (b1 b2 : Bool) (A : LA) (k6 : Result → Sem Fin) (Ls cc Le it3 Lg gobj g2 co lst : Addr) (p0 : Pos) (tk : Tok) (nm : Str) (x0 : Ch) (τ : Nat → Nat → Tok) (ν : Nat → Nat) (N T G : Nat) : List Spec := []
theorem J1_r (w : World) (s₀ : Shared) (b1 b2 : Bool) (A : LA) (k6 : Result → Sem Fin) (Ls cc Le it3 Lg gobj g2 co lst : Addr) (p0 : Pos) (tk : Tok) (nm : Str) (x0 : Ch) (hne : lst ≠ gobj) (p : Pos) (τ : Nat → Nat → Tok) (ν : Nat → Nat) (N T G : Nat) :
  EndsQ w.params (run ((K5 w s₀ b1 b2).V [] N T G (J1_sp w s₀ b1 b2 A k6 Ls cc Le it3 Lg gobj g2 co lst p0 tk nm x0 τ ν N T G)) (cond b2 109 119) (denF (cIadd lst gobj)) (cIadd lst gobj) p (fsI w.params A k6 Ls cc Le p0 tk gobj) (memOf w.params τ ν 0 ((A.ct, .arr c_list #[.ref x0.a]) :: (chD x0.a x0.d x0.l x0.sgs ++ (genD A Le it3 Lg gobj g2 nm ++ ([(lst, .seq c_list [])] : DM))))) 0 0 [(g2, genC w.params A Le it3 Lg co), (A.g, .running)] 0 (cond b2 J1_h2 J1_h) []) [4, 5, 6, 7]
    ((.pure (.done (.ret (.str ⟨⟨[x0.sg]⟩⟩ (τ 2 1)))) : Sem Fin)) (cJoinB tk gobj) (fsJ w.params A k6 Ls cc Le 0 0) ((A.ct, .arr c_list #[.ref x0.a]) :: (chD x0.a x0.d x0.l x0.sgs ++ (leD A Le nm))) [(A.g, .running)] := by
  cases b1 <;> cases b2 <;> (rw [iadd_is]; unfold PySem.W.Fast.tw8938917530802602619; rw [same_ne hne]; unfold EndsQ; kernel_rfl)
theorem J1 (w : World) (s₀ : Shared) (b1 b2 : Bool) (Y : Sys (K5 w s₀ b1 b2)) (A : LA) (k6 : Result → Sem Fin) (Ls cc Le it3 Lg gobj g2 co lst : Addr) (p0 : Pos) (tk : Tok) (nm : Str) (x0 : Ch) (hne : lst ≠ gobj)  {L : DM} {s : Shared} {p : Pos} (S : StD (K5 w s₀ b1 b2) ((A.ct, .arr c_list #[.ref x0.a]) :: (chD x0.a x0.d x0.l x0.sgs ++ (genD A Le it3 Lg gobj g2 nm ++ ([(lst, .seq c_list [])] : DM))) ++ L) [(g2, genC w.params A Le it3 Lg co), (A.g, .running)] s)
    (next : ∀ (τ : Nat → Nat → Tok) (N T G : Nat) (s' : Shared) (p' : Pos), (K5 w s₀ b1 b2).B ≤ N → N ≤ s'.heap.objs.size → StD (K5 w s₀ b1 b2) ((A.ct, .arr c_list #[.ref x0.a]) :: (chD x0.a x0.d x0.l x0.sgs ++ (leD A Le nm)) ++ L) [(A.g, .running)] s' → Y.H s' ⟨(.pure (.done (.ret (.str ⟨⟨[x0.sg]⟩⟩ (τ 2 1)))) : Sem Fin), cJoinB tk gobj, p', fsJ w.params A k6 Ls cc Le 0 0⟩) : Y.H s ⟨denF (cIadd lst gobj), cIadd lst gobj, p, fsI w.params A k6 Ls cc Le p0 tk gobj⟩ :=
  Y.seg (t' := fun τ N T G => (.pure (.done (.ret (.str ⟨⟨[x0.sg]⟩⟩ (τ 2 1)))) : Sem Fin)) (c' := fun N T G => cJoinB tk gobj) (fs' := fun N T G => fsJ w.params A k6 Ls cc Le 0 0) (d' := fun N T G => (A.ct, .arr c_list #[.ref x0.a]) :: (chD x0.a x0.d x0.l x0.sgs ++ (leD A Le nm))) (gm' := fun N T G => [(A.g, .running)]) S (by decide) (J1_sp w s₀ b1 b2 A k6 Ls cc Le it3 Lg gobj g2 co lst p0 tk nm x0) (J1_r w s₀ b1 b2 A k6 Ls cc Le it3 Lg gobj g2 co lst p0 tk nm x0 hne p) (fun τ ν N T G => AllOk.nil) next

noncomputable def J2_h : List Hint := [.o 8, .o 8, .o 8, .o 8, .o 8, .o 8, .o 8, .o 9, .o 9, .o 9, .o 9, .o 9, .o 9, .o 8, .o 8, .o 8, .o 0, .b, .o 0, .o 6, .o 6, .o 6, .o 6, .o 6, .o 6, .o 6, .o 6, .o 0, .o 6, .o 6, .o 7, .o 7, .o 7, .o 1, .b, .b, .b, .o 1, .b, .b, .b, .o 1, .o 1, .b, .o 2, .o 0, .o 9, .o 9, .o 9, .o 8, .o 8, .o 8, .o 0, .b, .o 0, .o 6, .o 6, .o 6, .o 6, .o 0, .o 6, .o 6, .o 7, .o 7, .o 7, .o 3, .b, .b, .b, .o 3, .b, .b, .b, .o 3, .o 3, .b, .o 4, .o 0, .o 9, .o 9, .o 9, .o 8, .o 8, .o 8, .o 0, .b, .o 0, .o 6, .o 6, .o 6, .o 6, .o 0, .o 6, .o 6, .o 0, .o 0, .o 0, .o 13]
noncomputable def J2_h2 : List Hint := [.o 8, .o 8, .o 8, .o 8, .o 8, .o 8, .o 8, .o 9, .o 9, .o 9, .o 9, .o 9, .o 9, .o 8, .o 8, .o 8, .o 0, .b, .o 0, .o 6, .o 6, .o 6, .o 6, .o 0, .o 6, .o 6, .o 7, .o 7, .o 7, .o 1, .b, .b, .b, .o 1, .b, .b, .b, .o 1, .o 1, .b, .o 2, .o 0, .o 9, .o 9, .o 9, .o 8, .o 8, .o 8, .o 0, .b, .o 0, .o 6, .o 6, .o 6, .o 6, .o 0, .o 6, .o 6, .o 7, .o 7, .o 7, .o 3, .b, .b, .b, .o 3, .b, .b, .b, .o 3, .o 3, .b, .o 4, .o 0, .o 9, .o 9, .o 9, .o 8, .o 8, .o 8, .o 0, .b, .o 0, .o 6, .o 6, .o 6, .o 6, .o 0, .o 6, .o 6, .o 0, .o 0, .o 0, .o 13]
noncomputable def J2_sp (w : World) (s₀ : Shared) (b1 b2 : Bool) (A : LA) (k6 : Result → Sem Fin) (Ls cc Le it3 Lg gobj g2 co lst : Addr) (p0 : Pos) (tk : Tok) (nm : Str) (x0 x1 : Ch) (τ : Nat → Nat → Tok) (ν : Nat → Nat) (N T G : Nat) : List Spec := []
theorem J2_r (w : World) (s₀ : Shared) (b1 b2 : Bool) (A : LA) (k6 : Result → Sem Fin) (Ls cc Le it3 Lg gobj g2 co lst : Addr) (p0 : Pos) (tk : Tok) (nm : Str) (x0 x1 : Ch) (hne : lst ≠ gobj) (p : Pos) (τ : Nat → Nat → Tok) (ν : Nat → Nat) (N T G : Nat) :
  EndsQ w.params (run ((K5 w s₀ b1 b2).V [] N T G (J2_sp w s₀ b1 b2 A k6 Ls cc Le it3 Lg gobj g2 co lst p0 tk nm x0 x1 τ ν N T G)) (cond b2 163 173) (denF (cIadd lst gobj)) (cIadd lst gobj) p (fsI w.params A k6 Ls cc Le p0 tk gobj) (memOf w.params τ ν 0 ((A.ct, .arr c_list #[.ref x0.a, .ref x1.a]) :: (chD x0.a x0.d x0.l x0.sgs ++ (chD x1.a x1.d x1.l x1.sgs ++ (genD A Le it3 Lg gobj g2 nm ++ ([(lst, .seq c_list [])] : DM)))))) 0 0 [(g2, genC w.params A Le it3 Lg co), (A.g, .running)] 0 (cond b2 J2_h2 J2_h) []) [4, 5, 6, 7, 8, 9]
    ((.pure (.done (.ret (.str ⟨⟨[x0.sg, x1.sg]⟩⟩ (T + 4)))) : Sem Fin)) (cJoinB tk gobj) (fsJ w.params A k6 Ls cc Le 0 0) ((A.ct, .arr c_list #[.ref x0.a, .ref x1.a]) :: (chD x0.a x0.d x0.l x0.sgs ++ (chD x1.a x1.d x1.l x1.sgs ++ (leD A Le nm)))) [(A.g, .running)] := by
  cases b1 <;> cases b2 <;> (rw [iadd_is]; unfold PySem.W.Fast.tw8938917530802602619; rw [same_ne hne]; unfold EndsQ; kernel_rfl)
theorem J2 (w : World) (s₀ : Shared) (b1 b2 : Bool) (Y : Sys (K5 w s₀ b1 b2)) (A : LA) (k6 : Result → Sem Fin) (Ls cc Le it3 Lg gobj g2 co lst : Addr) (p0 : Pos) (tk : Tok) (nm : Str) (x0 x1 : Ch) (hne : lst ≠ gobj)  {L : DM} {s : Shared} {p : Pos} (S : StD (K5 w s₀ b1 b2) ((A.ct, .arr c_list #[.ref x0.a, .ref x1.a]) :: (chD x0.a x0.d x0.l x0.sgs ++ (chD x1.a x1.d x1.l x1.sgs ++ (genD A Le it3 Lg gobj g2 nm ++ ([(lst, .seq c_list [])] : DM)))) ++ L) [(g2, genC w.params A Le it3 Lg co), (A.g, .running)] s)
    (next : ∀ (τ : Nat → Nat → Tok) (N T G : Nat) (s' : Shared) (p' : Pos), (K5 w s₀ b1 b2).B ≤ N → N ≤ s'.heap.objs.size → StD (K5 w s₀ b1 b2) ((A.ct, .arr c_list #[.ref x0.a, .ref x1.a]) :: (chD x0.a x0.d x0.l x0.sgs ++ (chD x1.a x1.d x1.l x1.sgs ++ (leD A Le nm))) ++ L) [(A.g, .running)] s' → Y.H s' ⟨(.pure (.done (.ret (.str ⟨⟨[x0.sg, x1.sg]⟩⟩ (T + 4)))) : Sem Fin), cJoinB tk gobj, p', fsJ w.params A k6 Ls cc Le 0 0⟩) : Y.H s ⟨denF (cIadd lst gobj), cIadd lst gobj, p, fsI w.params A k6 Ls cc Le p0 tk gobj⟩ :=
  Y.seg (t' := fun τ N T G => (.pure (.done (.ret (.str ⟨⟨[x0.sg, x1.sg]⟩⟩ (T + 4)))) : Sem Fin)) (c' := fun N T G => cJoinB tk gobj) (fs' := fun N T G => fsJ w.params A k6 Ls cc Le 0 0) (d' := fun N T G => (A.ct, .arr c_list #[.ref x0.a, .ref x1.a]) :: (chD x0.a x0.d x0.l x0.sgs ++ (chD x1.a x1.d x1.l x1.sgs ++ (leD A Le nm)))) (gm' := fun N T G => [(A.g, .running)]) S (by decide) (J2_sp w s₀ b1 b2 A k6 Ls cc Le it3 Lg gobj g2 co lst p0 tk nm x0 x1) (J2_r w s₀ b1 b2 A k6 Ls cc Le it3 Lg gobj g2 co lst p0 tk nm x0 x1 hne p) (fun τ ν N T G => AllOk.nil) next

noncomputable def J3_h : List Hint := [.o 10, .o 10, .o 10, .o 10, .o 10, .o 10, .o 10, .o 11, .o 11, .o 11, .o 11, .o 11, .o 11, .o 10, .o 10, .o 10, .o 0, .b, .o 0, .o 8, .o 8, .o 8, .o 8, .o 8, .o 8, .o 8, .o 8, .o 0, .o 8, .o 8, .o 9, .o 9, .o 9, .o 1, .b, .b, .b, .o 1, .b, .b, .b, .o 1, .o 1, .b, .o 2, .o 0, .o 11, .o 11, .o 11, .o 10, .o 10, .o 10, .o 0, .b, .o 0, .o 8, .o 8, .o 8, .o 8, .o 0, .o 8, .o 8, .o 9, .o 9, .o 9, .o 3, .b, .b, .b, .o 3, .b, .b, .b, .o 3, .o 3, .b, .o 4, .o 0, .o 11, .o 11, .o 11, .o 10, .o 10, .o 10, .o 0, .b, .o 0, .o 8, .o 8, .o 8, .o 8, .o 0, .o 8, .o 8, .o 9, .o 9, .o 9, .o 5, .b, .b, .b, .o 5, .b, .b, .b, .o 5, .o 5, .b, .o 6, .o 0, .o 11, .o 11, .o 11, .o 10, .o 10, .o 10, .o 0, .b, .o 0, .o 8, .o 8, .o 8, .o 8, .o 0, .o 8, .o 8, .o 0, .o 0, .o 0, .o 15]
noncomputable def J3_h2 : List Hint := [.o 10, .o 10, .o 10, .o 10, .o 10, .o 10, .o 10, .o 11, .o 11, .o 11, .o 11, .o 11, .o 11, .o 10, .o 10, .o 10, .o 0, .b, .o 0, .o 8, .o 8, .o 8, .o 8, .o 0, .o 8, .o 8, .o 9, .o 9, .o 9, .o 1, .b, .b, .b, .o 1, .b, .b, .b, .o 1, .o 1, .b, .o 2, .o 0, .o 11, .o 11, .o 11, .o 10, .o 10, .o 10, .o 0, .b, .o 0, .o 8, .o 8, .o 8, .o 8, .o 0, .o 8, .o 8, .o 9, .o 9, .o 9, .o 3, .b, .b, .b, .o 3, .b, .b, .b, .o 3, .o 3, .b, .o 4, .o 0, .o 11, .o 11, .o 11, .o 10, .o 10, .o 10, .o 0, .b, .o 0, .o 8, .o 8, .o 8, .o 8, .o 0, .o 8, .o 8, .o 9, .o 9, .o 9, .o 5, .b, .b, .b, .o 5, .b, .b, .b, .o 5, .o 5, .b, .o 6, .o 0, .o 11, .o 11, .o 11, .o 10, .o 10, .o 10, .o 0, .b, .o 0, .o 8, .o 8, .o 8, .o 8, .o 0, .o 8, .o 8, .o 0, .o 0, .o 0, .o 15]
noncomputable def J3_sp (w : World) (s₀ : Shared) (b1 b2 : Bool) (A : LA) (k6 : Result → Sem Fin) (Ls cc Le it3 Lg gobj g2 co lst : Addr) (p0 : Pos) (tk : Tok) (nm : Str) (x0 x1 x2 : Ch) (τ : Nat → Nat → Tok) (ν : Nat → Nat) (N T G : Nat) : List Spec := []
theorem J3_r (w : World) (s₀ : Shared) (b1 b2 : Bool) (A : LA) (k6 : Result → Sem Fin) (Ls cc Le it3 Lg gobj g2 co lst : Addr) (p0 : Pos) (tk : Tok) (nm : Str) (x0 x1 x2 : Ch) (hne : lst ≠ gobj) (p : Pos) (τ : Nat → Nat → Tok) (ν : Nat → Nat) (N T G : Nat) :
  EndsQ w.params (run ((K5 w s₀ b1 b2).V [] N T G (J3_sp w s₀ b1 b2 A k6 Ls cc Le it3 Lg gobj g2 co lst p0 tk nm x0 x1 x2 τ ν N T G)) (cond b2 217 227) (denF (cIadd lst gobj)) (cIadd lst gobj) p (fsI w.params A k6 Ls cc Le p0 tk gobj) (memOf w.params τ ν 0 ((A.ct, .arr c_list #[.ref x0.a, .ref x1.a, .ref x2.a]) :: (chD x0.a x0.d x0.l x0.sgs ++ (chD x1.a x1.d x1.l x1.sgs ++ (chD x2.a x2.d x2.l x2.sgs ++ (genD A Le it3 Lg gobj g2 nm ++ ([(lst, .seq c_list [])] : DM))))))) 0 0 [(g2, genC w.params A Le it3 Lg co), (A.g, .running)] 0 (cond b2 J3_h2 J3_h) []) [4, 5, 6, 7, 8, 9, 10, 11]
    ((.pure (.done (.ret (.str ⟨⟨[x0.sg, x1.sg, x2.sg]⟩⟩ (T + 6)))) : Sem Fin)) (cJoinB tk gobj) (fsJ w.params A k6 Ls cc Le 0 0) ((A.ct, .arr c_list #[.ref x0.a, .ref x1.a, .ref x2.a]) :: (chD x0.a x0.d x0.l x0.sgs ++ (chD x1.a x1.d x1.l x1.sgs ++ (chD x2.a x2.d x2.l x2.sgs ++ (leD A Le nm))))) [(A.g, .running)] := by
  cases b1 <;> cases b2 <;> (rw [iadd_is]; unfold PySem.W.Fast.tw8938917530802602619; rw [same_ne hne]; unfold EndsQ; kernel_rfl)
theorem J3 (w : World) (s₀ : Shared) (b1 b2 : Bool) (Y : Sys (K5 w s₀ b1 b2)) (A : LA) (k6 : Result → Sem Fin) (Ls cc Le it3 Lg gobj g2 co lst : Addr) (p0 : Pos) (tk : Tok) (nm : Str) (x0 x1 x2 : Ch) (hne : lst ≠ gobj)  {L : DM} {s : Shared} {p : Pos} (S : StD (K5 w s₀ b1 b2) ((A.ct, .arr c_list #[.ref x0.a, .ref x1.a, .ref x2.a]) :: (chD x0.a x0.d x0.l x0.sgs ++ (chD x1.a x1.d x1.l x1.sgs ++ (chD x2.a x2.d x2.l x2.sgs ++ (genD A Le it3 Lg gobj g2 nm ++ ([(lst, .seq c_list [])] : DM))))) ++ L) [(g2, genC w.params A Le it3 Lg co), (A.g, .running)] s)
    (next : ∀ (τ : Nat → Nat → Tok) (N T G : Nat) (s' : Shared) (p' : Pos), (K5 w s₀ b1 b2).B ≤ N → N ≤ s'.heap.objs.size → StD (K5 w s₀ b1 b2) ((A.ct, .arr c_list #[.ref x0.a, .ref x1.a, .ref x2.a]) :: (chD x0.a x0.d x0.l x0.sgs ++ (chD x1.a x1.d x1.l x1.sgs ++ (chD x2.a x2.d x2.l x2.sgs ++ (leD A Le nm)))) ++ L) [(A.g, .running)] s' → Y.H s' ⟨(.pure (.done (.ret (.str ⟨⟨[x0.sg, x1.sg, x2.sg]⟩⟩ (T + 6)))) : Sem Fin), cJoinB tk gobj, p', fsJ w.params A k6 Ls cc Le 0 0⟩) : Y.H s ⟨denF (cIadd lst gobj), cIadd lst gobj, p, fsI w.params A k6 Ls cc Le p0 tk gobj⟩ :=
  Y.seg (t' := fun τ N T G => (.pure (.done (.ret (.str ⟨⟨[x0.sg, x1.sg, x2.sg]⟩⟩ (T + 6)))) : Sem Fin)) (c' := fun N T G => cJoinB tk gobj) (fs' := fun N T G => fsJ w.params A k6 Ls cc Le 0 0) (d' := fun N T G => (A.ct, .arr c_list #[.ref x0.a, .ref x1.a, .ref x2.a]) :: (chD x0.a x0.d x0.l x0.sgs ++ (chD x1.a x1.d x1.l x1.sgs ++ (chD x2.a x2.d x2.l x2.sgs ++ (leD A Le nm))))) (gm' := fun N T G => [(A.g, .running)]) S (by decide) (J3_sp w s₀ b1 b2 A k6 Ls cc Le it3 Lg gobj g2 co lst p0 tk nm x0 x1 x2) (J3_r w s₀ b1 b2 A k6 Ls cc Le it3 Lg gobj g2 co lst p0 tk nm x0 x1 x2 hne p) (fun τ ν N T G => AllOk.nil) next

noncomputable def J4_h : List Hint := [.o 12, .o 12, .o 12, .o 12, .o 12, .o 12, .o 12, .o 13, .o 13, .o 13, .o 13, .o 13, .o 13, .o 12, .o 12, .o 12, .o 0, .b, .o 0, .o 10, .o 10, .o 10, .o 10, .o 10, .o 10, .o 10, .o 10, .o 0, .o 10, .o 10, .o 11, .o 11, .o 11, .o 1, .b, .b, .b, .o 1, .b, .b, .b, .o 1, .o 1, .b, .o 2, .o 0, .o 13, .o 13, .o 13, .o 12, .o 12, .o 12, .o 0, .b, .o 0, .o 10, .o 10, .o 10, .o 10, .o 0, .o 10, .o 10, .o 11, .o 11, .o 11, .o 3, .b, .b, .b, .o 3, .b, .b, .b, .o 3, .o 3, .b, .o 4, .o 0, .o 13, .o 13, .o 13, .o 12, .o 12, .o 12, .o 0, .b, .o 0, .o 10, .o 10, .o 10, .o 10, .o 0, .o 10, .o 10, .o 11, .o 11, .o 11, .o 5, .b, .b, .b, .o 5, .b, .b, .b, .o 5, .o 5, .b, .o 6, .o 0, .o 13, .o 13, .o 13, .o 12, .o 12, .o 12, .o 0, .b, .o 0, .o 10, .o 10, .o 10, .o 10, .o 0, .o 10, .o 10, .o 11, .o 11, .o 11, .o 7, .b, .b, .b, .o 7, .b, .b, .b, .o 7, .o 7, .b, .o 8, .o 0, .o 13, .o 13, .o 13, .o 12, .o 12, .o 12, .o 0, .b, .o 0, .o 10, .o 10, .o 10, .o 10, .o 0, .o 10, .o 10, .o 0, .o 0, .o 0, .o 17]
noncomputable def J4_h2 : List Hint := [.o 12, .o 12, .o 12, .o 12, .o 12, .o 12, .o 12, .o 13, .o 13, .o 13, .o 13, .o 13, .o 13, .o 12, .o 12, .o 12, .o 0, .b, .o 0, .o 10, .o 10, .o 10, .o 10, .o 0, .o 10, .o 10, .o 11, .o 11, .o 11, .o 1, .b, .b, .b, .o 1, .b, .b, .b, .o 1, .o 1, .b, .o 2, .o 0, .o 13, .o 13, .o 13, .o 12, .o 12, .o 12, .o 0, .b, .o 0, .o 10, .o 10, .o 10, .o 10, .o 0, .o 10, .o 10, .o 11, .o 11, .o 11, .o 3, .b, .b, .b, .o 3, .b, .b, .b, .o 3, .o 3, .b, .o 4, .o 0, .o 13, .o 13, .o 13, .o 12, .o 12, .o 12, .o 0, .b, .o 0, .o 10, .o 10, .o 10, .o 10, .o 0, .o 10, .o 10, .o 11, .o 11, .o 11, .o 5, .b, .b, .b, .o 5, .b, .b, .b, .o 5, .o 5, .b, .o 6, .o 0, .o 13, .o 13, .o 13, .o 12, .o 12, .o 12, .o 0, .b, .o 0, .o 10, .o 10, .o 10, .o 10, .o 0, .o 10, .o 10, .o 11, .o 11, .o 11, .o 7, .b, .b, .b, .o 7, .b, .b, .b, .o 7, .o 7, .b, .o 8, .o 0, .o 13, .o 13, .o 13, .o 12, .o 12, .o 12, .o 0, .b, .o 0, .o 10, .o 10, .o 10, .o 10, .o 0, .o 10, .o 10, .o 0, .o 0, .o 0, .o 17]
noncomputable def J4_sp (w : World) (s₀ : Shared) (b1 b2 : Bool) (A : LA) (k6 : Result → Sem Fin) (Ls cc Le it3 Lg gobj g2 co lst : Addr) (p0 : Pos) (tk : Tok) (nm : Str) (x0 x1 x2 x3 : Ch) (τ : Nat → Nat → Tok) (ν : Nat → Nat) (N T G : Nat) : List Spec := []
theorem J4_r (w : World) (s₀ : Shared) (b1 b2 : Bool) (A : LA) (k6 : Result → Sem Fin) (Ls cc Le it3 Lg gobj g2 co lst : Addr) (p0 : Pos) (tk : Tok) (nm : Str) (x0 x1 x2 x3 : Ch) (hne : lst ≠ gobj) (p : Pos) (τ : Nat → Nat → Tok) (ν : Nat → Nat) (N T G : Nat) :
  EndsQ w.params (run ((K5 w s₀ b1 b2).V [] N T G (J4_sp w s₀ b1 b2 A k6 Ls cc Le it3 Lg gobj g2 co lst p0 tk nm x0 x1 x2 x3 τ ν N T G)) (cond b2 271 281) (denF (cIadd lst gobj)) (cIadd lst gobj) p (fsI w.params A k6 Ls cc Le p0 tk gobj) (memOf w.params τ ν 0 ((A.ct, .arr c_list #[.ref x0.a, .ref x1.a, .ref x2.a, .ref x3.a]) :: (chD x0.a x0.d x0.l x0.sgs ++ (chD x1.a x1.d x1.l x1.sgs ++ (chD x2.a x2.d x2.l x2.sgs ++ (chD x3.a x3.d x3.l x3.sgs ++ (genD A Le it3 Lg gobj g2 nm ++ ([(lst, .seq c_list [])] : DM)))))))) 0 0 [(g2, genC w.params A Le it3 Lg co), (A.g, .running)] 0 (cond b2 J4_h2 J4_h) []) [4, 5, 6, 7, 8, 9, 10, 11, 12, 13]
    ((.pure (.done (.ret (.str ⟨⟨[x0.sg, x1.sg, x2.sg, x3.sg]⟩⟩ (T + 8)))) : Sem Fin)) (cJoinB tk gobj) (fsJ w.params A k6 Ls cc Le 0 0) ((A.ct, .arr c_list #[.ref x0.a, .ref x1.a, .ref x2.a, .ref x3.a]) :: (chD x0.a x0.d x0.l x0.sgs ++ (chD x1.a x1.d x1.l x1.sgs ++ (chD x2.a x2.d x2.l x2.sgs ++ (chD x3.a x3.d x3.l x3.sgs ++ (leD A Le nm)))))) [(A.g, .running)] := by
  cases b1 <;> cases b2 <;> (rw [iadd_is]; unfold PySem.W.Fast.tw8938917530802602619; rw [same_ne hne]; unfold EndsQ; kernel_rfl)
theorem J4 (w : World) (s₀ : Shared) (b1 b2 : Bool) (Y : Sys (K5 w s₀ b1 b2)) (A : LA) (k6 : Result → Sem Fin) (Ls cc Le it3 Lg gobj g2 co lst : Addr) (p0 : Pos) (tk : Tok) (nm : Str) (x0 x1 x2 x3 : Ch) (hne : lst ≠ gobj)  {L : DM} {s : Shared} {p : Pos} (S : StD (K5 w s₀ b1 b2) ((A.ct, .arr c_list #[.ref x0.a, .ref x1.a, .ref x2.a, .ref x3.a]) :: (chD x0.a x0.d x0.l x0.sgs ++ (chD x1.a x1.d x1.l x1.sgs ++ (chD x2.a x2.d x2.l x2.sgs ++ (chD x3.a x3.d x3.l x3.sgs ++ (genD A Le it3 Lg gobj g2 nm ++ ([(lst, .seq c_list [])] : DM)))))) ++ L) [(g2, genC w.params A Le it3 Lg co), (A.g, .running)] s)
    (next : ∀ (τ : Nat → Nat → Tok) (N T G : Nat) (s' : Shared) (p' : Pos), (K5 w s₀ b1 b2).B ≤ N → N ≤ s'.heap.objs.size → StD (K5 w s₀ b1 b2) ((A.ct, .arr c_list #[.ref x0.a, .ref x1.a, .ref x2.a, .ref x3.a]) :: (chD x0.a x0.d x0.l x0.sgs ++ (chD x1.a x1.d x1.l x1.sgs ++ (chD x2.a x2.d x2.l x2.sgs ++ (chD x3.a x3.d x3.l x3.sgs ++ (leD A Le nm))))) ++ L) [(A.g, .running)] s' → Y.H s' ⟨(.pure (.done (.ret (.str ⟨⟨[x0.sg, x1.sg, x2.sg, x3.sg]⟩⟩ (T + 8)))) : Sem Fin), cJoinB tk gobj, p', fsJ w.params A k6 Ls cc Le 0 0⟩) : Y.H s ⟨denF (cIadd lst gobj), cIadd lst gobj, p, fsI w.params A k6 Ls cc Le p0 tk gobj⟩ :=
  Y.seg (t' := fun τ N T G => (.pure (.done (.ret (.str ⟨⟨[x0.sg, x1.sg, x2.sg, x3.sg]⟩⟩ (T + 8)))) : Sem Fin)) (c' := fun N T G => cJoinB tk gobj) (fs' := fun N T G => fsJ w.params A k6 Ls cc Le 0 0) (d' := fun N T G => (A.ct, .arr c_list #[.ref x0.a, .ref x1.a, .ref x2.a, .ref x3.a]) :: (chD x0.a x0.d x0.l x0.sgs ++ (chD x1.a x1.d x1.l x1.sgs ++ (chD x2.a x2.d x2.l x2.sgs ++ (chD x3.a x3.d x3.l x3.sgs ++ (leD A Le nm)))))) (gm' := fun N T G => [(A.g, .running)]) S (by decide) (J4_sp w s₀ b1 b2 A k6 Ls cc Le it3 Lg gobj g2 co lst p0 tk nm x0 x1 x2 x3) (J4_r w s₀ b1 b2 A k6 Ls cc Le it3 Lg gobj g2 co lst p0 tk nm x0 x1 x2 x3 hne p) (fun τ ν N T G => AllOk.nil) next

noncomputable def J5_h : List Hint := [.o 14, .o 14, .o 14, .o 14, .o 14, .o 14, .o 14, .o 15, .o 15, .o 15, .o 15, .o 15, .o 15, .o 14, .o 14, .o 14, .o 0, .b, .o 0, .o 12, .o 12, .o 12, .o 12, .o 12, .o 12, .o 12, .o 12, .o 0, .o 12, .o 12, .o 13, .o 13, .o 13, .o 1, .b, .b, .b, .o 1, .b, .b, .b, .o 1, .o 1, .b, .o 2, .o 0, .o 15, .o 15, .o 15, .o 14, .o 14, .o 14, .o 0, .b, .o 0, .o 12, .o 12, .o 12, .o 12, .o 0, .o 12, .o 12, .o 13, .o 13, .o 13, .o 3, .b, .b, .b, .o 3, .b, .b, .b, .o 3, .o 3, .b, .o 4, .o 0, .o 15, .o 15, .o 15, .o 14, .o 14, .o 14, .o 0, .b, .o 0, .o 12, .o 12, .o 12, .o 12, .o 0, .o 12, .o 12, .o 13, .o 13, .o 13, .o 5, .b, .b, .b, .o 5, .b, .b, .b, .o 5, .o 5, .b, .o 6, .o 0, .o 15, .o 15, .o 15, .o 14, .o 14, .o 14, .o 0, .b, .o 0, .o 12, .o 12, .o 12, .o 12, .o 0, .o 12, .o 12, .o 13, .o 13, .o 13, .o 7, .b, .b, .b, .o 7, .b, .b, .b, .o 7, .o 7, .b, .o 8, .o 0, .o 15, .o 15, .o 15, .o 14, .o 14, .o 14, .o 0, .b, .o 0, .o 12, .o 12, .o 12, .o 12, .o 0, .o 12, .o 12, .o 13, .o 13, .o 13, .o 9, .b, .b, .b, .o 9, .b, .b, .b, .o 9, .o 9, .b, .o 10, .o 0, .o 15, .o 15, .o 15, .o 14, .o 14, .o 14, .o 0, .b, .o 0, .o 12, .o 12, .o 12, .o 12, .o 0, .o 12, .o 12, .o 0, .o 0, .o 0, .o 19]
noncomputable def J5_h2 : List Hint := [.o 14, .o 14, .o 14, .o 14, .o 14, .o 14, .o 14, .o 15, .o 15, .o 15, .o 15, .o 15, .o 15, .o 14, .o 14, .o 14, .o 0, .b, .o 0, .o 12, .o 12, .o 12, .o 12, .o 0, .o 12, .o 12, .o 13, .o 13, .o 13, .o 1, .b, .b, .b, .o 1, .b, .b, .b, .o 1, .o 1, .b, .o 2, .o 0, .o 15, .o 15, .o 15, .o 14, .o 14, .o 14, .o 0, .b, .o 0, .o 12, .o 12, .o 12, .o 12, .o 0, .o 12, .o 12, .o 13, .o 13, .o 13, .o 3, .b, .b, .b, .o 3, .b, .b, .b, .o 3, .o 3, .b, .o 4, .o 0, .o 15, .o 15, .o 15, .o 14, .o 14, .o 14, .o 0, .b, .o 0, .o 12, .o 12, .o 12, .o 12, .o 0, .o 12, .o 12, .o 13, .o 13, .o 13, .o 5, .b, .b, .b, .o 5, .b, .b, .b, .o 5, .o 5, .b, .o 6, .o 0, .o 15, .o 15, .o 15, .o 14, .o 14, .o 14, .o 0, .b, .o 0, .o 12, .o 12, .o 12, .o 12, .o 0, .o 12, .o 12, .o 13, .o 13, .o 13, .o 7, .b, .b, .b, .o 7, .b, .b, .b, .o 7, .o 7, .b, .o 8, .o 0, .o 15, .o 15, .o 15, .o 14, .o 14, .o 14, .o 0, .b, .o 0, .o 12, .o 12, .o 12, .o 12, .o 0, .o 12, .o 12, .o 13, .o 13, .o 13, .o 9, .b, .b, .b, .o 9, .b, .b, .b, .o 9, .o 9, .b, .o 10, .o 0, .o 15, .o 15, .o 15, .o 14, .o 14, .o 14, .o 0, .b, .o 0, .o 12, .o 12, .o 12, .o 12, .o 0, .o 12, .o 12, .o 0, .o 0, .o 0, .o 19]
noncomputable def J5_sp (w : World) (s₀ : Shared) (b1 b2 : Bool) (A : LA) (k6 : Result → Sem Fin) (Ls cc Le it3 Lg gobj g2 co lst : Addr) (p0 : Pos) (tk : Tok) (nm : Str) (x0 x1 x2 x3 x4 : Ch) (τ : Nat → Nat → Tok) (ν : Nat → Nat) (N T G : Nat) : List Spec := []
theorem J5_r (w : World) (s₀ : Shared) (b1 b2 : Bool) (A : LA) (k6 : Result → Sem Fin) (Ls cc Le it3 Lg gobj g2 co lst : Addr) (p0 : Pos) (tk : Tok) (nm : Str) (x0 x1 x2 x3 x4 : Ch) (hne : lst ≠ gobj) (p : Pos) (τ : Nat → Nat → Tok) (ν : Nat → Nat) (N T G : Nat) :
  EndsQ w.params (run ((K5 w s₀ b1 b2).V [] N T G (J5_sp w s₀ b1 b2 A k6 Ls cc Le it3 Lg gobj g2 co lst p0 tk nm x0 x1 x2 x3 x4 τ ν N T G)) (cond b2 325 335) (denF (cIadd lst gobj)) (cIadd lst gobj) p (fsI w.params A k6 Ls cc Le p0 tk gobj) (memOf w.params τ ν 0 ((A.ct, .arr c_list #[.ref x0.a, .ref x1.a, .ref x2.a, .ref x3.a, .ref x4.a]) :: (chD x0.a x0.d x0.l x0.sgs ++ (chD x1.a x1.d x1.l x1.sgs ++ (chD x2.a x2.d x2.l x2.sgs ++ (chD x3.a x3.d x3.l x3.sgs ++ (chD x4.a x4.d x4.l x4.sgs ++ (genD A Le it3 Lg gobj g2 nm ++ ([(lst, .seq c_list [])] : DM))))))))) 0 0 [(g2, genC w.params A Le it3 Lg co), (A.g, .running)] 0 (cond b2 J5_h2 J5_h) []) [4, 5, 6, 7, 8, 9, 10, 11, 12, 13, 14, 15]
    ((.pure (.done (.ret (.str ⟨⟨[x0.sg, x1.sg, x2.sg, x3.sg, x4.sg]⟩⟩ (T + 10)))) : Sem Fin)) (cJoinB tk gobj) (fsJ w.params A k6 Ls cc Le 0 0) ((A.ct, .arr c_list #[.ref x0.a, .ref x1.a, .ref x2.a, .ref x3.a, .ref x4.a]) :: (chD x0.a x0.d x0.l x0.sgs ++ (chD x1.a x1.d x1.l x1.sgs ++ (chD x2.a x2.d x2.l x2.sgs ++ (chD x3.a x3.d x3.l x3.sgs ++ (chD x4.a x4.d x4.l x4.sgs ++ (leD A Le nm))))))) [(A.g, .running)] := by
  cases b1 <;> cases b2 <;> (rw [iadd_is]; unfold PySem.W.Fast.tw8938917530802602619; rw [same_ne hne]; unfold EndsQ; kernel_rfl)
theorem J5 (w : World) (s₀ : Shared) (b1 b2 : Bool) (Y : Sys (K5 w s₀ b1 b2)) (A : LA) (k6 : Result → Sem Fin) (Ls cc Le it3 Lg gobj g2 co lst : Addr) (p0 : Pos) (tk : Tok) (nm : Str) (x0 x1 x2 x3 x4 : Ch) (hne : lst ≠ gobj)  {L : DM} {s : Shared} {p : Pos} (S : StD (K5 w s₀ b1 b2) ((A.ct, .arr c_list #[.ref x0.a, .ref x1.a, .ref x2.a, .ref x3.a, .ref x4.a]) :: (chD x0.a x0.d x0.l x0.sgs ++ (chD x1.a x1.d x1.l x1.sgs ++ (chD x2.a x2.d x2.l x2.sgs ++ (chD x3.a x3.d x3.l x3.sgs ++ (chD x4.a x4.d x4.l x4.sgs ++ (genD A Le it3 Lg gobj g2 nm ++ ([(lst, .seq c_list [])] : DM))))))) ++ L) [(g2, genC w.params A Le it3 Lg co), (A.g, .running)] s)
    (next : ∀ (τ : Nat → Nat → Tok) (N T G : Nat) (s' : Shared) (p' : Pos), (K5 w s₀ b1 b2).B ≤ N → N ≤ s'.heap.objs.size → StD (K5 w s₀ b1 b2) ((A.ct, .arr c_list #[.ref x0.a, .ref x1.a, .ref x2.a, .ref x3.a, .ref x4.a]) :: (chD x0.a x0.d x0.l x0.sgs ++ (chD x1.a x1.d x1.l x1.sgs ++ (chD x2.a x2.d x2.l x2.sgs ++ (chD x3.a x3.d x3.l x3.sgs ++ (chD x4.a x4.d x4.l x4.sgs ++ (leD A Le nm)))))) ++ L) [(A.g, .running)] s' → Y.H s' ⟨(.pure (.done (.ret (.str ⟨⟨[x0.sg, x1.sg, x2.sg, x3.sg, x4.sg]⟩⟩ (T + 10)))) : Sem Fin), cJoinB tk gobj, p', fsJ w.params A k6 Ls cc Le 0 0⟩) : Y.H s ⟨denF (cIadd lst gobj), cIadd lst gobj, p, fsI w.params A k6 Ls cc Le p0 tk gobj⟩ :=
  Y.seg (t' := fun τ N T G => (.pure (.done (.ret (.str ⟨⟨[x0.sg, x1.sg, x2.sg, x3.sg, x4.sg]⟩⟩ (T + 10)))) : Sem Fin)) (c' := fun N T G => cJoinB tk gobj) (fs' := fun N T G => fsJ w.params A k6 Ls cc Le 0 0) (d' := fun N T G => (A.ct, .arr c_list #[.ref x0.a, .ref x1.a, .ref x2.a, .ref x3.a, .ref x4.a]) :: (chD x0.a x0.d x0.l x0.sgs ++ (chD x1.a x1.d x1.l x1.sgs ++ (chD x2.a x2.d x2.l x2.sgs ++ (chD x3.a x3.d x3.l x3.sgs ++ (chD x4.a x4.d x4.l x4.sgs ++ (leD A Le nm))))))) (gm' := fun N T G => [(A.g, .running)]) S (by decide) (J5_sp w s₀ b1 b2 A k6 Ls cc Le it3 Lg gobj g2 co lst p0 tk nm x0 x1 x2 x3 x4) (J5_r w s₀ b1 b2 A k6 Ls cc Le it3 Lg gobj g2 co lst p0 tk nm x0 x1 x2 x3 x4 hne p) (fun τ ν N T G => AllOk.nil) next

noncomputable def J6_h : List Hint := [.o 16, .o 16, .o 16, .o 16, .o 16, .o 16, .o 16, .o 17, .o 17, .o 17, .o 17, .o 17, .o 17, .o 16, .o 16, .o 16, .o 0, .b, .o 0, .o 14, .o 14, .o 14, .o 14, .o 14, .o 14, .o 14, .o 14, .o 0, .o 14, .o 14, .o 15, .o 15, .o 15, .o 1, .b, .b, .b, .o 1, .b, .b, .b, .o 1, .o 1, .b, .o 2, .o 0, .o 17, .o 17, .o 17, .o 16, .o 16, .o 16, .o 0, .b, .o 0, .o 14, .o 14, .o 14, .o 14, .o 0, .o 14, .o 14, .o 15, .o 15, .o 15, .o 3, .b, .b, .b, .o 3, .b, .b, .b, .o 3, .o 3, .b, .o 4, .o 0, .o 17, .o 17, .o 17, .o 16, .o 16, .o 16, .o 0, .b, .o 0, .o 14, .o 14, .o 14, .o 14, .o 0, .o 14, .o 14, .o 15, .o 15, .o 15, .o 5, .b, .b, .b, .o 5, .b, .b, .b, .o 5, .o 5, .b, .o 6, .o 0, .o 17, .o 17, .o 17, .o 16, .o 16, .o 16, .o 0, .b, .o 0, .o 14, .o 14, .o 14, .o 14, .o 0, .o 14, .o 14, .o 15, .o 15, .o 15, .o 7, .b, .b, .b, .o 7, .b, .b, .b, .o 7, .o 7, .b, .o 8, .o 0, .o 17, .o 17, .o 17, .o 16, .o 16, .o 16, .o 0, .b, .o 0, .o 14, .o 14, .o 14, .o 14, .o 0, .o 14, .o 14, .o 15, .o 15, .o 15, .o 9, .b, .b, .b, .o 9, .b, .b, .b, .o 9, .o 9, .b, .o 10, .o 0, .o 17, .o 17, .o 17, .o 16, .o 16, .o 16, .o 0, .b, .o 0, .o 14, .o 14, .o 14, .o 14, .o 0, .o 14, .o 14, .o 15, .o 15, .o 15, .o 11, .b, .b, .b, .o 11, .b, .b, .b, .o 11, .o 11, .b, .o 12, .o 0, .o 17, .o 17, .o 17, .o 16, .o 16, .o 16, .o 0, .b, .o 0, .o 14, .o 14, .o 14, .o 14, .o 0, .o 14, .o 14, .o 0, .o 0, .o 0, .o 21]
noncomputable def J6_h2 : List Hint := [.o 16, .o 16, .o 16, .o 16, .o 16, .o 16, .o 16, .o 17, .o 17, .o 17, .o 17, .o 17, .o 17, .o 16, .o 16, .o 16, .o 0, .b, .o 0, .o 14, .o 14, .o 14, .o 14, .o 0, .o 14, .o 14, .o 15, .o 15, .o 15, .o 1, .b, .b, .b, .o 1, .b, .b, .b, .o 1, .o 1, .b, .o 2, .o 0, .o 17, .o 17, .o 17, .o 16, .o 16, .o 16, .o 0, .b, .o 0, .o 14, .o 14, .o 14, .o 14, .o 0, .o 14, .o 14, .o 15, .o 15, .o 15, .o 3, .b, .b, .b, .o 3, .b, .b, .b, .o 3, .o 3, .b, .o 4, .o 0, .o 17, .o 17, .o 17, .o 16, .o 16, .o 16, .o 0, .b, .o 0, .o 14, .o 14, .o 14, .o 14, .o 0, .o 14, .o 14, .o 15, .o 15, .o 15, .o 5, .b, .b, .b, .o 5, .b, .b, .b, .o 5, .o 5, .b, .o 6, .o 0, .o 17, .o 17, .o 17, .o 16, .o 16, .o 16, .o 0, .b, .o 0, .o 14, .o 14, .o 14, .o 14, .o 0, .o 14, .o 14, .o 15, .o 15, .o 15, .o 7, .b, .b, .b, .o 7, .b, .b, .b, .o 7, .o 7, .b, .o 8, .o 0, .o 17, .o 17, .o 17, .o 16, .o 16, .o 16, .o 0, .b, .o 0, .o 14, .o 14, .o 14, .o 14, .o 0, .o 14, .o 14, .o 15, .o 15, .o 15, .o 9, .b, .b, .b, .o 9, .b, .b, .b, .o 9, .o 9, .b, .o 10, .o 0, .o 17, .o 17, .o 17, .o 16, .o 16, .o 16, .o 0, .b, .o 0, .o 14, .o 14, .o 14, .o 14, .o 0, .o 14, .o 14, .o 15, .o 15, .o 15, .o 11, .b, .b, .b, .o 11, .b, .b, .b, .o 11, .o 11, .b, .o 12, .o 0, .o 17, .o 17, .o 17, .o 16, .o 16, .o 16, .o 0, .b, .o 0, .o 14, .o 14, .o 14, .o 14, .o 0, .o 14, .o 14, .o 0, .o 0, .o 0, .o 21]
noncomputable def J6_sp (w : World) (s₀ : Shared) (b1 b2 : Bool) (A : LA) (k6 : Result → Sem Fin) (Ls cc Le it3 Lg gobj g2 co lst : Addr) (p0 : Pos) (tk : Tok) (nm : Str) (x0 x1 x2 x3 x4 x5 : Ch) (τ : Nat → Nat → Tok) (ν : Nat → Nat) (N T G : Nat) : List Spec := []
theorem J6_r (w : World) (s₀ : Shared) (b1 b2 : Bool) (A : LA) (k6 : Result → Sem Fin) (Ls cc Le it3 Lg gobj g2 co lst : Addr) (p0 : Pos) (tk : Tok) (nm : Str) (x0 x1 x2 x3 x4 x5 : Ch) (hne : lst ≠ gobj) (p : Pos) (τ : Nat → Nat → Tok) (ν : Nat → Nat) (N T G : Nat) :
  EndsQ w.params (run ((K5 w s₀ b1 b2).V [] N T G (J6_sp w s₀ b1 b2 A k6 Ls cc Le it3 Lg gobj g2 co lst p0 tk nm x0 x1 x2 x3 x4 x5 τ ν N T G)) (cond b2 379 389) (denF (cIadd lst gobj)) (cIadd lst gobj) p (fsI w.params A k6 Ls cc Le p0 tk gobj) (memOf w.params τ ν 0 ((A.ct, .arr c_list #[.ref x0.a, .ref x1.a, .ref x2.a, .ref x3.a, .ref x4.a, .ref x5.a]) :: (chD x0.a x0.d x0.l x0.sgs ++ (chD x1.a x1.d x1.l x1.sgs ++ (chD x2.a x2.d x2.l x2.sgs ++ (chD x3.a x3.d x3.l x3.sgs ++ (chD x4.a x4.d x4.l x4.sgs ++ (chD x5.a x5.d x5.l x5.sgs ++ (genD A Le it3 Lg gobj g2 nm ++ ([(lst, .seq c_list [])] : DM)))))))))) 0 0 [(g2, genC w.params A Le it3 Lg co), (A.g, .running)] 0 (cond b2 J6_h2 J6_h) []) [4, 5, 6, 7, 8, 9, 10, 11, 12, 13, 14, 15, 16, 17]
    ((.pure (.done (.ret (.str ⟨⟨[x0.sg, x1.sg, x2.sg, x3.sg, x4.sg, x5.sg]⟩⟩ (T + 12)))) : Sem Fin)) (cJoinB tk gobj) (fsJ w.params A k6 Ls cc Le 0 0) ((A.ct, .arr c_list #[.ref x0.a, .ref x1.a, .ref x2.a, .ref x3.a, .ref x4.a, .ref x5.a]) :: (chD x0.a x0.d x0.l x0.sgs ++ (chD x1.a x1.d x1.l x1.sgs ++ (chD x2.a x2.d x2.l x2.sgs ++ (chD x3.a x3.d x3.l x3.sgs ++ (chD x4.a x4.d x4.l x4.sgs ++ (chD x5.a x5.d x5.l x5.sgs ++ (leD A Le nm)))))))) [(A.g, .running)] := by
  cases b1 <;> cases b2 <;> (rw [iadd_is]; unfold PySem.W.Fast.tw8938917530802602619; rw [same_ne hne]; unfold EndsQ; kernel_rfl)
theorem J6 (w : World) (s₀ : Shared) (b1 b2 : Bool) (Y : Sys (K5 w s₀ b1 b2)) (A : LA) (k6 : Result → Sem Fin) (Ls cc Le it3 Lg gobj g2 co lst : Addr) (p0 : Pos) (tk : Tok) (nm : Str) (x0 x1 x2 x3 x4 x5 : Ch) (hne : lst ≠ gobj)  {L : DM} {s : Shared} {p : Pos} (S : StD (K5 w s₀ b1 b2) ((A.ct, .arr c_list #[.ref x0.a, .ref x1.a, .ref x2.a, .ref x3.a, .ref x4.a, .ref x5.a]) :: (chD x0.a x0.d x0.l x0.sgs ++ (chD x1.a x1.d x1.l x1.sgs ++ (chD x2.a x2.d x2.l x2.sgs ++ (chD x3.a x3.d x3.l x3.sgs ++ (chD x4.a x4.d x4.l x4.sgs ++ (chD x5.a x5.d x5.l x5.sgs ++ (genD A Le it3 Lg gobj g2 nm ++ ([(lst, .seq c_list [])] : DM)))))))) ++ L) [(g2, genC w.params A Le it3 Lg co), (A.g, .running)] s)
    (next : ∀ (τ : Nat → Nat → Tok) (N T G : Nat) (s' : Shared) (p' : Pos), (K5 w s₀ b1 b2).B ≤ N → N ≤ s'.heap.objs.size → StD (K5 w s₀ b1 b2) ((A.ct, .arr c_list #[.ref x0.a, .ref x1.a, .ref x2.a, .ref x3.a, .ref x4.a, .ref x5.a]) :: (chD x0.a x0.d x0.l x0.sgs ++ (chD x1.a x1.d x1.l x1.sgs ++ (chD x2.a x2.d x2.l x2.sgs ++ (chD x3.a x3.d x3.l x3.sgs ++ (chD x4.a x4.d x4.l x4.sgs ++ (chD x5.a x5.d x5.l x5.sgs ++ (leD A Le nm))))))) ++ L) [(A.g, .running)] s' → Y.H s' ⟨(.pure (.done (.ret (.str ⟨⟨[x0.sg, x1.sg, x2.sg, x3.sg, x4.sg, x5.sg]⟩⟩ (T + 12)))) : Sem Fin), cJoinB tk gobj, p', fsJ w.params A k6 Ls cc Le 0 0⟩) : Y.H s ⟨denF (cIadd lst gobj), cIadd lst gobj, p, fsI w.params A k6 Ls cc Le p0 tk gobj⟩ :=
  Y.seg (t' := fun τ N T G => (.pure (.done (.ret (.str ⟨⟨[x0.sg, x1.sg, x2.sg, x3.sg, x4.sg, x5.sg]⟩⟩ (T + 12)))) : Sem Fin)) (c' := fun N T G => cJoinB tk gobj) (fs' := fun N T G => fsJ w.params A k6 Ls cc Le 0 0) (d' := fun N T G => (A.ct, .arr c_list #[.ref x0.a, .ref x1.a, .ref x2.a, .ref x3.a, .ref x4.a, .ref x5.a]) :: (chD x0.a x0.d x0.l x0.sgs ++ (chD x1.a x1.d x1.l x1.sgs ++ (chD x2.a x2.d x2.l x2.sgs ++ (chD x3.a x3.d x3.l x3.sgs ++ (chD x4.a x4.d x4.l x4.sgs ++ (chD x5.a x5.d x5.l x5.sgs ++ (leD A Le nm)))))))) (gm' := fun N T G => [(A.g, .running)]) S (by decide) (J6_sp w s₀ b1 b2 A k6 Ls cc Le it3 Lg gobj g2 co lst p0 tk nm x0 x1 x2 x3 x4 x5) (J6_r w s₀ b1 b2 A k6 Ls cc Le it3 Lg gobj g2 co lst p0 tk nm x0 x1 x2 x3 x4 x5 hne p) (fun τ ν N T G => AllOk.nil) next

noncomputable def J7_h : List Hint := [.o 18, .o 18, .o 18, .o 18, .o 18, .o 18, .o 18, .o 19, .o 19, .o 19, .o 19, .o 19, .o 19, .o 18, .o 18, .o 18, .o 0, .b, .o 0, .o 16, .o 16, .o 16, .o 16, .o 16, .o 16, .o 16, .o 16, .o 0, .o 16, .o 16, .o 17, .o 17, .o 17, .o 1, .b, .b, .b, .o 1, .b, .b, .b, .o 1, .o 1, .b, .o 2, .o 0, .o 19, .o 19, .o 19, .o 18, .o 18, .o 18, .o 0, .b, .o 0, .o 16, .o 16, .o 16, .o 16, .o 0, .o 16, .o 16, .o 17, .o 17, .o 17, .o 3, .b, .b, .b, .o 3, .b, .b, .b, .o 3, .o 3, .b, .o 4, .o 0, .o 19, .o 19, .o 19, .o 18, .o 18, .o 18, .o 0, .b, .o 0, .o 16, .o 16, .o 16, .o 16, .o 0, .o 16, .o 16, .o 17, .o 17, .o 17, .o 5, .b, .b, .b, .o 5, .b, .b, .b, .o 5, .o 5, .b, .o 6, .o 0, .o 19, .o 19, .o 19, .o 18, .o 18, .o 18, .o 0, .b, .o 0, .o 16, .o 16, .o 16, .o 16, .o 0, .o 16, .o 16, .o 17, .o 17, .o 17, .o 7, .b, .b, .b, .o 7, .b, .b, .b, .o 7, .o 7, .b, .o 8, .o 0, .o 19, .o 19, .o 19, .o 18, .o 18, .o 18, .o 0, .b, .o 0, .o 16, .o 16, .o 16, .o 16, .o 0, .o 16, .o 16, .o 17, .o 17, .o 17, .o 9, .b, .b, .b, .o 9, .b, .b, .b, .o 9, .o 9, .b, .o 10, .o 0, .o 19, .o 19, .o 19, .o 18, .o 18, .o 18, .o 0, .b, .o 0, .o 16, .o 16, .o 16, .o 16, .o 0, .o 16, .o 16, .o 17, .o 17, .o 17, .o 11, .b, .b, .b, .o 11, .b, .b, .b, .o 11, .o 11, .b, .o 12, .o 0, .o 19, .o 19, .o 19, .o 18, .o 18, .o 18, .o 0, .b, .o 0, .o 16, .o 16, .o 16, .o 16, .o 0, .o 16, .o 16, .o 17, .o 17, .o 17, .o 13, .b, .b, .b, .o 13, .b, .b, .b, .o 13, .o 13, .b, .o 14, .o 0, .o 19, .o 19, .o 19, .o 18, .o 18, .o 18, .o 0, .b, .o 0, .o 16, .o 16, .o 16, .o 16, .o 0, .o 16, .o 16, .o 0, .o 0, .o 0, .o 23]
noncomputable def J7_h2 : List Hint := [.o 18, .o 18, .o 18, .o 18, .o 18, .o 18, .o 18, .o 19, .o 19, .o 19, .o 19, .o 19, .o 19, .o 18, .o 18, .o 18, .o 0, .b, .o 0, .o 16, .o 16, .o 16, .o 16, .o 0, .o 16, .o 16, .o 17, .o 17, .o 17, .o 1, .b, .b, .b, .o 1, .b, .b, .b, .o 1, .o 1, .b, .o 2, .o 0, .o 19, .o 19, .o 19, .o 18, .o 18, .o 18, .o 0, .b, .o 0, .o 16, .o 16, .o 16, .o 16, .o 0, .o 16, .o 16, .o 17, .o 17, .o 17, .o 3, .b, .b, .b, .o 3, .b, .b, .b, .o 3, .o 3, .b, .o 4, .o 0, .o 19, .o 19, .o 19, .o 18, .o 18, .o 18, .o 0, .b, .o 0, .o 16, .o 16, .o 16, .o 16, .o 0, .o 16, .o 16, .o 17, .o 17, .o 17, .o 5, .b, .b, .b, .o 5, .b, .b, .b, .o 5, .o 5, .b, .o 6, .o 0, .o 19, .o 19, .o 19, .o 18, .o 18, .o 18, .o 0, .b, .o 0, .o 16, .o 16, .o 16, .o 16, .o 0, .o 16, .o 16, .o 17, .o 17, .o 17, .o 7, .b, .b, .b, .o 7, .b, .b, .b, .o 7, .o 7, .b, .o 8, .o 0, .o 19, .o 19, .o 19, .o 18, .o 18, .o 18, .o 0, .b, .o 0, .o 16, .o 16, .o 16, .o 16, .o 0, .o 16, .o 16, .o 17, .o 17, .o 17, .o 9, .b, .b, .b, .o 9, .b, .b, .b, .o 9, .o 9, .b, .o 10, .o 0, .o 19, .o 19, .o 19, .o 18, .o 18, .o 18, .o 0, .b, .o 0, .o 16, .o 16, .o 16, .o 16, .o 0, .o 16, .o 16, .o 17, .o 17, .o 17, .o 11, .b, .b, .b, .o 11, .b, .b, .b, .o 11, .o 11, .b, .o 12, .o 0, .o 19, .o 19, .o 19, .o 18, .o 18, .o 18, .o 0, .b, .o 0, .o 16, .o 16, .o 16, .o 16, .o 0, .o 16, .o 16, .o 17, .o 17, .o 17, .o 13, .b, .b, .b, .o 13, .b, .b, .b, .o 13, .o 13, .b, .o 14, .o 0, .o 19, .o 19, .o 19, .o 18, .o 18, .o 18, .o 0, .b, .o 0, .o 16, .o 16, .o 16, .o 16, .o 0, .o 16, .o 16, .o 0, .o 0, .o 0, .o 23]
noncomputable def J7_sp (w : World) (s₀ : Shared) (b1 b2 : Bool) (A : LA) (k6 : Result → Sem Fin) (Ls cc Le it3 Lg gobj g2 co lst : Addr) (p0 : Pos) (tk : Tok) (nm : Str) (x0 x1 x2 x3 x4 x5 x6 : Ch) (τ : Nat → Nat → Tok) (ν : Nat → Nat) (N T G : Nat) : List Spec := []
theorem J7_r (w : World) (s₀ : Shared) (b1 b2 : Bool) (A : LA) (k6 : Result → Sem Fin) (Ls cc Le it3 Lg gobj g2 co lst : Addr) (p0 : Pos) (tk : Tok) (nm : Str) (x0 x1 x2 x3 x4 x5 x6 : Ch) (hne : lst ≠ gobj) (p : Pos) (τ : Nat → Nat → Tok) (ν : Nat → Nat) (N T G : Nat) :
  EndsQ w.params (run ((K5 w s₀ b1 b2).V [] N T G (J7_sp w s₀ b1 b2 A k6 Ls cc Le it3 Lg gobj g2 co lst p0 tk nm x0 x1 x2 x3 x4 x5 x6 τ ν N T G)) (cond b2 433 443) (denF (cIadd lst gobj)) (cIadd lst gobj) p (fsI w.params A k6 Ls cc Le p0 tk gobj) (memOf w.params τ ν 0 ((A.ct, .arr c_list #[.ref x0.a, .ref x1.a, .ref x2.a, .ref x3.a, .ref x4.a, .ref x5.a, .ref x6.a]) :: (chD x0.a x0.d x0.l x0.sgs ++ (chD x1.a x1.d x1.l x1.sgs ++ (chD x2.a x2.d x2.l x2.sgs ++ (chD x3.a x3.d x3.l x3.sgs ++ (chD x4.a x4.d x4.l x4.sgs ++ (chD x5.a x5.d x5.l x5.sgs ++ (chD x6.a x6.d x6.l x6.sgs ++ (genD A Le it3 Lg gobj g2 nm ++ ([(lst, .seq c_list [])] : DM))))))))))) 0 0 [(g2, genC w.params A Le it3 Lg co), (A.g, .running)] 0 (cond b2 J7_h2 J7_h) []) [4, 5, 6, 7, 8, 9, 10, 11, 12, 13, 14, 15, 16, 17, 18, 19]
    ((.pure (.done (.ret (.str ⟨⟨[x0.sg, x1.sg, x2.sg, x3.sg, x4.sg, x5.sg, x6.sg]⟩⟩ (T + 14)))) : Sem Fin)) (cJoinB tk gobj) (fsJ w.params A k6 Ls cc Le 0 0) ((A.ct, .arr c_list #[.ref x0.a, .ref x1.a, .ref x2.a, .ref x3.a, .ref x4.a, .ref x5.a, .ref x6.a]) :: (chD x0.a x0.d x0.l x0.sgs ++ (chD x1.a x1.d x1.l x1.sgs ++ (chD x2.a x2.d x2.l x2.sgs ++ (chD x3.a x3.d x3.l x3.sgs ++ (chD x4.a x4.d x4.l x4.sgs ++ (chD x5.a x5.d x5.l x5.sgs ++ (chD x6.a x6.d x6.l x6.sgs ++ (leD A Le nm))))))))) [(A.g, .running)] := by
  cases b1 <;> cases b2 <;> (rw [iadd_is]; unfold PySem.W.Fast.tw8938917530802602619; rw [same_ne hne]; unfold EndsQ; kernel_rfl)
theorem J7 (w : World) (s₀ : Shared) (b1 b2 : Bool) (Y : Sys (K5 w s₀ b1 b2)) (A : LA) (k6 : Result → Sem Fin) (Ls cc Le it3 Lg gobj g2 co lst : Addr) (p0 : Pos) (tk : Tok) (nm : Str) (x0 x1 x2 x3 x4 x5 x6 : Ch) (hne : lst ≠ gobj)  {L : DM} {s : Shared} {p : Pos} (S : StD (K5 w s₀ b1 b2) ((A.ct, .arr c_list #[.ref x0.a, .ref x1.a, .ref x2.a, .ref x3.a, .ref x4.a, .ref x5.a, .ref x6.a]) :: (chD x0.a x0.d x0.l x0.sgs ++ (chD x1.a x1.d x1.l x1.sgs ++ (chD x2.a x2.d x2.l x2.sgs ++ (chD x3.a x3.d x3.l x3.sgs ++ (chD x4.a x4.d x4.l x4.sgs ++ (chD x5.a x5.d x5.l x5.sgs ++ (chD x6.a x6.d x6.l x6.sgs ++ (genD A Le it3 Lg gobj g2 nm ++ ([(lst, .seq c_list [])] : DM))))))))) ++ L) [(g2, genC w.params A Le it3 Lg co), (A.g, .running)] s)
    (next : ∀ (τ : Nat → Nat → Tok) (N T G : Nat) (s' : Shared) (p' : Pos), (K5 w s₀ b1 b2).B ≤ N → N ≤ s'.heap.objs.size → StD (K5 w s₀ b1 b2) ((A.ct, .arr c_list #[.ref x0.a, .ref x1.a, .ref x2.a, .ref x3.a, .ref x4.a, .ref x5.a, .ref x6.a]) :: (chD x0.a x0.d x0.l x0.sgs ++ (chD x1.a x1.d x1.l x1.sgs ++ (chD x2.a x2.d x2.l x2.sgs ++ (chD x3.a x3.d x3.l x3.sgs ++ (chD x4.a x4.d x4.l x4.sgs ++ (chD x5.a x5.d x5.l x5.sgs ++ (chD x6.a x6.d x6.l x6.sgs ++ (leD A Le nm)))))))) ++ L) [(A.g, .running)] s' → Y.H s' ⟨(.pure (.done (.ret (.str ⟨⟨[x0.sg, x1.sg, x2.sg, x3.sg, x4.sg, x5.sg, x6.sg]⟩⟩ (T + 14)))) : Sem Fin), cJoinB tk gobj, p', fsJ w.params A k6 Ls cc Le 0 0⟩) : Y.H s ⟨denF (cIadd lst gobj), cIadd lst gobj, p, fsI w.params A k6 Ls cc Le p0 tk gobj⟩ :=
  Y.seg (t' := fun τ N T G => (.pure (.done (.ret (.str ⟨⟨[x0.sg, x1.sg, x2.sg, x3.sg, x4.sg, x5.sg, x6.sg]⟩⟩ (T + 14)))) : Sem Fin)) (c' := fun N T G => cJoinB tk gobj) (fs' := fun N T G => fsJ w.params A k6 Ls cc Le 0 0) (d' := fun N T G => (A.ct, .arr c_list #[.ref x0.a, .ref x1.a, .ref x2.a, .ref x3.a, .ref x4.a, .ref x5.a, .ref x6.a]) :: (chD x0.a x0.d x0.l x0.sgs ++ (chD x1.a x1.d x1.l x1.sgs ++ (chD x2.a x2.d x2.l x2.sgs ++ (chD x3.a x3.d x3.l x3.sgs ++ (chD x4.a x4.d x4.l x4.sgs ++ (chD x5.a x5.d x5.l x5.sgs ++ (chD x6.a x6.d x6.l x6.sgs ++ (leD A Le nm))))))))) (gm' := fun N T G => [(A.g, .running)]) S (by decide) (J7_sp w s₀ b1 b2 A k6 Ls cc Le it3 Lg gobj g2 co lst p0 tk nm x0 x1 x2 x3 x4 x5 x6) (J7_r w s₀ b1 b2 A k6 Ls cc Le it3 Lg gobj g2 co lst p0 tk nm x0 x1 x2 x3 x4 x5 x6 hne p) (fun τ ν N T G => AllOk.nil) next

noncomputable def J8_h : List Hint := [.o 20, .o 20, .o 20, .o 20, .o 20, .o 20, .o 20, .o 21, .o 21, .o 21, .o 21, .o 21, .o 21, .o 20, .o 20, .o 20, .o 0, .b, .o 0, .o 18, .o 18, .o 18, .o 18, .o 18, .o 18, .o 18, .o 18, .o 0, .o 18, .o 18, .o 19, .o 19, .o 19, .o 1, .b, .b, .b, .o 1, .b, .b, .b, .o 1, .o 1, .b, .o 2, .o 0, .o 21, .o 21, .o 21, .o 20, .o 20, .o 20, .o 0, .b, .o 0, .o 18, .o 18, .o 18, .o 18, .o 0, .o 18, .o 18, .o 19, .o 19, .o 19, .o 3, .b, .b, .b, .o 3, .b, .b, .b, .o 3, .o 3, .b, .o 4, .o 0, .o 21, .o 21, .o 21, .o 20, .o 20, .o 20, .o 0, .b, .o 0, .o 18, .o 18, .o 18, .o 18, .o 0, .o 18, .o 18, .o 19, .o 19, .o 19, .o 5, .b, .b, .b, .o 5, .b, .b, .b, .o 5, .o 5, .b, .o 6, .o 0, .o 21, .o 21, .o 21, .o 20, .o 20, .o 20, .o 0, .b, .o 0, .o 18, .o 18, .o 18, .o 18, .o 0, .o 18, .o 18, .o 19, .o 19, .o 19, .o 7, .b, .b, .b, .o 7, .b, .b, .b, .o 7, .o 7, .b, .o 8, .o 0, .o 21, .o 21, .o 21, .o 20, .o 20, .o 20, .o 0, .b, .o 0, .o 18, .o 18, .o 18, .o 18, .o 0, .o 18, .o 18, .o 19, .o 19, .o 19, .o 9, .b, .b, .b, .o 9, .b, .b, .b, .o 9, .o 9, .b, .o 10, .o 0, .o 21, .o 21, .o 21, .o 20, .o 20, .o 20, .o 0, .b, .o 0, .o 18, .o 18, .o 18, .o 18, .o 0, .o 18, .o 18, .o 19, .o 19, .o 19, .o 11, .b, .b, .b, .o 11, .b, .b, .b, .o 11, .o 11, .b, .o 12, .o 0, .o 21, .o 21, .o 21, .o 20, .o 20, .o 20, .o 0, .b, .o 0, .o 18, .o 18, .o 18, .o 18, .o 0, .o 18, .o 18, .o 19, .o 19, .o 19, .o 13, .b, .b, .b, .o 13, .b, .b, .b, .o 13, .o 13, .b, .o 14, .o 0, .o 21, .o 21, .o 21, .o 20, .o 20, .o 20, .o 0, .b, .o 0, .o 18, .o 18, .o 18, .o 18, .o 0, .o 18, .o 18, .o 19, .o 19, .o 19, .o 15, .b, .b, .b, .o 15, .b, .b, .b, .o 15, .o 15, .b, .o 16, .o 0, .o 21, .o 21, .o 21, .o 20, .o 20, .o 20, .o 0, .b, .o 0, .o 18, .o 18, .o 18, .o 18, .o 0, .o 18, .o 18, .o 0, .o 0, .o 0, .o 25]
noncomputable def J8_h2 : List Hint := [.o 20, .o 20, .o 20, .o 20, .o 20, .o 20, .o 20, .o 21, .o 21, .o 21, .o 21, .o 21, .o 21, .o 20, .o 20, .o 20, .o 0, .b, .o 0, .o 18, .o 18, .o 18, .o 18, .o 0, .o 18, .o 18, .o 19, .o 19, .o 19, .o 1, .b, .b, .b, .o 1, .b, .b, .b, .o 1, .o 1, .b, .o 2, .o 0, .o 21, .o 21, .o 21, .o 20, .o 20, .o 20, .o 0, .b, .o 0, .o 18, .o 18, .o 18, .o 18, .o 0, .o 18, .o 18, .o 19, .o 19, .o 19, .o 3, .b, .b, .b, .o 3, .b, .b, .b, .o 3, .o 3, .b, .o 4, .o 0, .o 21, .o 21, .o 21, .o 20, .o 20, .o 20, .o 0, .b, .o 0, .o 18, .o 18, .o 18, .o 18, .o 0, .o 18, .o 18, .o 19, .o 19, .o 19, .o 5, .b, .b, .b, .o 5, .b, .b, .b, .o 5, .o 5, .b, .o 6, .o 0, .o 21, .o 21, .o 21, .o 20, .o 20, .o 20, .o 0, .b, .o 0, .o 18, .o 18, .o 18, .o 18, .o 0, .o 18, .o 18, .o 19, .o 19, .o 19, .o 7, .b, .b, .b, .o 7, .b, .b, .b, .o 7, .o 7, .b, .o 8, .o 0, .o 21, .o 21, .o 21, .o 20, .o 20, .o 20, .o 0, .b, .o 0, .o 18, .o 18, .o 18, .o 18, .o 0, .o 18, .o 18, .o 19, .o 19, .o 19, .o 9, .b, .b, .b, .o 9, .b, .b, .b, .o 9, .o 9, .b, .o 10, .o 0, .o 21, .o 21, .o 21, .o 20, .o 20, .o 20, .o 0, .b, .o 0, .o 18, .o 18, .o 18, .o 18, .o 0, .o 18, .o 18, .o 19, .o 19, .o 19, .o 11, .b, .b, .b, .o 11, .b, .b, .b, .o 11, .o 11, .b, .o 12, .o 0, .o 21, .o 21, .o 21, .o 20, .o 20, .o 20, .o 0, .b, .o 0, .o 18, .o 18, .o 18, .o 18, .o 0, .o 18, .o 18, .o 19, .o 19, .o 19, .o 13, .b, .b, .b, .o 13, .b, .b, .b, .o 13, .o 13, .b, .o 14, .o 0, .o 21, .o 21, .o 21, .o 20, .o 20, .o 20, .o 0, .b, .o 0, .o 18, .o 18, .o 18, .o 18, .o 0, .o 18, .o 18, .o 19, .o 19, .o 19, .o 15, .b, .b, .b, .o 15, .b, .b, .b, .o 15, .o 15, .b, .o 16, .o 0, .o 21, .o 21, .o 21, .o 20, .o 20, .o 20, .o 0, .b, .o 0, .o 18, .o 18, .o 18, .o 18, .o 0, .o 18, .o 18, .o 0, .o 0, .o 0, .o 25]
noncomputable def J8_sp (w : World) (s₀ : Shared) (b1 b2 : Bool) (A : LA) (k6 : Result → Sem Fin) (Ls cc Le it3 Lg gobj g2 co lst : Addr) (p0 : Pos) (tk : Tok) (nm : Str) (x0 x1 x2 x3 x4 x5 x6 x7 : Ch) (τ : Nat → Nat → Tok) (ν : Nat → Nat) (N T G : Nat) : List Spec := []
theorem J8_r (w : World) (s₀ : Shared) (b1 b2 : Bool) (A : LA) (k6 : Result → Sem Fin) (Ls cc Le it3 Lg gobj g2 co lst : Addr) (p0 : Pos) (tk : Tok) (nm : Str) (x0 x1 x2 x3 x4 x5 x6 x7 : Ch) (hne : lst ≠ gobj) (p : Pos) (τ : Nat → Nat → Tok) (ν : Nat → Nat) (N T G : Nat) :
  EndsQ w.params (run ((K5 w s₀ b1 b2).V [] N T G (J8_sp w s₀ b1 b2 A k6 Ls cc Le it3 Lg gobj g2 co lst p0 tk nm x0 x1 x2 x3 x4 x5 x6 x7 τ ν N T G)) (cond b2 487 497) (denF (cIadd lst gobj)) (cIadd lst gobj) p (fsI w.params A k6 Ls cc Le p0 tk gobj) (memOf w.params τ ν 0 ((A.ct, .arr c_list #[.ref x0.a, .ref x1.a, .ref x2.a, .ref x3.a, .ref x4.a, .ref x5.a, .ref x6.a, .ref x7.a]) :: (chD x0.a x0.d x0.l x0.sgs ++ (chD x1.a x1.d x1.l x1.sgs ++ (chD x2.a x2.d x2.l x2.sgs ++ (chD x3.a x3.d x3.l x3.sgs ++ (chD x4.a x4.d x4.l x4.sgs ++ (chD x5.a x5.d x5.l x5.sgs ++ (chD x6.a x6.d x6.l x6.sgs ++ (chD x7.a x7.d x7.l x7.sgs ++ (genD A Le it3 Lg gobj g2 nm ++ ([(lst, .seq c_list [])] : DM)))))))))))) 0 0 [(g2, genC w.params A Le it3 Lg co), (A.g, .running)] 0 (cond b2 J8_h2 J8_h) []) [4, 5, 6, 7, 8, 9, 10, 11, 12, 13, 14, 15, 16, 17, 18, 19, 20, 21]
    ((.pure (.done (.ret (.str ⟨⟨[x0.sg, x1.sg, x2.sg, x3.sg, x4.sg, x5.sg, x6.sg, x7.sg]⟩⟩ (T + 16)))) : Sem Fin)) (cJoinB tk gobj) (fsJ w.params A k6 Ls cc Le 0 0) ((A.ct, .arr c_list #[.ref x0.a, .ref x1.a, .ref x2.a, .ref x3.a, .ref x4.a, .ref x5.a, .ref x6.a, .ref x7.a]) :: (chD x0.a x0.d x0.l x0.sgs ++ (chD x1.a x1.d x1.l x1.sgs ++ (chD x2.a x2.d x2.l x2.sgs ++ (chD x3.a x3.d x3.l x3.sgs ++ (chD x4.a x4.d x4.l x4.sgs ++ (chD x5.a x5.d x5.l x5.sgs ++ (chD x6.a x6.d x6.l x6.sgs ++ (chD x7.a x7.d x7.l x7.sgs ++ (leD A Le nm)))))))))) [(A.g, .running)] := by
  cases b1 <;> cases b2 <;> (rw [iadd_is]; unfold PySem.W.Fast.tw8938917530802602619; rw [same_ne hne]; unfold EndsQ; kernel_rfl)
theorem J8 (w : World) (s₀ : Shared) (b1 b2 : Bool) (Y : Sys (K5 w s₀ b1 b2)) (A : LA) (k6 : Result → Sem Fin) (Ls cc Le it3 Lg gobj g2 co lst : Addr) (p0 : Pos) (tk : Tok) (nm : Str) (x0 x1 x2 x3 x4 x5 x6 x7 : Ch) (hne : lst ≠ gobj)  {L : DM} {s : Shared} {p : Pos} (S : StD (K5 w s₀ b1 b2) ((A.ct, .arr c_list #[.ref x0.a, .ref x1.a, .ref x2.a, .ref x3.a, .ref x4.a, .ref x5.a, .ref x6.a, .ref x7.a]) :: (chD x0.a x0.d x0.l x0.sgs ++ (chD x1.a x1.d x1.l x1.sgs ++ (chD x2.a x2.d x2.l x2.sgs ++ (chD x3.a x3.d x3.l x3.sgs ++ (chD x4.a x4.d x4.l x4.sgs ++ (chD x5.a x5.d x5.l x5.sgs ++ (chD x6.a x6.d x6.l x6.sgs ++ (chD x7.a x7.d x7.l x7.sgs ++ (genD A Le it3 Lg gobj g2 nm ++ ([(lst, .seq c_list [])] : DM)))))))))) ++ L) [(g2, genC w.params A Le it3 Lg co), (A.g, .running)] s)
    (next : ∀ (τ : Nat → Nat → Tok) (N T G : Nat) (s' : Shared) (p' : Pos), (K5 w s₀ b1 b2).B ≤ N → N ≤ s'.heap.objs.size → StD (K5 w s₀ b1 b2) ((A.ct, .arr c_list #[.ref x0.a, .ref x1.a, .ref x2.a, .ref x3.a, .ref x4.a, .ref x5.a, .ref x6.a, .ref x7.a]) :: (chD x0.a x0.d x0.l x0.sgs ++ (chD x1.a x1.d x1.l x1.sgs ++ (chD x2.a x2.d x2.l x2.sgs ++ (chD x3.a x3.d x3.l x3.sgs ++ (chD x4.a x4.d x4.l x4.sgs ++ (chD x5.a x5.d x5.l x5.sgs ++ (chD x6.a x6.d x6.l x6.sgs ++ (chD x7.a x7.d x7.l x7.sgs ++ (leD A Le nm))))))))) ++ L) [(A.g, .running)] s' → Y.H s' ⟨(.pure (.done (.ret (.str ⟨⟨[x0.sg, x1.sg, x2.sg, x3.sg, x4.sg, x5.sg, x6.sg, x7.sg]⟩⟩ (T + 16)))) : Sem Fin), cJoinB tk gobj, p', fsJ w.params A k6 Ls cc Le 0 0⟩) : Y.H s ⟨denF (cIadd lst gobj), cIadd lst gobj, p, fsI w.params A k6 Ls cc Le p0 tk gobj⟩ :=
  Y.seg (t' := fun τ N T G => (.pure (.done (.ret (.str ⟨⟨[x0.sg, x1.sg, x2.sg, x3.sg, x4.sg, x5.sg, x6.sg, x7.sg]⟩⟩ (T + 16)))) : Sem Fin)) (c' := fun N T G => cJoinB tk gobj) (fs' := fun N T G => fsJ w.params A k6 Ls cc Le 0 0) (d' := fun N T G => (A.ct, .arr c_list #[.ref x0.a, .ref x1.a, .ref x2.a, .ref x3.a, .ref x4.a, .ref x5.a, .ref x6.a, .ref x7.a]) :: (chD x0.a x0.d x0.l x0.sgs ++ (chD x1.a x1.d x1.l x1.sgs ++ (chD x2.a x2.d x2.l x2.sgs ++ (chD x3.a x3.d x3.l x3.sgs ++ (chD x4.a x4.d x4.l x4.sgs ++ (chD x5.a x5.d x5.l x5.sgs ++ (chD x6.a x6.d x6.l x6.sgs ++ (chD x7.a x7.d x7.l x7.sgs ++ (leD A Le nm)))))))))) (gm' := fun N T G => [(A.g, .running)]) S (by decide) (J8_sp w s₀ b1 b2 A k6 Ls cc Le it3 Lg gobj g2 co lst p0 tk nm x0 x1 x2 x3 x4 x5 x6 x7) (J8_r w s₀ b1 b2 A k6 Ls cc Le it3 Lg gobj g2 co lst p0 tk nm x0 x1 x2 x3 x4 x5 x6 x7 hne p) (fun τ ν N T G => AllOk.nil) next

noncomputable def J9_h : List Hint := [.o 22, .o 22, .o 22, .o 22, .o 22, .o 22, .o 22, .o 23, .o 23, .o 23, .o 23, .o 23, .o 23, .o 22, .o 22, .o 22, .o 0, .b, .o 0, .o 20, .o 20, .o 20, .o 20, .o 20, .o 20, .o 20, .o 20, .o 0, .o 20, .o 20, .o 21, .o 21, .o 21, .o 1, .b, .b, .b, .o 1, .b, .b, .b, .o 1, .o 1, .b, .o 2, .o 0, .o 23, .o 23, .o 23, .o 22, .o 22, .o 22, .o 0, .b, .o 0, .o 20, .o 20, .o 20, .o 20, .o 0, .o 20, .o 20, .o 21, .o 21, .o 21, .o 3, .b, .b, .b, .o 3, .b, .b, .b, .o 3, .o 3, .b, .o 4, .o 0, .o 23, .o 23, .o 23, .o 22, .o 22, .o 22, .o 0, .b, .o 0, .o 20, .o 20, .o 20, .o 20, .o 0, .o 20, .o 20, .o 21, .o 21, .o 21, .o 5, .b, .b, .b, .o 5, .b, .b, .b, .o 5, .o 5, .b, .o 6, .o 0, .o 23, .o 23, .o 23, .o 22, .o 22, .o 22, .o 0, .b, .o 0, .o 20, .o 20, .o 20, .o 20, .o 0, .o 20, .o 20, .o 21, .o 21, .o 21, .o 7, .b, .b, .b, .o 7, .b, .b, .b, .o 7, .o 7, .b, .o 8, .o 0, .o 23, .o 23, .o 23, .o 22, .o 22, .o 22, .o 0, .b, .o 0, .o 20, .o 20, .o 20, .o 20, .o 0, .o 20, .o 20, .o 21, .o 21, .o 21, .o 9, .b, .b, .b, .o 9, .b, .b, .b, .o 9, .o 9, .b, .o 10, .o 0, .o 23, .o 23, .o 23, .o 22, .o 22, .o 22, .o 0, .b, .o 0, .o 20, .o 20, .o 20, .o 20, .o 0, .o 20, .o 20, .o 21, .o 21, .o 21, .o 11, .b, .b, .b, .o 11, .b, .b, .b, .o 11, .o 11, .b, .o 12, .o 0, .o 23, .o 23, .o 23, .o 22, .o 22, .o 22, .o 0, .b, .o 0, .o 20, .o 20, .o 20, .o 20, .o 0, .o 20, .o 20, .o 21, .o 21, .o 21, .o 13, .b, .b, .b, .o 13, .b, .b, .b, .o 13, .o 13, .b, .o 14, .o 0, .o 23, .o 23, .o 23, .o 22, .o 22, .o 22, .o 0, .b, .o 0, .o 20, .o 20, .o 20, .o 20, .o 0, .o 20, .o 20, .o 21, .o 21, .o 21, .o 15, .b, .b, .b, .o 15, .b, .b, .b, .o 15, .o 15, .b, .o 16, .o 0, .o 23, .o 23, .o 23, .o 22, .o 22, .o 22, .o 0, .b, .o 0, .o 20, .o 20, .o 20, .o 20, .o 0, .o 20, .o 20, .o 21, .o 21, .o 21, .o 17, .b, .b, .b, .o 17, .b, .b, .b, .o 17, .o 17, .b, .o 18, .o 0, .o 23, .o 23, .o 23, .o 22, .o 22, .o 22, .o 0, .b, .o 0, .o 20, .o 20, .o 20, .o 20, .o 0, .o 20, .o 20, .o 0, .o 0, .o 0, .o 27]
noncomputable def J9_h2 : List Hint := [.o 22, .o 22, .o 22, .o 22, .o 22, .o 22, .o 22, .o 23, .o 23, .o 23, .o 23, .o 23, .o 23, .o 22, .o 22, .o 22, .o 0, .b, .o 0, .o 20, .o 20, .o 20, .o 20, .o 0, .o 20, .o 20, .o 21, .o 21, .o 21, .o 1, .b, .b, .b, .o 1, .b, .b, .b, .o 1, .o 1, .b, .o 2, .o 0, .o 23, .o 23, .o 23, .o 22, .o 22, .o 22, .o 0, .b, .o 0, .o 20, .o 20, .o 20, .o 20, .o 0, .o 20, .o 20, .o 21, .o 21, .o 21, .o 3, .b, .b, .b, .o 3, .b, .b, .b, .o 3, .o 3, .b, .o 4, .o 0, .o 23, .o 23, .o 23, .o 22, .o 22, .o 22, .o 0, .b, .o 0, .o 20, .o 20, .o 20, .o 20, .o 0, .o 20, .o 20, .o 21, .o 21, .o 21, .o 5, .b, .b, .b, .o 5, .b, .b, .b, .o 5, .o 5, .b, .o 6, .o 0, .o 23, .o 23, .o 23, .o 22, .o 22, .o 22, .o 0, .b, .o 0, .o 20, .o 20, .o 20, .o 20, .o 0, .o 20, .o 20, .o 21, .o 21, .o 21, .o 7, .b, .b, .b, .o 7, .b, .b, .b, .o 7, .o 7, .b, .o 8, .o 0, .o 23, .o 23, .o 23, .o 22, .o 22, .o 22, .o 0, .b, .o 0, .o 20, .o 20, .o 20, .o 20, .o 0, .o 20, .o 20, .o 21, .o 21, .o 21, .o 9, .b, .b, .b, .o 9, .b, .b, .b, .o 9, .o 9, .b, .o 10, .o 0, .o 23, .o 23, .o 23, .o 22, .o 22, .o 22, .o 0, .b, .o 0, .o 20, .o 20, .o 20, .o 20, .o 0, .o 20, .o 20, .o 21, .o 21, .o 21, .o 11, .b, .b, .b, .o 11, .b, .b, .b, .o 11, .o 11, .b, .o 12, .o 0, .o 23, .o 23, .o 23, .o 22, .o 22, .o 22, .o 0, .b, .o 0, .o 20, .o 20, .o 20, .o 20, .o 0, .o 20, .o 20, .o 21, .o 21, .o 21, .o 13, .b, .b, .b, .o 13, .b, .b, .b, .o 13, .o 13, .b, .o 14, .o 0, .o 23, .o 23, .o 23, .o 22, .o 22, .o 22, .o 0, .b, .o 0, .o 20, .o 20, .o 20, .o 20, .o 0, .o 20, .o 20, .o 21, .o 21, .o 21, .o 15, .b, .b, .b, .o 15, .b, .b, .b, .o 15, .o 15, .b, .o 16, .o 0, .o 23, .o 23, .o 23, .o 22, .o 22, .o 22, .o 0, .b, .o 0, .o 20, .o 20, .o 20, .o 20, .o 0, .o 20, .o 20, .o 21, .o 21, .o 21, .o 17, .b, .b, .b, .o 17, .b, .b, .b, .o 17, .o 17, .b, .o 18, .o 0, .o 23, .o 23, .o 23, .o 22, .o 22, .o 22, .o 0, .b, .o 0, .o 20, .o 20, .o 20, .o 20, .o 0, .o 20, .o 20, .o 0, .o 0, .o 0, .o 27]
noncomputable def J9_sp (w : World) (s₀ : Shared) (b1 b2 : Bool) (A : LA) (k6 : Result → Sem Fin) (Ls cc Le it3 Lg gobj g2 co lst : Addr) (p0 : Pos) (tk : Tok) (nm : Str) (x0 x1 x2 x3 x4 x5 x6 x7 x8 : Ch) (τ : Nat → Nat → Tok) (ν : Nat → Nat) (N T G : Nat) : List Spec := []
theorem J9_r (w : World) (s₀ : Shared) (b1 b2 : Bool) (A : LA) (k6 : Result → Sem Fin) (Ls cc Le it3 Lg gobj g2 co lst : Addr) (p0 : Pos) (tk : Tok) (nm : Str) (x0 x1 x2 x3 x4 x5 x6 x7 x8 : Ch) (hne : lst ≠ gobj) (p : Pos) (τ : Nat → Nat → Tok) (ν : Nat → Nat) (N T G : Nat) :
  EndsQ w.params (run ((K5 w s₀ b1 b2).V [] N T G (J9_sp w s₀ b1 b2 A k6 Ls cc Le it3 Lg gobj g2 co lst p0 tk nm x0 x1 x2 x3 x4 x5 x6 x7 x8 τ ν N T G)) (cond b2 541 551) (denF (cIadd lst gobj)) (cIadd lst gobj) p (fsI w.params A k6 Ls cc Le p0 tk gobj) (memOf w.params τ ν 0 ((A.ct, .arr c_list #[.ref x0.a, .ref x1.a, .ref x2.a, .ref x3.a, .ref x4.a, .ref x5.a, .ref x6.a, .ref x7.a, .ref x8.a]) :: (chD x0.a x0.d x0.l x0.sgs ++ (chD x1.a x1.d x1.l x1.sgs ++ (chD x2.a x2.d x2.l x2.sgs ++ (chD x3.a x3.d x3.l x3.sgs ++ (chD x4.a x4.d x4.l x4.sgs ++ (chD x5.a x5.d x5.l x5.sgs ++ (chD x6.a x6.d x6.l x6.sgs ++ (chD x7.a x7.d x7.l x7.sgs ++ (chD x8.a x8.d x8.l x8.sgs ++ (genD A Le it3 Lg gobj g2 nm ++ ([(lst, .seq c_list [])] : DM))))))))))))) 0 0 [(g2, genC w.params A Le it3 Lg co), (A.g, .running)] 0 (cond b2 J9_h2 J9_h) []) [4, 5, 6, 7, 8, 9, 10, 11, 12, 13, 14, 15, 16, 17, 18, 19, 20, 21, 22, 23]
    ((.pure (.done (.ret (.str ⟨⟨[x0.sg, x1.sg, x2.sg, x3.sg, x4.sg, x5.sg, x6.sg, x7.sg, x8.sg]⟩⟩ (T + 18)))) : Sem Fin)) (cJoinB tk gobj) (fsJ w.params A k6 Ls cc Le 0 0) ((A.ct, .arr c_list #[.ref x0.a, .ref x1.a, .ref x2.a, .ref x3.a, .ref x4.a, .ref x5.a, .ref x6.a, .ref x7.a, .ref x8.a]) :: (chD x0.a x0.d x0.l x0.sgs ++ (chD x1.a x1.d x1.l x1.sgs ++ (chD x2.a x2.d x2.l x2.sgs ++ (chD x3.a x3.d x3.l x3.sgs ++ (chD x4.a x4.d x4.l x4.sgs ++ (chD x5.a x5.d x5.l x5.sgs ++ (chD x6.a x6.d x6.l x6.sgs ++ (chD x7.a x7.d x7.l x7.sgs ++ (chD x8.a x8.d x8.l x8.sgs ++ (leD A Le nm))))))))))) [(A.g, .running)] := by
  cases b1 <;> cases b2 <;> (rw [iadd_is]; unfold PySem.W.Fast.tw8938917530802602619; rw [same_ne hne]; unfold EndsQ; kernel_rfl)
theorem J9 (w : World) (s₀ : Shared) (b1 b2 : Bool) (Y : Sys (K5 w s₀ b1 b2)) (A : LA) (k6 : Result → Sem Fin) (Ls cc Le it3 Lg gobj g2 co lst : Addr) (p0 : Pos) (tk : Tok) (nm : Str) (x0 x1 x2 x3 x4 x5 x6 x7 x8 : Ch) (hne : lst ≠ gobj)  {L : DM} {s : Shared} {p : Pos} (S : StD (K5 w s₀ b1 b2) ((A.ct, .arr c_list #[.ref x0.a, .ref x1.a, .ref x2.a, .ref x3.a, .ref x4.a, .ref x5.a, .ref x6.a, .ref x7.a, .ref x8.a]) :: (chD x0.a x0.d x0.l x0.sgs ++ (chD x1.a x1.d x1.l x1.sgs ++ (chD x2.a x2.d x2.l x2.sgs ++ (chD x3.a x3.d x3.l x3.sgs ++ (chD x4.a x4.d x4.l x4.sgs ++ (chD x5.a x5.d x5.l x5.sgs ++ (chD x6.a x6.d x6.l x6.sgs ++ (chD x7.a x7.d x7.l x7.sgs ++ (chD x8.a x8.d x8.l x8.sgs ++ (genD A Le it3 Lg gobj g2 nm ++ ([(lst, .seq c_list [])] : DM))))))))))) ++ L) [(g2, genC w.params A Le it3 Lg co), (A.g, .running)] s)
    (next : ∀ (τ : Nat → Nat → Tok) (N T G : Nat) (s' : Shared) (p' : Pos), (K5 w s₀ b1 b2).B ≤ N → N ≤ s'.heap.objs.size → StD (K5 w s₀ b1 b2) ((A.ct, .arr c_list #[.ref x0.a, .ref x1.a, .ref x2.a, .ref x3.a, .ref x4.a, .ref x5.a, .ref x6.a, .ref x7.a, .ref x8.a]) :: (chD x0.a x0.d x0.l x0.sgs ++ (chD x1.a x1.d x1.l x1.sgs ++ (chD x2.a x2.d x2.l x2.sgs ++ (chD x3.a x3.d x3.l x3.sgs ++ (chD x4.a x4.d x4.l x4.sgs ++ (chD x5.a x5.d x5.l x5.sgs ++ (chD x6.a x6.d x6.l x6.sgs ++ (chD x7.a x7.d x7.l x7.sgs ++ (chD x8.a x8.d x8.l x8.sgs ++ (leD A Le nm)))))))))) ++ L) [(A.g, .running)] s' → Y.H s' ⟨(.pure (.done (.ret (.str ⟨⟨[x0.sg, x1.sg, x2.sg, x3.sg, x4.sg, x5.sg, x6.sg, x7.sg, x8.sg]⟩⟩ (T + 18)))) : Sem Fin), cJoinB tk gobj, p', fsJ w.params A k6 Ls cc Le 0 0⟩) : Y.H s ⟨denF (cIadd lst gobj), cIadd lst gobj, p, fsI w.params A k6 Ls cc Le p0 tk gobj⟩ :=
  Y.seg (t' := fun τ N T G => (.pure (.done (.ret (.str ⟨⟨[x0.sg, x1.sg, x2.sg, x3.sg, x4.sg, x5.sg, x6.sg, x7.sg, x8.sg]⟩⟩ (T + 18)))) : Sem Fin)) (c' := fun N T G => cJoinB tk gobj) (fs' := fun N T G => fsJ w.params A k6 Ls cc Le 0 0) (d' := fun N T G => (A.ct, .arr c_list #[.ref x0.a, .ref x1.a, .ref x2.a, .ref x3.a, .ref x4.a, .ref x5.a, .ref x6.a, .ref x7.a, .ref x8.a]) :: (chD x0.a x0.d x0.l x0.sgs ++ (chD x1.a x1.d x1.l x1.sgs ++ (chD x2.a x2.d x2.l x2.sgs ++ (chD x3.a x3.d x3.l x3.sgs ++ (chD x4.a x4.d x4.l x4.sgs ++ (chD x5.a x5.d x5.l x5.sgs ++ (chD x6.a x6.d x6.l x6.sgs ++ (chD x7.a x7.d x7.l x7.sgs ++ (chD x8.a x8.d x8.l x8.sgs ++ (leD A Le nm))))))))))) (gm' := fun N T G => [(A.g, .running)]) S (by decide) (J9_sp w s₀ b1 b2 A k6 Ls cc Le it3 Lg gobj g2 co lst p0 tk nm x0 x1 x2 x3 x4 x5 x6 x7 x8) (J9_r w s₀ b1 b2 A k6 Ls cc Le it3 Lg gobj g2 co lst p0 tk nm x0 x1 x2 x3 x4 x5 x6 x7 x8 hne p) (fun τ ν N T G => AllOk.nil) next

noncomputable def J10_h : List Hint := [.o 24, .o 24, .o 24, .o 24, .o 24, .o 24, .o 24, .o 25, .o 25, .o 25, .o 25, .o 25, .o 25, .o 24, .o 24, .o 24, .o 0, .b, .o 0, .o 22, .o 22, .o 22, .o 22, .o 22, .o 22, .o 22, .o 22, .o 0, .o 22, .o 22, .o 23, .o 23, .o 23, .o 1, .b, .b, .b, .o 1, .b, .b, .b, .o 1, .o 1, .b, .o 2, .o 0, .o 25, .o 25, .o 25, .o 24, .o 24, .o 24, .o 0, .b, .o 0, .o 22, .o 22, .o 22, .o 22, .o 0, .o 22, .o 22, .o 23, .o 23, .o 23, .o 3, .b, .b, .b, .o 3, .b, .b, .b, .o 3, .o 3, .b, .o 4, .o 0, .o 25, .o 25, .o 25, .o 24, .o 24, .o 24, .o 0, .b, .o 0, .o 22, .o 22, .o 22, .o 22, .o 0, .o 22, .o 22, .o 23, .o 23, .o 23, .o 5, .b, .b, .b, .o 5, .b, .b, .b, .o 5, .o 5, .b, .o 6, .o 0, .o 25, .o 25, .o 25, .o 24, .o 24, .o 24, .o 0, .b, .o 0, .o 22, .o 22, .o 22, .o 22, .o 0, .o 22, .o 22, .o 23, .o 23, .o 23, .o 7, .b, .b, .b, .o 7, .b, .b, .b, .o 7, .o 7, .b, .o 8, .o 0, .o 25, .o 25, .o 25, .o 24, .o 24, .o 24, .o 0, .b, .o 0, .o 22, .o 22, .o 22, .o 22, .o 0, .o 22, .o 22, .o 23, .o 23, .o 23, .o 9, .b, .b, .b, .o 9, .b, .b, .b, .o 9, .o 9, .b, .o 10, .o 0, .o 25, .o 25, .o 25, .o 24, .o 24, .o 24, .o 0, .b, .o 0, .o 22, .o 22, .o 22, .o 22, .o 0, .o 22, .o 22, .o 23, .o 23, .o 23, .o 11, .b, .b, .b, .o 11, .b, .b, .b, .o 11, .o 11, .b, .o 12, .o 0, .o 25, .o 25, .o 25, .o 24, .o 24, .o 24, .o 0, .b, .o 0, .o 22, .o 22, .o 22, .o 22, .o 0, .o 22, .o 22, .o 23, .o 23, .o 23, .o 13, .b, .b, .b, .o 13, .b, .b, .b, .o 13, .o 13, .b, .o 14, .o 0, .o 25, .o 25, .o 25, .o 24, .o 24, .o 24, .o 0, .b, .o 0, .o 22, .o 22, .o 22, .o 22, .o 0, .o 22, .o 22, .o 23, .o 23, .o 23, .o 15, .b, .b, .b, .o 15, .b, .b, .b, .o 15, .o 15, .b, .o 16, .o 0, .o 25, .o 25, .o 25, .o 24, .o 24, .o 24, .o 0, .b, .o 0, .o 22, .o 22, .o 22, .o 22, .o 0, .o 22, .o 22, .o 23, .o 23, .o 23, .o 17, .b, .b, .b, .o 17, .b, .b, .b, .o 17, .o 17, .b, .o 18, .o 0, .o 25, .o 25, .o 25, .o 24, .o 24, .o 24, .o 0, .b, .o 0, .o 22, .o 22, .o 22, .o 22, .o 0, .o 22, .o 22, .o 23, .o 23, .o 23, .o 19, .b, .b, .b, .o 19, .b, .b, .b, .o 19, .o 19, .b, .o 20, .o 0, .o 25, .o 25, .o 25, .o 24, .o 24, .o 24, .o 0, .b, .o 0, .o 22, .o 22, .o 22, .o 22, .o 0, .o 22, .o 22, .o 0, .o 0, .o 0, .o 29]
noncomputable def J10_h2 : List Hint := [.o 24, .o 24, .o 24, .o 24, .o 24, .o 24, .o 24, .o 25, .o 25, .o 25, .o 25, .o 25, .o 25, .o 24, .o 24, .o 24, .o 0, .b, .o 0, .o 22, .o 22, .o 22, .o 22, .o 0, .o 22, .o 22, .o 23, .o 23, .o 23, .o 1, .b, .b, .b, .o 1, .b, .b, .b, .o 1, .o 1, .b, .o 2, .o 0, .o 25, .o 25, .o 25, .o 24, .o 24, .o 24, .o 0, .b, .o 0, .o 22, .o 22, .o 22, .o 22, .o 0, .o 22, .o 22, .o 23, .o 23, .o 23, .o 3, .b, .b, .b, .o 3, .b, .b, .b, .o 3, .o 3, .b, .o 4, .o 0, .o 25, .o 25, .o 25, .o 24, .o 24, .o 24, .o 0, .b, .o 0, .o 22, .o 22, .o 22, .o 22, .o 0, .o 22, .o 22, .o 23, .o 23, .o 23, .o 5, .b, .b, .b, .o 5, .b, .b, .b, .o 5, .o 5, .b, .o 6, .o 0, .o 25, .o 25, .o 25, .o 24, .o 24, .o 24, .o 0, .b, .o 0, .o 22, .o 22, .o 22, .o 22, .o 0, .o 22, .o 22, .o 23, .o 23, .o 23, .o 7, .b, .b, .b, .o 7, .b, .b, .b, .o 7, .o 7, .b, .o 8, .o 0, .o 25, .o 25, .o 25, .o 24, .o 24, .o 24, .o 0, .b, .o 0, .o 22, .o 22, .o 22, .o 22, .o 0, .o 22, .o 22, .o 23, .o 23, .o 23, .o 9, .b, .b, .b, .o 9, .b, .b, .b, .o 9, .o 9, .b, .o 10, .o 0, .o 25, .o 25, .o 25, .o 24, .o 24, .o 24, .o 0, .b, .o 0, .o 22, .o 22, .o 22, .o 22, .o 0, .o 22, .o 22, .o 23, .o 23, .o 23, .o 11, .b, .b, .b, .o 11, .b, .b, .b, .o 11, .o 11, .b, .o 12, .o 0, .o 25, .o 25, .o 25, .o 24, .o 24, .o 24, .o 0, .b, .o 0, .o 22, .o 22, .o 22, .o 22, .o 0, .o 22, .o 22, .o 23, .o 23, .o 23, .o 13, .b, .b, .b, .o 13, .b, .b, .b, .o 13, .o 13, .b, .o 14, .o 0, .o 25, .o 25, .o 25, .o 24, .o 24, .o 24, .o 0, .b, .o 0, .o 22, .o 22, .o 22, .o 22, .o 0, .o 22, .o 22, .o 23, .o 23, .o 23, .o 15, .b, .b, .b, .o 15, .b, .b, .b, .o 15, .o 15, .b, .o 16, .o 0, .o 25, .o 25, .o 25, .o 24, .o 24, .o 24, .o 0, .b, .o 0, .o 22, .o 22, .o 22, .o 22, .o 0, .o 22, .o 22, .o 23, .o 23, .o 23, .o 17, .b, .b, .b, .o 17, .b, .b, .b, .o 17, .o 17, .b, .o 18, .o 0, .o 25, .o 25, .o 25, .o 24, .o 24, .o 24, .o 0, .b, .o 0, .o 22, .o 22, .o 22, .o 22, .o 0, .o 22, .o 22, .o 23, .o 23, .o 23, .o 19, .b, .b, .b, .o 19, .b, .b, .b, .o 19, .o 19, .b, .o 20, .o 0, .o 25, .o 25, .o 25, .o 24, .o 24, .o 24, .o 0, .b, .o 0, .o 22, .o 22, .o 22, .o 22, .o 0, .o 22, .o 22, .o 0, .o 0, .o 0, .o 29]
noncomputable def J10_sp (w : World) (s₀ : Shared) (b1 b2 : Bool) (A : LA) (k6 : Result → Sem Fin) (Ls cc Le it3 Lg gobj g2 co lst : Addr) (p0 : Pos) (tk : Tok) (nm : Str) (x0 x1 x2 x3 x4 x5 x6 x7 x8 x9 : Ch) (τ : Nat → Nat → Tok) (ν : Nat → Nat) (N T G : Nat) : List Spec := []
theorem J10_r (w : World) (s₀ : Shared) (b1 b2 : Bool) (A : LA) (k6 : Result → Sem Fin) (Ls cc Le it3 Lg gobj g2 co lst : Addr) (p0 : Pos) (tk : Tok) (nm : Str) (x0 x1 x2 x3 x4 x5 x6 x7 x8 x9 : Ch) (hne : lst ≠ gobj) (p : Pos) (τ : Nat → Nat → Tok) (ν : Nat → Nat) (N T G : Nat) :
  EndsQ w.params (run ((K5 w s₀ b1 b2).V [] N T G (J10_sp w s₀ b1 b2 A k6 Ls cc Le it3 Lg gobj g2 co lst p0 tk nm x0 x1 x2 x3 x4 x5 x6 x7 x8 x9 τ ν N T G)) (cond b2 595 605) (denF (cIadd lst gobj)) (cIadd lst gobj) p (fsI w.params A k6 Ls cc Le p0 tk gobj) (memOf w.params τ ν 0 ((A.ct, .arr c_list #[.ref x0.a, .ref x1.a, .ref x2.a, .ref x3.a, .ref x4.a, .ref x5.a, .ref x6.a, .ref x7.a, .ref x8.a, .ref x9.a]) :: (chD x0.a x0.d x0.l x0.sgs ++ (chD x1.a x1.d x1.l x1.sgs ++ (chD x2.a x2.d x2.l x2.sgs ++ (chD x3.a x3.d x3.l x3.sgs ++ (chD x4.a x4.d x4.l x4.sgs ++ (chD x5.a x5.d x5.l x5.sgs ++ (chD x6.a x6.d x6.l x6.sgs ++ (chD x7.a x7.d x7.l x7.sgs ++ (chD x8.a x8.d x8.l x8.sgs ++ (chD x9.a x9.d x9.l x9.sgs ++ (genD A Le it3 Lg gobj g2 nm ++ ([(lst, .seq c_list [])] : DM)))))))))))))) 0 0 [(g2, genC w.params A Le it3 Lg co), (A.g, .running)] 0 (cond b2 J10_h2 J10_h) []) [4, 5, 6, 7, 8, 9, 10, 11, 12, 13, 14, 15, 16, 17, 18, 19, 20, 21, 22, 23, 24, 25]
    ((.pure (.done (.ret (.str ⟨⟨[x0.sg, x1.sg, x2.sg, x3.sg, x4.sg, x5.sg, x6.sg, x7.sg, x8.sg, x9.sg]⟩⟩ (T + 20)))) : Sem Fin)) (cJoinB tk gobj) (fsJ w.params A k6 Ls cc Le 0 0) ((A.ct, .arr c_list #[.ref x0.a, .ref x1.a, .ref x2.a, .ref x3.a, .ref x4.a, .ref x5.a, .ref x6.a, .ref x7.a, .ref x8.a, .ref x9.a]) :: (chD x0.a x0.d x0.l x0.sgs ++ (chD x1.a x1.d x1.l x1.sgs ++ (chD x2.a x2.d x2.l x2.sgs ++ (chD x3.a x3.d x3.l x3.sgs ++ (chD x4.a x4.d x4.l x4.sgs ++ (chD x5.a x5.d x5.l x5.sgs ++ (chD x6.a x6.d x6.l x6.sgs ++ (chD x7.a x7.d x7.l x7.sgs ++ (chD x8.a x8.d x8.l x8.sgs ++ (chD x9.a x9.d x9.l x9.sgs ++ (leD A Le nm)))))))))))) [(A.g, .running)] := by
  cases b1 <;> cases b2 <;> (rw [iadd_is]; unfold PySem.W.Fast.tw8938917530802602619; rw [same_ne hne]; unfold EndsQ; kernel_rfl)
theorem J10 (w : World) (s₀ : Shared) (b1 b2 : Bool) (Y : Sys (K5 w s₀ b1 b2)) (A : LA) (k6 : Result → Sem Fin) (Ls cc Le it3 Lg gobj g2 co lst : Addr) (p0 : Pos) (tk : Tok) (nm : Str) (x0 x1 x2 x3 x4 x5 x6 x7 x8 x9 : Ch) (hne : lst ≠ gobj)  {L : DM} {s : Shared} {p : Pos} (S : StD (K5 w s₀ b1 b2) ((A.ct, .arr c_list #[.ref x0.a, .ref x1.a, .ref x2.a, .ref x3.a, .ref x4.a, .ref x5.a, .ref x6.a, .ref x7.a, .ref x8.a, .ref x9.a]) :: (chD x0.a x0.d x0.l x0.sgs ++ (chD x1.a x1.d x1.l x1.sgs ++ (chD x2.a x2.d x2.l x2.sgs ++ (chD x3.a x3.d x3.l x3.sgs ++ (chD x4.a x4.d x4.l x4.sgs ++ (chD x5.a x5.d x5.l x5.sgs ++ (chD x6.a x6.d x6.l x6.sgs ++ (chD x7.a x7.d x7.l x7.sgs ++ (chD x8.a x8.d x8.l x8.sgs ++ (chD x9.a x9.d x9.l x9.sgs ++ (genD A Le it3 Lg gobj g2 nm ++ ([(lst, .seq c_list [])] : DM)))))))))))) ++ L) [(g2, genC w.params A Le it3 Lg co), (A.g, .running)] s)
    (next : ∀ (τ : Nat → Nat → Tok) (N T G : Nat) (s' : Shared) (p' : Pos), (K5 w s₀ b1 b2).B ≤ N → N ≤ s'.heap.objs.size → StD (K5 w s₀ b1 b2) ((A.ct, .arr c_list #[.ref x0.a, .ref x1.a, .ref x2.a, .ref x3.a, .ref x4.a, .ref x5.a, .ref x6.a, .ref x7.a, .ref x8.a, .ref x9.a]) :: (chD x0.a x0.d x0.l x0.sgs ++ (chD x1.a x1.d x1.l x1.sgs ++ (chD x2.a x2.d x2.l x2.sgs ++ (chD x3.a x3.d x3.l x3.sgs ++ (chD x4.a x4.d x4.l x4.sgs ++ (chD x5.a x5.d x5.l x5.sgs ++ (chD x6.a x6.d x6.l x6.sgs ++ (chD x7.a x7.d x7.l x7.sgs ++ (chD x8.a x8.d x8.l x8.sgs ++ (chD x9.a x9.d x9.l x9.sgs ++ (leD A Le nm))))))))))) ++ L) [(A.g, .running)] s' → Y.H s' ⟨(.pure (.done (.ret (.str ⟨⟨[x0.sg, x1.sg, x2.sg, x3.sg, x4.sg, x5.sg, x6.sg, x7.sg, x8.sg, x9.sg]⟩⟩ (T + 20)))) : Sem Fin), cJoinB tk gobj, p', fsJ w.params A k6 Ls cc Le 0 0⟩) : Y.H s ⟨denF (cIadd lst gobj), cIadd lst gobj, p, fsI w.params A k6 Ls cc Le p0 tk gobj⟩ :=
  Y.seg (t' := fun τ N T G => (.pure (.done (.ret (.str ⟨⟨[x0.sg, x1.sg, x2.sg, x3.sg, x4.sg, x5.sg, x6.sg, x7.sg, x8.sg, x9.sg]⟩⟩ (T + 20)))) : Sem Fin)) (c' := fun N T G => cJoinB tk gobj) (fs' := fun N T G => fsJ w.params A k6 Ls cc Le 0 0) (d' := fun N T G => (A.ct, .arr c_list #[.ref x0.a, .ref x1.a, .ref x2.a, .ref x3.a, .ref x4.a, .ref x5.a, .ref x6.a, .ref x7.a, .ref x8.a, .ref x9.a]) :: (chD x0.a x0.d x0.l x0.sgs ++ (chD x1.a x1.d x1.l x1.sgs ++ (chD x2.a x2.d x2.l x2.sgs ++ (chD x3.a x3.d x3.l x3.sgs ++ (chD x4.a x4.d x4.l x4.sgs ++ (chD x5.a x5.d x5.l x5.sgs ++ (chD x6.a x6.d x6.l x6.sgs ++ (chD x7.a x7.d x7.l x7.sgs ++ (chD x8.a x8.d x8.l x8.sgs ++ (chD x9.a x9.d x9.l x9.sgs ++ (leD A Le nm)))))))))))) (gm' := fun N T G => [(A.g, .running)]) S (by decide) (J10_sp w s₀ b1 b2 A k6 Ls cc Le it3 Lg gobj g2 co lst p0 tk nm x0 x1 x2 x3 x4 x5 x6 x7 x8 x9) (J10_r w s₀ b1 b2 A k6 Ls cc Le it3 Lg gobj g2 co lst p0 tk nm x0 x1 x2 x3 x4 x5 x6 x7 x8 x9 hne p) (fun τ ν N T G => AllOk.nil) next

noncomputable def J11_h : List Hint := [.o 26, .o 26, .o 26, .o 26, .o 26, .o 26, .o 26, .o 27, .o 27, .o 27, .o 27, .o 27, .o 27, .o 26, .o 26, .o 26, .o 0, .b, .o 0, .o 24, .o 24, .o 24, .o 24, .o 24, .o 24, .o 24, .o 24, .o 0, .o 24, .o 24, .o 25, .o 25, .o 25, .o 1, .b, .b, .b, .o 1, .b, .b, .b, .o 1, .o 1, .b, .o 2, .o 0, .o 27, .o 27, .o 27, .o 26, .o 26, .o 26, .o 0, .b, .o 0, .o 24, .o 24, .o 24, .o 24, .o 0, .o 24, .o 24, .o 25, .o 25, .o 25, .o 3, .b, .b, .b, .o 3, .b, .b, .b, .o 3, .o 3, .b, .o 4, .o 0, .o 27, .o 27, .o 27, .o 26, .o 26, .o 26, .o 0, .b, .o 0, .o 24, .o 24, .o 24, .o 24, .o 0, .o 24, .o 24, .o 25, .o 25, .o 25, .o 5, .b, .b, .b, .o 5, .b, .b, .b, .o 5, .o 5, .b, .o 6, .o 0, .o 27, .o 27, .o 27, .o 26, .o 26, .o 26, .o 0, .b, .o 0, .o 24, .o 24, .o 24, .o 24, .o 0, .o 24, .o 24, .o 25, .o 25, .o 25, .o 7, .b, .b, .b, .o 7, .b, .b, .b, .o 7, .o 7, .b, .o 8, .o 0, .o 27, .o 27, .o 27, .o 26, .o 26, .o 26, .o 0, .b, .o 0, .o 24, .o 24, .o 24, .o 24, .o 0, .o 24, .o 24, .o 25, .o 25, .o 25, .o 9, .b, .b, .b, .o 9, .b, .b, .b, .o 9, .o 9, .b, .o 10, .o 0, .o 27, .o 27, .o 27, .o 26, .o 26, .o 26, .o 0, .b, .o 0, .o 24, .o 24, .o 24, .o 24, .o 0, .o 24, .o 24, .o 25, .o 25, .o 25, .o 11, .b, .b, .b, .o 11, .b, .b, .b, .o 11, .o 11, .b, .o 12, .o 0, .o 27, .o 27, .o 27, .o 26, .o 26, .o 26, .o 0, .b, .o 0, .o 24, .o 24, .o 24, .o 24, .o 0, .o 24, .o 24, .o 25, .o 25, .o 25, .o 13, .b, .b, .b, .o 13, .b, .b, .b, .o 13, .o 13, .b, .o 14, .o 0, .o 27, .o 27, .o 27, .o 26, .o 26, .o 26, .o 0, .b, .o 0, .o 24, .o 24, .o 24, .o 24, .o 0, .o 24, .o 24, .o 25, .o 25, .o 25, .o 15, .b, .b, .b, .o 15, .b, .b, .b, .o 15, .o 15, .b, .o 16, .o 0, .o 27, .o 27, .o 27, .o 26, .o 26, .o 26, .o 0, .b, .o 0, .o 24, .o 24, .o 24, .o 24, .o 0, .o 24, .o 24, .o 25, .o 25, .o 25, .o 17, .b, .b, .b, .o 17, .b, .b, .b, .o 17, .o 17, .b, .o 18, .o 0, .o 27, .o 27, .o 27, .o 26, .o 26, .o 26, .o 0, .b, .o 0, .o 24, .o 24, .o 24, .o 24, .o 0, .o 24, .o 24, .o 25, .o 25, .o 25, .o 19, .b, .b, .b, .o 19, .b, .b, .b, .o 19, .o 19, .b, .o 20, .o 0, .o 27, .o 27, .o 27, .o 26, .o 26, .o 26, .o 0, .b, .o 0, .o 24, .o 24, .o 24, .o 24, .o 0, .o 24, .o 24, .o 25, .o 25, .o 25, .o 21, .b, .b, .b, .o 21, .b, .b, .b, .o 21, .o 21, .b, .o 22, .o 0, .o 27, .o 27, .o 27, .o 26, .o 26, .o 26, .o 0, .b, .o 0, .o 24, .o 24, .o 24, .o 24, .o 0, .o 24, .o 24, .o 0, .o 0, .o 0, .o 31]
noncomputable def J11_h2 : List Hint := [.o 26, .o 26, .o 26, .o 26, .o 26, .o 26, .o 26, .o 27, .o 27, .o 27, .o 27, .o 27, .o 27, .o 26, .o 26, .o 26, .o 0, .b, .o 0, .o 24, .o 24, .o 24, .o 24, .o 0, .o 24, .o 24, .o 25, .o 25, .o 25, .o 1, .b, .b, .b, .o 1, .b, .b, .b, .o 1, .o 1, .b, .o 2, .o 0, .o 27, .o 27, .o 27, .o 26, .o 26, .o 26, .o 0, .b, .o 0, .o 24, .o 24, .o 24, .o 24, .o 0, .o 24, .o 24, .o 25, .o 25, .o 25, .o 3, .b, .b, .b, .o 3, .b, .b, .b, .o 3, .o 3, .b, .o 4, .o 0, .o 27, .o 27, .o 27, .o 26, .o 26, .o 26, .o 0, .b, .o 0, .o 24, .o 24, .o 24, .o 24, .o 0, .o 24, .o 24, .o 25, .o 25, .o 25, .o 5, .b, .b, .b, .o 5, .b, .b, .b, .o 5, .o 5, .b, .o 6, .o 0, .o 27, .o 27, .o 27, .o 26, .o 26, .o 26, .o 0, .b, .o 0, .o 24, .o 24, .o 24, .o 24, .o 0, .o 24, .o 24, .o 25, .o 25, .o 25, .o 7, .b, .b, .b, .o 7, .b, .b, .b, .o 7, .o 7, .b, .o 8, .o 0, .o 27, .o 27, .o 27, .o 26, .o 26, .o 26, .o 0, .b, .o 0, .o 24, .o 24, .o 24, .o 24, .o 0, .o 24, .o 24, .o 25, .o 25, .o 25, .o 9, .b, .b, .b, .o 9, .b, .b, .b, .o 9, .o 9, .b, .o 10, .o 0, .o 27, .o 27, .o 27, .o 26, .o 26, .o 26, .o 0, .b, .o 0, .o 24, .o 24, .o 24, .o 24, .o 0, .o 24, .o 24, .o 25, .o 25, .o 25, .o 11, .b, .b, .b, .o 11, .b, .b, .b, .o 11, .o 11, .b, .o 12, .o 0, .o 27, .o 27, .o 27, .o 26, .o 26, .o 26, .o 0, .b, .o 0, .o 24, .o 24, .o 24, .o 24, .o 0, .o 24, .o 24, .o 25, .o 25, .o 25, .o 13, .b, .b, .b, .o 13, .b, .b, .b, .o 13, .o 13, .b, .o 14, .o 0, .o 27, .o 27, .o 27, .o 26, .o 26, .o 26, .o 0, .b, .o 0, .o 24, .o 24, .o 24, .o 24, .o 0, .o 24, .o 24, .o 25, .o 25, .o 25, .o 15, .b, .b, .b, .o 15, .b, .b, .b, .o 15, .o 15, .b, .o 16, .o 0, .o 27, .o 27, .o 27, .o 26, .o 26, .o 26, .o 0, .b, .o 0, .o 24, .o 24, .o 24, .o 24, .o 0, .o 24, .o 24, .o 25, .o 25, .o 25, .o 17, .b, .b, .b, .o 17, .b, .b, .b, .o 17, .o 17, .b, .o 18, .o 0, .o 27, .o 27, .o 27, .o 26, .o 26, .o 26, .o 0, .b, .o 0, .o 24, .o 24, .o 24, .o 24, .o 0, .o 24, .o 24, .o 25, .o 25, .o 25, .o 19, .b, .b, .b, .o 19, .b, .b, .b, .o 19, .o 19, .b, .o 20, .o 0, .o 27, .o 27, .o 27, .o 26, .o 26, .o 26, .o 0, .b, .o 0, .o 24, .o 24, .o 24, .o 24, .o 0, .o 24, .o 24, .o 25, .o 25, .o 25, .o 21, .b, .b, .b, .o 21, .b, .b, .b, .o 21, .o 21, .b, .o 22, .o 0, .o 27, .o 27, .o 27, .o 26, .o 26, .o 26, .o 0, .b, .o 0, .o 24, .o 24, .o 24, .o 24, .o 0, .o 24, .o 24, .o 0, .o 0, .o 0, .o 31]
noncomputable def J11_sp (w : World) (s₀ : Shared) (b1 b2 : Bool) (A : LA) (k6 : Result → Sem Fin) (Ls cc Le it3 Lg gobj g2 co lst : Addr) (p0 : Pos) (tk : Tok) (nm : Str) (x0 x1 x2 x3 x4 x5 x6 x7 x8 x9 x10 : Ch) (τ : Nat → Nat → Tok) (ν : Nat → Nat) (N T G : Nat) : List Spec := []
theorem J11_r (w : World) (s₀ : Shared) (b1 b2 : Bool) (A : LA) (k6 : Result → Sem Fin) (Ls cc Le it3 Lg gobj g2 co lst : Addr) (p0 : Pos) (tk : Tok) (nm : Str) (x0 x1 x2 x3 x4 x5 x6 x7 x8 x9 x10 : Ch) (hne : lst ≠ gobj) (p : Pos) (τ : Nat → Nat → Tok) (ν : Nat → Nat) (N T G : Nat) :
  EndsQ w.params (run ((K5 w s₀ b1 b2).V [] N T G (J11_sp w s₀ b1 b2 A k6 Ls cc Le it3 Lg gobj g2 co lst p0 tk nm x0 x1 x2 x3 x4 x5 x6 x7 x8 x9 x10 τ ν N T G)) (cond b2 649 659) (denF (cIadd lst gobj)) (cIadd lst gobj) p (fsI w.params A k6 Ls cc Le p0 tk gobj) (memOf w.params τ ν 0 ((A.ct, .arr c_list #[.ref x0.a, .ref x1.a, .ref x2.a, .ref x3.a, .ref x4.a, .ref x5.a, .ref x6.a, .ref x7.a, .ref x8.a, .ref x9.a, .ref x10.a]) :: (chD x0.a x0.d x0.l x0.sgs ++ (chD x1.a x1.d x1.l x1.sgs ++ (chD x2.a x2.d x2.l x2.sgs ++ (chD x3.a x3.d x3.l x3.sgs ++ (chD x4.a x4.d x4.l x4.sgs ++ (chD x5.a x5.d x5.l x5.sgs ++ (chD x6.a x6.d x6.l x6.sgs ++ (chD x7.a x7.d x7.l x7.sgs ++ (chD x8.a x8.d x8.l x8.sgs ++ (chD x9.a x9.d x9.l x9.sgs ++ (chD x10.a x10.d x10.l x10.sgs ++ (genD A Le it3 Lg gobj g2 nm ++ ([(lst, .seq c_list [])] : DM))))))))))))))) 0 0 [(g2, genC w.params A Le it3 Lg co), (A.g, .running)] 0 (cond b2 J11_h2 J11_h) []) [4, 5, 6, 7, 8, 9, 10, 11, 12, 13, 14, 15, 16, 17, 18, 19, 20, 21, 22, 23, 24, 25, 26, 27]
    ((.pure (.done (.ret (.str ⟨⟨[x0.sg, x1.sg, x2.sg, x3.sg, x4.sg, x5.sg, x6.sg, x7.sg, x8.sg, x9.sg, x10.sg]⟩⟩ (T + 22)))) : Sem Fin)) (cJoinB tk gobj) (fsJ w.params A k6 Ls cc Le 0 0) ((A.ct, .arr c_list #[.ref x0.a, .ref x1.a, .ref x2.a, .ref x3.a, .ref x4.a, .ref x5.a, .ref x6.a, .ref x7.a, .ref x8.a, .ref x9.a, .ref x10.a]) :: (chD x0.a x0.d x0.l x0.sgs ++ (chD x1.a x1.d x1.l x1.sgs ++ (chD x2.a x2.d x2.l x2.sgs ++ (chD x3.a x3.d x3.l x3.sgs ++ (chD x4.a x4.d x4.l x4.sgs ++ (chD x5.a x5.d x5.l x5.sgs ++ (chD x6.a x6.d x6.l x6.sgs ++ (chD x7.a x7.d x7.l x7.sgs ++ (chD x8.a x8.d x8.l x8.sgs ++ (chD x9.a x9.d x9.l x9.sgs ++ (chD x10.a x10.d x10.l x10.sgs ++ (leD A Le nm))))))))))))) [(A.g, .running)] := by
  cases b1 <;> cases b2 <;> (rw [iadd_is]; unfold PySem.W.Fast.tw8938917530802602619; rw [same_ne hne]; unfold EndsQ; kernel_rfl)
theorem J11 (w : World) (s₀ : Shared) (b1 b2 : Bool) (Y : Sys (K5 w s₀ b1 b2)) (A : LA) (k6 : Result → Sem Fin) (Ls cc Le it3 Lg gobj g2 co lst : Addr) (p0 : Pos) (tk : Tok) (nm : Str) (x0 x1 x2 x3 x4 x5 x6 x7 x8 x9 x10 : Ch) (hne : lst ≠ gobj)  {L : DM} {s : Shared} {p : Pos} (S : StD (K5 w s₀ b1 b2) ((A.ct, .arr c_list #[.ref x0.a, .ref x1.a, .ref x2.a, .ref x3.a, .ref x4.a, .ref x5.a, .ref x6.a, .ref x7.a, .ref x8.a, .ref x9.a, .ref x10.a]) :: (chD x0.a x0.d x0.l x0.sgs ++ (chD x1.a x1.d x1.l x1.sgs ++ (chD x2.a x2.d x2.l x2.sgs ++ (chD x3.a x3.d x3.l x3.sgs ++ (chD x4.a x4.d x4.l x4.sgs ++ (chD x5.a x5.d x5.l x5.sgs ++ (chD x6.a x6.d x6.l x6.sgs ++ (chD x7.a x7.d x7.l x7.sgs ++ (chD x8.a x8.d x8.l x8.sgs ++ (chD x9.a x9.d x9.l x9.sgs ++ (chD x10.a x10.d x10.l x10.sgs ++ (genD A Le it3 Lg gobj g2 nm ++ ([(lst, .seq c_list [])] : DM))))))))))))) ++ L) [(g2, genC w.params A Le it3 Lg co), (A.g, .running)] s)
    (next : ∀ (τ : Nat → Nat → Tok) (N T G : Nat) (s' : Shared) (p' : Pos), (K5 w s₀ b1 b2).B ≤ N → N ≤ s'.heap.objs.size → StD (K5 w s₀ b1 b2) ((A.ct, .arr c_list #[.ref x0.a, .ref x1.a, .ref x2.a, .ref x3.a, .ref x4.a, .ref x5.a, .ref x6.a, .ref x7.a, .ref x8.a, .ref x9.a, .ref x10.a]) :: (chD x0.a x0.d x0.l x0.sgs ++ (chD x1.a x1.d x1.l x1.sgs ++ (chD x2.a x2.d x2.l x2.sgs ++ (chD x3.a x3.d x3.l x3.sgs ++ (chD x4.a x4.d x4.l x4.sgs ++ (chD x5.a x5.d x5.l x5.sgs ++ (chD x6.a x6.d x6.l x6.sgs ++ (chD x7.a x7.d x7.l x7.sgs ++ (chD x8.a x8.d x8.l x8.sgs ++ (chD x9.a x9.d x9.l x9.sgs ++ (chD x10.a x10.d x10.l x10.sgs ++ (leD A Le nm)))))))))))) ++ L) [(A.g, .running)] s' → Y.H s' ⟨(.pure (.done (.ret (.str ⟨⟨[x0.sg, x1.sg, x2.sg, x3.sg, x4.sg, x5.sg, x6.sg, x7.sg, x8.sg, x9.sg, x10.sg]⟩⟩ (T + 22)))) : Sem Fin), cJoinB tk gobj, p', fsJ w.params A k6 Ls cc Le 0 0⟩) : Y.H s ⟨denF (cIadd lst gobj), cIadd lst gobj, p, fsI w.params A k6 Ls cc Le p0 tk gobj⟩ :=
  Y.seg (t' := fun τ N T G => (.pure (.done (.ret (.str ⟨⟨[x0.sg, x1.sg, x2.sg, x3.sg, x4.sg, x5.sg, x6.sg, x7.sg, x8.sg, x9.sg, x10.sg]⟩⟩ (T + 22)))) : Sem Fin)) (c' := fun N T G => cJoinB tk gobj) (fs' := fun N T G => fsJ w.params A k6 Ls cc Le 0 0) (d' := fun N T G => (A.ct, .arr c_list #[.ref x0.a, .ref x1.a, .ref x2.a, .ref x3.a, .ref x4.a, .ref x5.a, .ref x6.a, .ref x7.a, .ref x8.a, .ref x9.a, .ref x10.a]) :: (chD x0.a x0.d x0.l x0.sgs ++ (chD x1.a x1.d x1.l x1.sgs ++ (chD x2.a x2.d x2.l x2.sgs ++ (chD x3.a x3.d x3.l x3.sgs ++ (chD x4.a x4.d x4.l x4.sgs ++ (chD x5.a x5.d x5.l x5.sgs ++ (chD x6.a x6.d x6.l x6.sgs ++ (chD x7.a x7.d x7.l x7.sgs ++ (chD x8.a x8.d x8.l x8.sgs ++ (chD x9.a x9.d x9.l x9.sgs ++ (chD x10.a x10.d x10.l x10.sgs ++ (leD A Le nm))))))))))))) (gm' := fun N T G => [(A.g, .running)]) S (by decide) (J11_sp w s₀ b1 b2 A k6 Ls cc Le it3 Lg gobj g2 co lst p0 tk nm x0 x1 x2 x3 x4 x5 x6 x7 x8 x9 x10) (J11_r w s₀ b1 b2 A k6 Ls cc Le it3 Lg gobj g2 co lst p0 tk nm x0 x1 x2 x3 x4 x5 x6 x7 x8 x9 x10 hne p) (fun τ ν N T G => AllOk.nil) next

noncomputable def J12_h : List Hint := [.o 28, .o 28, .o 28, .o 28, .o 28, .o 28, .o 28, .o 29, .o 29, .o 29, .o 29, .o 29, .o 29, .o 28, .o 28, .o 28, .o 0, .b, .o 0, .o 26, .o 26, .o 26, .o 26, .o 26, .o 26, .o 26, .o 26, .o 0, .o 26, .o 26, .o 27, .o 27, .o 27, .o 1, .b, .b, .b, .o 1, .b, .b, .b, .o 1, .o 1, .b, .o 2, .o 0, .o 29, .o 29, .o 29, .o 28, .o 28, .o 28, .o 0, .b, .o 0, .o 26, .o 26, .o 26, .o 26, .o 0, .o 26, .o 26, .o 27, .o 27, .o 27, .o 3, .b, .b, .b, .o 3, .b, .b, .b, .o 3, .o 3, .b, .o 4, .o 0, .o 29, .o 29, .o 29, .o 28, .o 28, .o 28, .o 0, .b, .o 0, .o 26, .o 26, .o 26, .o 26, .o 0, .o 26, .o 26, .o 27, .o 27, .o 27, .o 5, .b, .b, .b, .o 5, .b, .b, .b, .o 5, .o 5, .b, .o 6, .o 0, .o 29, .o 29, .o 29, .o 28, .o 28, .o 28, .o 0, .b, .o 0, .o 26, .o 26, .o 26, .o 26, .o 0, .o 26, .o 26, .o 27, .o 27, .o 27, .o 7, .b, .b, .b, .o 7, .b, .b, .b, .o 7, .o 7, .b, .o 8, .o 0, .o 29, .o 29, .o 29, .o 28, .o 28, .o 28, .o 0, .b, .o 0, .o 26, .o 26, .o 26, .o 26, .o 0, .o 26, .o 26, .o 27, .o 27, .o 27, .o 9, .b, .b, .b, .o 9, .b, .b, .b, .o 9, .o 9, .b, .o 10, .o 0, .o 29, .o 29, .o 29, .o 28, .o 28, .o 28, .o 0, .b, .o 0, .o 26, .o 26, .o 26, .o 26, .o 0, .o 26, .o 26, .o 27, .o 27, .o 27, .o 11, .b, .b, .b, .o 11, .b, .b, .b, .o 11, .o 11, .b, .o 12, .o 0, .o 29, .o 29, .o 29, .o 28, .o 28, .o 28, .o 0, .b, .o 0, .o 26, .o 26, .o 26, .o 26, .o 0, .o 26, .o 26, .o 27, .o 27, .o 27, .o 13, .b, .b, .b, .o 13, .b, .b, .b, .o 13, .o 13, .b, .o 14, .o 0, .o 29, .o 29, .o 29, .o 28, .o 28, .o 28, .o 0, .b, .o 0, .o 26, .o 26, .o 26, .o 26, .o 0, .o 26, .o 26, .o 27, .o 27, .o 27, .o 15, .b, .b, .b, .o 15, .b, .b, .b, .o 15, .o 15, .b, .o 16, .o 0, .o 29, .o 29, .o 29, .o 28, .o 28, .o 28, .o 0, .b, .o 0, .o 26, .o 26, .o 26, .o 26, .o 0, .o 26, .o 26, .o 27, .o 27, .o 27, .o 17, .b, .b, .b, .o 17, .b, .b, .b, .o 17, .o 17, .b, .o 18, .o 0, .o 29, .o 29, .o 29, .o 28, .o 28, .o 28, .o 0, .b, .o 0, .o 26, .o 26, .o 26, .o 26, .o 0, .o 26, .o 26, .o 27, .o 27, .o 27, .o 19, .b, .b, .b, .o 19, .b, .b, .b, .o 19, .o 19, .b, .o 20, .o 0, .o 29, .o 29, .o 29, .o 28, .o 28, .o 28, .o 0, .b, .o 0, .o 26, .o 26, .o 26, .o 26, .o 0, .o 26, .o 26, .o 27, .o 27, .o 27, .o 21, .b, .b, .b, .o 21, .b, .b, .b, .o 21, .o 21, .b, .o 22, .o 0, .o 29, .o 29, .o 29, .o 28, .o 28, .o 28, .o 0, .b, .o 0, .o 26, .o 26, .o 26, .o 26, .o 0, .o 26, .o 26, .o 27, .o 27, .o 27, .o 23, .b, .b, .b, .o 23, .b, .b, .b, .o 23, .o 23, .b, .o 24, .o 0, .o 29, .o 29, .o 29, .o 28, .o 28, .o 28, .o 0, .b, .o 0, .o 26, .o 26, .o 26, .o 26, .o 0, .o 26, .o 26, .o 0, .o 0, .o 0, .o 33]
noncomputable def J12_h2 : List Hint := [.o 28, .o 28, .o 28, .o 28, .o 28, .o 28, .o 28, .o 29, .o 29, .o 29, .o 29, .o 29, .o 29, .o 28, .o 28, .o 28, .o 0, .b, .o 0, .o 26, .o 26, .o 26, .o 26, .o 0, .o 26, .o 26, .o 27, .o 27, .o 27, .o 1, .b, .b, .b, .o 1, .b, .b, .b, .o 1, .o 1, .b, .o 2, .o 0, .o 29, .o 29, .o 29, .o 28, .o 28, .o 28, .o 0, .b, .o 0, .o 26, .o 26, .o 26, .o 26, .o 0, .o 26, .o 26, .o 27, .o 27, .o 27, .o 3, .b, .b, .b, .o 3, .b, .b, .b, .o 3, .o 3, .b, .o 4, .o 0, .o 29, .o 29, .o 29, .o 28, .o 28, .o 28, .o 0, .b, .o 0, .o 26, .o 26, .o 26, .o 26, .o 0, .o 26, .o 26, .o 27, .o 27, .o 27, .o 5, .b, .b, .b, .o 5, .b, .b, .b, .o 5, .o 5, .b, .o 6, .o 0, .o 29, .o 29, .o 29, .o 28, .o 28, .o 28, .o 0, .b, .o 0, .o 26, .o 26, .o 26, .o 26, .o 0, .o 26, .o 26, .o 27, .o 27, .o 27, .o 7, .b, .b, .b, .o 7, .b, .b, .b, .o 7, .o 7, .b, .o 8, .o 0, .o 29, .o 29, .o 29, .o 28, .o 28, .o 28, .o 0, .b, .o 0, .o 26, .o 26, .o 26, .o 26, .o 0, .o 26, .o 26, .o 27, .o 27, .o 27, .o 9, .b, .b, .b, .o 9, .b, .b, .b, .o 9, .o 9, .b, .o 10, .o 0, .o 29, .o 29, .o 29, .o 28, .o 28, .o 28, .o 0, .b, .o 0, .o 26, .o 26, .o 26, .o 26, .o 0, .o 26, .o 26, .o 27, .o 27, .o 27, .o 11, .b, .b, .b, .o 11, .b, .b, .b, .o 11, .o 11, .b, .o 12, .o 0, .o 29, .o 29, .o 29, .o 28, .o 28, .o 28, .o 0, .b, .o 0, .o 26, .o 26, .o 26, .o 26, .o 0, .o 26, .o 26, .o 27, .o 27, .o 27, .o 13, .b, .b, .b, .o 13, .b, .b, .b, .o 13, .o 13, .b, .o 14, .o 0, .o 29, .o 29, .o 29, .o 28, .o 28, .o 28, .o 0, .b, .o 0, .o 26, .o 26, .o 26, .o 26, .o 0, .o 26, .o 26, .o 27, .o 27, .o 27, .o 15, .b, .b, .b, .o 15, .b, .b, .b, .o 15, .o 15, .b, .o 16, .o 0, .o 29, .o 29, .o 29, .o 28, .o 28, .o 28, .o 0, .b, .o 0, .o 26, .o 26, .o 26, .o 26, .o 0, .o 26, .o 26, .o 27, .o 27, .o 27, .o 17, .b, .b, .b, .o 17, .b, .b, .b, .o 17, .o 17, .b, .o 18, .o 0, .o 29, .o 29, .o 29, .o 28, .o 28, .o 28, .o 0, .b, .o 0, .o 26, .o 26, .o 26, .o 26, .o 0, .o 26, .o 26, .o 27, .o 27, .o 27, .o 19, .b, .b, .b, .o 19, .b, .b, .b, .o 19, .o 19, .b, .o 20, .o 0, .o 29, .o 29, .o 29, .o 28, .o 28, .o 28, .o 0, .b, .o 0, .o 26, .o 26, .o 26, .o 26, .o 0, .o 26, .o 26, .o 27, .o 27, .o 27, .o 21, .b, .b, .b, .o 21, .b, .b, .b, .o 21, .o 21, .b, .o 22, .o 0, .o 29, .o 29, .o 29, .o 28, .o 28, .o 28, .o 0, .b, .o 0, .o 26, .o 26, .o 26, .o 26, .o 0, .o 26, .o 26, .o 27, .o 27, .o 27, .o 23, .b, .b, .b, .o 23, .b, .b, .b, .o 23, .o 23, .b, .o 24, .o 0, .o 29, .o 29, .o 29, .o 28, .o 28, .o 28, .o 0, .b, .o 0, .o 26, .o 26, .o 26, .o 26, .o 0, .o 26, .o 26, .o 0, .o 0, .o 0, .o 33]
noncomputable def J12_sp (w : World) (s₀ : Shared) (b1 b2 : Bool) (A : LA) (k6 : Result → Sem Fin) (Ls cc Le it3 Lg gobj g2 co lst : Addr) (p0 : Pos) (tk : Tok) (nm : Str) (x0 x1 x2 x3 x4 x5 x6 x7 x8 x9 x10 x11 : Ch) (τ : Nat → Nat → Tok) (ν : Nat → Nat) (N T G : Nat) : List Spec := []
theorem J12_r (w : World) (s₀ : Shared) (b1 b2 : Bool) (A : LA) (k6 : Result → Sem Fin) (Ls cc Le it3 Lg gobj g2 co lst : Addr) (p0 : Pos) (tk : Tok) (nm : Str) (x0 x1 x2 x3 x4 x5 x6 x7 x8 x9 x10 x11 : Ch) (hne : lst ≠ gobj) (p : Pos) (τ : Nat → Nat → Tok) (ν : Nat → Nat) (N T G : Nat) :
  EndsQ w.params (run ((K5 w s₀ b1 b2).V [] N T G (J12_sp w s₀ b1 b2 A k6 Ls cc Le it3 Lg gobj g2 co lst p0 tk nm x0 x1 x2 x3 x4 x5 x6 x7 x8 x9 x10 x11 τ ν N T G)) (cond b2 703 713) (denF (cIadd lst gobj)) (cIadd lst gobj) p (fsI w.params A k6 Ls cc Le p0 tk gobj) (memOf w.params τ ν 0 ((A.ct, .arr c_list #[.ref x0.a, .ref x1.a, .ref x2.a, .ref x3.a, .ref x4.a, .ref x5.a, .ref x6.a, .ref x7.a, .ref x8.a, .ref x9.a, .ref x10.a, .ref x11.a]) :: (chD x0.a x0.d x0.l x0.sgs ++ (chD x1.a x1.d x1.l x1.sgs ++ (chD x2.a x2.d x2.l x2.sgs ++ (chD x3.a x3.d x3.l x3.sgs ++ (chD x4.a x4.d x4.l x4.sgs ++ (chD x5.a x5.d x5.l x5.sgs ++ (chD x6.a x6.d x6.l x6.sgs ++ (chD x7.a x7.d x7.l x7.sgs ++ (chD x8.a x8.d x8.l x8.sgs ++ (chD x9.a x9.d x9.l x9.sgs ++ (chD x10.a x10.d x10.l x10.sgs ++ (chD x11.a x11.d x11.l x11.sgs ++ (genD A Le it3 Lg gobj g2 nm ++ ([(lst, .seq c_list [])] : DM)))))))))))))))) 0 0 [(g2, genC w.params A Le it3 Lg co), (A.g, .running)] 0 (cond b2 J12_h2 J12_h) []) [4, 5, 6, 7, 8, 9, 10, 11, 12, 13, 14, 15, 16, 17, 18, 19, 20, 21, 22, 23, 24, 25, 26, 27, 28, 29]
    ((.pure (.done (.ret (.str ⟨⟨[x0.sg, x1.sg, x2.sg, x3.sg, x4.sg, x5.sg, x6.sg, x7.sg, x8.sg, x9.sg, x10.sg, x11.sg]⟩⟩ (T + 24)))) : Sem Fin)) (cJoinB tk gobj) (fsJ w.params A k6 Ls cc Le 0 0) ((A.ct, .arr c_list #[.ref x0.a, .ref x1.a, .ref x2.a, .ref x3.a, .ref x4.a, .ref x5.a, .ref x6.a, .ref x7.a, .ref x8.a, .ref x9.a, .ref x10.a, .ref x11.a]) :: (chD x0.a x0.d x0.l x0.sgs ++ (chD x1.a x1.d x1.l x1.sgs ++ (chD x2.a x2.d x2.l x2.sgs ++ (chD x3.a x3.d x3.l x3.sgs ++ (chD x4.a x4.d x4.l x4.sgs ++ (chD x5.a x5.d x5.l x5.sgs ++ (chD x6.a x6.d x6.l x6.sgs ++ (chD x7.a x7.d x7.l x7.sgs ++ (chD x8.a x8.d x8.l x8.sgs ++ (chD x9.a x9.d x9.l x9.sgs ++ (chD x10.a x10.d x10.l x10.sgs ++ (chD x11.a x11.d x11.l x11.sgs ++ (leD A Le nm)))))))))))))) [(A.g, .running)] := by
  cases b1 <;> cases b2 <;> (rw [iadd_is]; unfold PySem.W.Fast.tw8938917530802602619; rw [same_ne hne]; unfold EndsQ; kernel_rfl)
theorem J12 (w : World) (s₀ : Shared) (b1 b2 : Bool) (Y : Sys (K5 w s₀ b1 b2)) (A : LA) (k6 : Result → Sem Fin) (Ls cc Le it3 Lg gobj g2 co lst : Addr) (p0 : Pos) (tk : Tok) (nm : Str) (x0 x1 x2 x3 x4 x5 x6 x7 x8 x9 x10 x11 : Ch) (hne : lst ≠ gobj)  {L : DM} {s : Shared} {p : Pos} (S : StD (K5 w s₀ b1 b2) ((A.ct, .arr c_list #[.ref x0.a, .ref x1.a, .ref x2.a, .ref x3.a, .ref x4.a, .ref x5.a, .ref x6.a, .ref x7.a, .ref x8.a, .ref x9.a, .ref x10.a, .ref x11.a]) :: (chD x0.a x0.d x0.l x0.sgs ++ (chD x1.a x1.d x1.l x1.sgs ++ (chD x2.a x2.d x2.l x2.sgs ++ (chD x3.a x3.d x3.l x3.sgs ++ (chD x4.a x4.d x4.l x4.sgs ++ (chD x5.a x5.d x5.l x5.sgs ++ (chD x6.a x6.d x6.l x6.sgs ++ (chD x7.a x7.d x7.l x7.sgs ++ (chD x8.a x8.d x8.l x8.sgs ++ (chD x9.a x9.d x9.l x9.sgs ++ (chD x10.a x10.d x10.l x10.sgs ++ (chD x11.a x11.d x11.l x11.sgs ++ (genD A Le it3 Lg gobj g2 nm ++ ([(lst, .seq c_list [])] : DM)))))))))))))) ++ L) [(g2, genC w.params A Le it3 Lg co), (A.g, .running)] s)
    (next : ∀ (τ : Nat → Nat → Tok) (N T G : Nat) (s' : Shared) (p' : Pos), (K5 w s₀ b1 b2).B ≤ N → N ≤ s'.heap.objs.size → StD (K5 w s₀ b1 b2) ((A.ct, .arr c_list #[.ref x0.a, .ref x1.a, .ref x2.a, .ref x3.a, .ref x4.a, .ref x5.a, .ref x6.a, .ref x7.a, .ref x8.a, .ref x9.a, .ref x10.a, .ref x11.a]) :: (chD x0.a x0.d x0.l x0.sgs ++ (chD x1.a x1.d x1.l x1.sgs ++ (chD x2.a x2.d x2.l x2.sgs ++ (chD x3.a x3.d x3.l x3.sgs ++ (chD x4.a x4.d x4.l x4.sgs ++ (chD x5.a x5.d x5.l x5.sgs ++ (chD x6.a x6.d x6.l x6.sgs ++ (chD x7.a x7.d x7.l x7.sgs ++ (chD x8.a x8.d x8.l x8.sgs ++ (chD x9.a x9.d x9.l x9.sgs ++ (chD x10.a x10.d x10.l x10.sgs ++ (chD x11.a x11.d x11.l x11.sgs ++ (leD A Le nm))))))))))))) ++ L) [(A.g, .running)] s' → Y.H s' ⟨(.pure (.done (.ret (.str ⟨⟨[x0.sg, x1.sg, x2.sg, x3.sg, x4.sg, x5.sg, x6.sg, x7.sg, x8.sg, x9.sg, x10.sg, x11.sg]⟩⟩ (T + 24)))) : Sem Fin), cJoinB tk gobj, p', fsJ w.params A k6 Ls cc Le 0 0⟩) : Y.H s ⟨denF (cIadd lst gobj), cIadd lst gobj, p, fsI w.params A k6 Ls cc Le p0 tk gobj⟩ :=
  Y.seg (t' := fun τ N T G => (.pure (.done (.ret (.str ⟨⟨[x0.sg, x1.sg, x2.sg, x3.sg, x4.sg, x5.sg, x6.sg, x7.sg, x8.sg, x9.sg, x10.sg, x11.sg]⟩⟩ (T + 24)))) : Sem Fin)) (c' := fun N T G => cJoinB tk gobj) (fs' := fun N T G => fsJ w.params A k6 Ls cc Le 0 0) (d' := fun N T G => (A.ct, .arr c_list #[.ref x0.a, .ref x1.a, .ref x2.a, .ref x3.a, .ref x4.a, .ref x5.a, .ref x6.a, .ref x7.a, .ref x8.a, .ref x9.a, .ref x10.a, .ref x11.a]) :: (chD x0.a x0.d x0.l x0.sgs ++ (chD x1.a x1.d x1.l x1.sgs ++ (chD x2.a x2.d x2.l x2.sgs ++ (chD x3.a x3.d x3.l x3.sgs ++ (chD x4.a x4.d x4.l x4.sgs ++ (chD x5.a x5.d x5.l x5.sgs ++ (chD x6.a x6.d x6.l x6.sgs ++ (chD x7.a x7.d x7.l x7.sgs ++ (chD x8.a x8.d x8.l x8.sgs ++ (chD x9.a x9.d x9.l x9.sgs ++ (chD x10.a x10.d x10.l x10.sgs ++ (chD x11.a x11.d x11.l x11.sgs ++ (leD A Le nm)))))))))))))) (gm' := fun N T G => [(A.g, .running)]) S (by decide) (J12_sp w s₀ b1 b2 A k6 Ls cc Le it3 Lg gobj g2 co lst p0 tk nm x0 x1 x2 x3 x4 x5 x6 x7 x8 x9 x10 x11) (J12_r w s₀ b1 b2 A k6 Ls cc Le it3 Lg gobj g2 co lst p0 tk nm x0 x1 x2 x3 x4 x5 x6 x7 x8 x9 x10 x11 hne p) (fun τ ν N T G => AllOk.nil) next

noncomputable def J13_h : List Hint := [.o 30, .o 30, .o 30, .o 30, .o 30, .o 30, .o 30, .o 31, .o 31, .o 31, .o 31, .o 31, .o 31, .o 30, .o 30, .o 30, .o 0, .b, .o 0, .o 28, .o 28, .o 28, .o 28, .o 28, .o 28, .o 28, .o 28, .o 0, .o 28, .o 28, .o 29, .o 29, .o 29, .o 1, .b, .b, .b, .o 1, .b, .b, .b, .o 1, .o 1, .b, .o 2, .o 0, .o 31, .o 31, .o 31, .o 30, .o 30, .o 30, .o 0, .b, .o 0, .o 28, .o 28, .o 28, .o 28, .o 0, .o 28, .o 28, .o 29, .o 29, .o 29, .o 3, .b, .b, .b, .o 3, .b, .b, .b, .o 3, .o 3, .b, .o 4, .o 0, .o 31, .o 31, .o 31, .o 30, .o 30, .o 30, .o 0, .b, .o 0, .o 28, .o 28, .o 28, .o 28, .o 0, .o 28, .o 28, .o 29, .o 29, .o 29, .o 5, .b, .b, .b, .o 5, .b, .b, .b, .o 5, .o 5, .b, .o 6, .o 0, .o 31, .o 31, .o 31, .o 30, .o 30, .o 30, .o 0, .b, .o 0, .o 28, .o 28, .o 28, .o 28, .o 0, .o 28, .o 28, .o 29, .o 29, .o 29, .o 7, .b, .b, .b, .o 7, .b, .b, .b, .o 7, .o 7, .b, .o 8, .o 0, .o 31, .o 31, .o 31, .o 30, .o 30, .o 30, .o 0, .b, .o 0, .o 28, .o 28, .o 28, .o 28, .o 0, .o 28, .o 28, .o 29, .o 29, .o 29, .o 9, .b, .b, .b, .o 9, .b, .b, .b, .o 9, .o 9, .b, .o 10, .o 0, .o 31, .o 31, .o 31, .o 30, .o 30, .o 30, .o 0, .b, .o 0, .o 28, .o 28, .o 28, .o 28, .o 0, .o 28, .o 28, .o 29, .o 29, .o 29, .o 11, .b, .b, .b, .o 11, .b, .b, .b, .o 11, .o 11, .b, .o 12, .o 0, .o 31, .o 31, .o 31, .o 30, .o 30, .o 30, .o 0, .b, .o 0, .o 28, .o 28, .o 28, .o 28, .o 0, .o 28, .o 28, .o 29, .o 29, .o 29, .o 13, .b, .b, .b, .o 13, .b, .b, .b, .o 13, .o 13, .b, .o 14, .o 0, .o 31, .o 31, .o 31, .o 30, .o 30, .o 30, .o 0, .b, .o 0, .o 28, .o 28, .o 28, .o 28, .o 0, .o 28, .o 28, .o 29, .o 29, .o 29, .o 15, .b, .b, .b, .o 15, .b, .b, .b, .o 15, .o 15, .b, .o 16, .o 0, .o 31, .o 31, .o 31, .o 30, .o 30, .o 30, .o 0, .b, .o 0, .o 28, .o 28, .o 28, .o 28, .o 0, .o 28, .o 28, .o 29, .o 29, .o 29, .o 17, .b, .b, .b, .o 17, .b, .b, .b, .o 17, .o 17, .b, .o 18, .o 0, .o 31, .o 31, .o 31, .o 30, .o 30, .o 30, .o 0, .b, .o 0, .o 28, .o 28, .o 28, .o 28, .o 0, .o 28, .o 28, .o 29, .o 29, .o 29, .o 19, .b, .b, .b, .o 19, .b, .b, .b, .o 19, .o 19, .b, .o 20, .o 0, .o 31, .o 31, .o 31, .o 30, .o 30, .o 30, .o 0, .b, .o 0, .o 28, .o 28, .o 28, .o 28, .o 0, .o 28, .o 28, .o 29, .o 29, .o 29, .o 21, .b, .b, .b, .o 21, .b, .b, .b, .o 21, .o 21, .b, .o 22, .o 0, .o 31, .o 31, .o 31, .o 30, .o 30, .o 30, .o 0, .b, .o 0, .o 28, .o 28, .o 28, .o 28, .o 0, .o 28, .o 28, .o 29, .o 29, .o 29, .o 23, .b, .b, .b, .o 23, .b, .b, .b, .o 23, .o 23, .b, .o 24, .o 0, .o 31, .o 31, .o 31, .o 30, .o 30, .o 30, .o 0, .b, .o 0, .o 28, .o 28, .o 28, .o 28, .o 0, .o 28, .o 28, .o 29, .o 29, .o 29, .o 25, .b, .b, .b, .o 25, .b, .b, .b, .o 25, .o 25, .b, .o 26, .o 0, .o 31, .o 31, .o 31, .o 30, .o 30, .o 30, .o 0, .b, .o 0, .o 28, .o 28, .o 28, .o 28, .o 0, .o 28, .o 28, .o 0, .o 0, .o 0, .o 35]
noncomputable def J13_h2 : List Hint := [.o 30, .o 30, .o 30, .o 30, .o 30, .o 30, .o 30, .o 31, .o 31, .o 31, .o 31, .o 31, .o 31, .o 30, .o 30, .o 30, .o 0, .b, .o 0, .o 28, .o 28, .o 28, .o 28, .o 0, .o 28, .o 28, .o 29, .o 29, .o 29, .o 1, .b, .b, .b, .o 1, .b, .b, .b, .o 1, .o 1, .b, .o 2, .o 0, .o 31, .o 31, .o 31, .o 30, .o 30, .o 30, .o 0, .b, .o 0, .o 28, .o 28, .o 28, .o 28, .o 0, .o 28, .o 28, .o 29, .o 29, .o 29, .o 3, .b, .b, .b, .o 3, .b, .b, .b, .o 3, .o 3, .b, .o 4, .o 0, .o 31, .o 31, .o 31, .o 30, .o 30, .o 30, .o 0, .b, .o 0, .o 28, .o 28, .o 28, .o 28, .o 0, .o 28, .o 28, .o 29, .o 29, .o 29, .o 5, .b, .b, .b, .o 5, .b, .b, .b, .o 5, .o 5, .b, .o 6, .o 0, .o 31, .o 31, .o 31, .o 30, .o 30, .o 30, .o 0, .b, .o 0, .o 28, .o 28, .o 28, .o 28, .o 0, .o 28, .o 28, .o 29, .o 29, .o 29, .o 7, .b, .b, .b, .o 7, .b, .b, .b, .o 7, .o 7, .b, .o 8, .o 0, .o 31, .o 31, .o 31, .o 30, .o 30, .o 30, .o 0, .b, .o 0, .o 28, .o 28, .o 28, .o 28, .o 0, .o 28, .o 28, .o 29, .o 29, .o 29, .o 9, .b, .b, .b, .o 9, .b, .b, .b, .o 9, .o 9, .b, .o 10, .o 0, .o 31, .o 31, .o 31, .o 30, .o 30, .o 30, .o 0, .b, .o 0, .o 28, .o 28, .o 28, .o 28, .o 0, .o 28, .o 28, .o 29, .o 29, .o 29, .o 11, .b, .b, .b, .o 11, .b, .b, .b, .o 11, .o 11, .b, .o 12, .o 0, .o 31, .o 31, .o 31, .o 30, .o 30, .o 30, .o 0, .b, .o 0, .o 28, .o 28, .o 28, .o 28, .o 0, .o 28, .o 28, .o 29, .o 29, .o 29, .o 13, .b, .b, .b, .o 13, .b, .b, .b, .o 13, .o 13, .b, .o 14, .o 0, .o 31, .o 31, .o 31, .o 30, .o 30, .o 30, .o 0, .b, .o 0, .o 28, .o 28, .o 28, .o 28, .o 0, .o 28, .o 28, .o 29, .o 29, .o 29, .o 15, .b, .b, .b, .o 15, .b, .b, .b, .o 15, .o 15, .b, .o 16, .o 0, .o 31, .o 31, .o 31, .o 30, .o 30, .o 30, .o 0, .b, .o 0, .o 28, .o 28, .o 28, .o 28, .o 0, .o 28, .o 28, .o 29, .o 29, .o 29, .o 17, .b, .b, .b, .o 17, .b, .b, .b, .o 17, .o 17, .b, .o 18, .o 0, .o 31, .o 31, .o 31, .o 30, .o 30, .o 30, .o 0, .b, .o 0, .o 28, .o 28, .o 28, .o 28, .o 0, .o 28, .o 28, .o 29, .o 29, .o 29, .o 19, .b, .b, .b, .o 19, .b, .b, .b, .o 19, .o 19, .b, .o 20, .o 0, .o 31, .o 31, .o 31, .o 30, .o 30, .o 30, .o 0, .b, .o 0, .o 28, .o 28, .o 28, .o 28, .o 0, .o 28, .o 28, .o 29, .o 29, .o 29, .o 21, .b, .b, .b, .o 21, .b, .b, .b, .o 21, .o 21, .b, .o 22, .o 0, .o 31, .o 31, .o 31, .o 30, .o 30, .o 30, .o 0, .b, .o 0, .o 28, .o 28, .o 28, .o 28, .o 0, .o 28, .o 28, .o 29, .o 29, .o 29, .o 23, .b, .b, .b, .o 23, .b, .b, .b, .o 23, .o 23, .b, .o 24, .o 0, .o 31, .o 31, .o 31, .o 30, .o 30, .o 30, .o 0, .b, .o 0, .o 28, .o 28, .o 28, .o 28, .o 0, .o 28, .o 28, .o 29, .o 29, .o 29, .o 25, .b, .b, .b, .o 25, .b, .b, .b, .o 25, .o 25, .b, .o 26, .o 0, .o 31, .o 31, .o 31, .o 30, .o 30, .o 30, .o 0, .b, .o 0, .o 28, .o 28, .o 28, .o 28, .o 0, .o 28, .o 28, .o 0, .o 0, .o 0, .o 35]
noncomputable def J13_sp (w : World) (s₀ : Shared) (b1 b2 : Bool) (A : LA) (k6 : Result → Sem Fin) (Ls cc Le it3 Lg gobj g2 co lst : Addr) (p0 : Pos) (tk : Tok) (nm : Str) (x0 x1 x2 x3 x4 x5 x6 x7 x8 x9 x10 x11 x12 : Ch) (τ : Nat → Nat → Tok) (ν : Nat → Nat) (N T G : Nat) : List Spec := []
theorem J13_r (w : World) (s₀ : Shared) (b1 b2 : Bool) (A : LA) (k6 : Result → Sem Fin) (Ls cc Le it3 Lg gobj g2 co lst : Addr) (p0 : Pos) (tk : Tok) (nm : Str) (x0 x1 x2 x3 x4 x5 x6 x7 x8 x9 x10 x11 x12 : Ch) (hne : lst ≠ gobj) (p : Pos) (τ : Nat → Nat → Tok) (ν : Nat → Nat) (N T G : Nat) :
  EndsQ w.params (run ((K5 w s₀ b1 b2).V [] N T G (J13_sp w s₀ b1 b2 A k6 Ls cc Le it3 Lg gobj g2 co lst p0 tk nm x0 x1 x2 x3 x4 x5 x6 x7 x8 x9 x10 x11 x12 τ ν N T G)) (cond b2 757 767) (denF (cIadd lst gobj)) (cIadd lst gobj) p (fsI w.params A k6 Ls cc Le p0 tk gobj) (memOf w.params τ ν 0 ((A.ct, .arr c_list #[.ref x0.a, .ref x1.a, .ref x2.a, .ref x3.a, .ref x4.a, .ref x5.a, .ref x6.a, .ref x7.a, .ref x8.a, .ref x9.a, .ref x10.a, .ref x11.a, .ref x12.a]) :: (chD x0.a x0.d x0.l x0.sgs ++ (chD x1.a x1.d x1.l x1.sgs ++ (chD x2.a x2.d x2.l x2.sgs ++ (chD x3.a x3.d x3.l x3.sgs ++ (chD x4.a x4.d x4.l x4.sgs ++ (chD x5.a x5.d x5.l x5.sgs ++ (chD x6.a x6.d x6.l x6.sgs ++ (chD x7.a x7.d x7.l x7.sgs ++ (chD x8.a x8.d x8.l x8.sgs ++ (chD x9.a x9.d x9.l x9.sgs ++ (chD x10.a x10.d x10.l x10.sgs ++ (chD x11.a x11.d x11.l x11.sgs ++ (chD x12.a x12.d x12.l x12.sgs ++ (genD A Le it3 Lg gobj g2 nm ++ ([(lst, .seq c_list [])] : DM))))))))))))))))) 0 0 [(g2, genC w.params A Le it3 Lg co), (A.g, .running)] 0 (cond b2 J13_h2 J13_h) []) [4, 5, 6, 7, 8, 9, 10, 11, 12, 13, 14, 15, 16, 17, 18, 19, 20, 21, 22, 23, 24, 25, 26, 27, 28, 29, 30, 31]
    ((.pure (.done (.ret (.str ⟨⟨[x0.sg, x1.sg, x2.sg, x3.sg, x4.sg, x5.sg, x6.sg, x7.sg, x8.sg, x9.sg, x10.sg, x11.sg, x12.sg]⟩⟩ (T + 26)))) : Sem Fin)) (cJoinB tk gobj) (fsJ w.params A k6 Ls cc Le 0 0) ((A.ct, .arr c_list #[.ref x0.a, .ref x1.a, .ref x2.a, .ref x3.a, .ref x4.a, .ref x5.a, .ref x6.a, .ref x7.a, .ref x8.a, .ref x9.a, .ref x10.a, .ref x11.a, .ref x12.a]) :: (chD x0.a x0.d x0.l x0.sgs ++ (chD x1.a x1.d x1.l x1.sgs ++ (chD x2.a x2.d x2.l x2.sgs ++ (chD x3.a x3.d x3.l x3.sgs ++ (chD x4.a x4.d x4.l x4.sgs ++ (chD x5.a x5.d x5.l x5.sgs ++ (chD x6.a x6.d x6.l x6.sgs ++ (chD x7.a x7.d x7.l x7.sgs ++ (chD x8.a x8.d x8.l x8.sgs ++ (chD x9.a x9.d x9.l x9.sgs ++ (chD x10.a x10.d x10.l x10.sgs ++ (chD x11.a x11.d x11.l x11.sgs ++ (chD x12.a x12.d x12.l x12.sgs ++ (leD A Le nm))))))))))))))) [(A.g, .running)] := by
  cases b1 <;> cases b2 <;> (rw [iadd_is]; unfold PySem.W.Fast.tw8938917530802602619; rw [same_ne hne]; unfold EndsQ; kernel_rfl)
theorem J13 (w : World) (s₀ : Shared) (b1 b2 : Bool) (Y : Sys (K5 w s₀ b1 b2)) (A : LA) (k6 : Result → Sem Fin) (Ls cc Le it3 Lg gobj g2 co lst : Addr) (p0 : Pos) (tk : Tok) (nm : Str) (x0 x1 x2 x3 x4 x5 x6 x7 x8 x9 x10 x11 x12 : Ch) (hne : lst ≠ gobj)  {L : DM} {s : Shared} {p : Pos} (S : StD (K5 w s₀ b1 b2) ((A.ct, .arr c_list #[.ref x0.a, .ref x1.a, .ref x2.a, .ref x3.a, .ref x4.a, .ref x5.a, .ref x6.a, .ref x7.a, .ref x8.a, .ref x9.a, .ref x10.a, .ref x11.a, .ref x12.a]) :: (chD x0.a x0.d x0.l x0.sgs ++ (chD x1.a x1.d x1.l x1.sgs ++ (chD x2.a x2.d x2.l x2.sgs ++ (chD x3.a x3.d x3.l x3.sgs ++ (chD x4.a x4.d x4.l x4.sgs ++ (chD x5.a x5.d x5.l x5.sgs ++ (chD x6.a x6.d x6.l x6.sgs ++ (chD x7.a x7.d x7.l x7.sgs ++ (chD x8.a x8.d x8.l x8.sgs ++ (chD x9.a x9.d x9.l x9.sgs ++ (chD x10.a x10.d x10.l x10.sgs ++ (chD x11.a x11.d x11.l x11.sgs ++ (chD x12.a x12.d x12.l x12.sgs ++ (genD A Le it3 Lg gobj g2 nm ++ ([(lst, .seq c_list [])] : DM))))))))))))))) ++ L) [(g2, genC w.params A Le it3 Lg co), (A.g, .running)] s)
    (next : ∀ (τ : Nat → Nat → Tok) (N T G : Nat) (s' : Shared) (p' : Pos), (K5 w s₀ b1 b2).B ≤ N → N ≤ s'.heap.objs.size → StD (K5 w s₀ b1 b2) ((A.ct, .arr c_list #[.ref x0.a, .ref x1.a, .ref x2.a, .ref x3.a, .ref x4.a, .ref x5.a, .ref x6.a, .ref x7.a, .ref x8.a, .ref x9.a, .ref x10.a, .ref x11.a, .ref x12.a]) :: (chD x0.a x0.d x0.l x0.sgs ++ (chD x1.a x1.d x1.l x1.sgs ++ (chD x2.a x2.d x2.l x2.sgs ++ (chD x3.a x3.d x3.l x3.sgs ++ (chD x4.a x4.d x4.l x4.sgs ++ (chD x5.a x5.d x5.l x5.sgs ++ (chD x6.a x6.d x6.l x6.sgs ++ (chD x7.a x7.d x7.l x7.sgs ++ (chD x8.a x8.d x8.l x8.sgs ++ (chD x9.a x9.d x9.l x9.sgs ++ (chD x10.a x10.d x10.l x10.sgs ++ (chD x11.a x11.d x11.l x11.sgs ++ (chD x12.a x12.d x12.l x12.sgs ++ (leD A Le nm)))))))))))))) ++ L) [(A.g, .running)] s' → Y.H s' ⟨(.pure (.done (.ret (.str ⟨⟨[x0.sg, x1.sg, x2.sg, x3.sg, x4.sg, x5.sg, x6.sg, x7.sg, x8.sg, x9.sg, x10.sg, x11.sg, x12.sg]⟩⟩ (T + 26)))) : Sem Fin), cJoinB tk gobj, p', fsJ w.params A k6 Ls cc Le 0 0⟩) : Y.H s ⟨denF (cIadd lst gobj), cIadd lst gobj, p, fsI w.params A k6 Ls cc Le p0 tk gobj⟩ :=
  Y.seg (t' := fun τ N T G => (.pure (.done (.ret (.str ⟨⟨[x0.sg, x1.sg, x2.sg, x3.sg, x4.sg, x5.sg, x6.sg, x7.sg, x8.sg, x9.sg, x10.sg, x11.sg, x12.sg]⟩⟩ (T + 26)))) : Sem Fin)) (c' := fun N T G => cJoinB tk gobj) (fs' := fun N T G => fsJ w.params A k6 Ls cc Le 0 0) (d' := fun N T G => (A.ct, .arr c_list #[.ref x0.a, .ref x1.a, .ref x2.a, .ref x3.a, .ref x4.a, .ref x5.a, .ref x6.a, .ref x7.a, .ref x8.a, .ref x9.a, .ref x10.a, .ref x11.a, .ref x12.a]) :: (chD x0.a x0.d x0.l x0.sgs ++ (chD x1.a x1.d x1.l x1.sgs ++ (chD x2.a x2.d x2.l x2.sgs ++ (chD x3.a x3.d x3.l x3.sgs ++ (chD x4.a x4.d x4.l x4.sgs ++ (chD x5.a x5.d x5.l x5.sgs ++ (chD x6.a x6.d x6.l x6.sgs ++ (chD x7.a x7.d x7.l x7.sgs ++ (chD x8.a x8.d x8.l x8.sgs ++ (chD x9.a x9.d x9.l x9.sgs ++ (chD x10.a x10.d x10.l x10.sgs ++ (chD x11.a x11.d x11.l x11.sgs ++ (chD x12.a x12.d x12.l x12.sgs ++ (leD A Le nm))))))))))))))) (gm' := fun N T G => [(A.g, .running)]) S (by decide) (J13_sp w s₀ b1 b2 A k6 Ls cc Le it3 Lg gobj g2 co lst p0 tk nm x0 x1 x2 x3 x4 x5 x6 x7 x8 x9 x10 x11 x12) (J13_r w s₀ b1 b2 A k6 Ls cc Le it3 Lg gobj g2 co lst p0 tk nm x0 x1 x2 x3 x4 x5 x6 x7 x8 x9 x10 x11 x12 hne p) (fun τ ν N T G => AllOk.nil) next

noncomputable def J14_h : List Hint := [.o 32, .o 32, .o 32, .o 32, .o 32, .o 32, .o 32, .o 33, .o 33, .o 33, .o 33, .o 33, .o 33, .o 32, .o 32, .o 32, .o 0, .b, .o 0, .o 30, .o 30, .o 30, .o 30, .o 30, .o 30, .o 30, .o 30, .o 0, .o 30, .o 30, .o 31, .o 31, .o 31, .o 1, .b, .b, .b, .o 1, .b, .b, .b, .o 1, .o 1, .b, .o 2, .o 0, .o 33, .o 33, .o 33, .o 32, .o 32, .o 32, .o 0, .b, .o 0, .o 30, .o 30, .o 30, .o 30, .o 0, .o 30, .o 30, .o 31, .o 31, .o 31, .o 3, .b, .b, .b, .o 3, .b, .b, .b, .o 3, .o 3, .b, .o 4, .o 0, .o 33, .o 33, .o 33, .o 32, .o 32, .o 32, .o 0, .b, .o 0, .o 30, .o 30, .o 30, .o 30, .o 0, .o 30, .o 30, .o 31, .o 31, .o 31, .o 5, .b, .b, .b, .o 5, .b, .b, .b, .o 5, .o 5, .b, .o 6, .o 0, .o 33, .o 33, .o 33, .o 32, .o 32, .o 32, .o 0, .b, .o 0, .o 30, .o 30, .o 30, .o 30, .o 0, .o 30, .o 30, .o 31, .o 31, .o 31, .o 7, .b, .b, .b, .o 7, .b, .b, .b, .o 7, .o 7, .b, .o 8, .o 0, .o 33, .o 33, .o 33, .o 32, .o 32, .o 32, .o 0, .b, .o 0, .o 30, .o 30, .o 30, .o 30, .o 0, .o 30, .o 30, .o 31, .o 31, .o 31, .o 9, .b, .b, .b, .o 9, .b, .b, .b, .o 9, .o 9, .b, .o 10, .o 0, .o 33, .o 33, .o 33, .o 32, .o 32, .o 32, .o 0, .b, .o 0, .o 30, .o 30, .o 30, .o 30, .o 0, .o 30, .o 30, .o 31, .o 31, .o 31, .o 11, .b, .b, .b, .o 11, .b, .b, .b, .o 11, .o 11, .b, .o 12, .o 0, .o 33, .o 33, .o 33, .o 32, .o 32, .o 32, .o 0, .b, .o 0, .o 30, .o 30, .o 30, .o 30, .o 0, .o 30, .o 30, .o 31, .o 31, .o 31, .o 13, .b, .b, .b, .o 13, .b, .b, .b, .o 13, .o 13, .b, .o 14, .o 0, .o 33, .o 33, .o 33, .o 32, .o 32, .o 32, .o 0, .b, .o 0, .o 30, .o 30, .o 30, .o 30, .o 0, .o 30, .o 30, .o 31, .o 31, .o 31, .o 15, .b, .b, .b, .o 15, .b, .b, .b, .o 15, .o 15, .b, .o 16, .o 0, .o 33, .o 33, .o 33, .o 32, .o 32, .o 32, .o 0, .b, .o 0, .o 30, .o 30, .o 30, .o 30, .o 0, .o 30, .o 30, .o 31, .o 31, .o 31, .o 17, .b, .b, .b, .o 17, .b, .b, .b, .o 17, .o 17, .b, .o 18, .o 0, .o 33, .o 33, .o 33, .o 32, .o 32, .o 32, .o 0, .b, .o 0, .o 30, .o 30, .o 30, .o 30, .o 0, .o 30, .o 30, .o 31, .o 31, .o 31, .o 19, .b, .b, .b, .o 19, .b, .b, .b, .o 19, .o 19, .b, .o 20, .o 0, .o 33, .o 33, .o 33, .o 32, .o 32, .o 32, .o 0, .b, .o 0, .o 30, .o 30, .o 30, .o 30, .o 0, .o 30, .o 30, .o 31, .o 31, .o 31, .o 21, .b, .b, .b, .o 21, .b, .b, .b, .o 21, .o 21, .b, .o 22, .o 0, .o 33, .o 33, .o 33, .o 32, .o 32, .o 32, .o 0, .b, .o 0, .o 30, .o 30, .o 30, .o 30, .o 0, .o 30, .o 30, .o 31, .o 31, .o 31, .o 23, .b, .b, .b, .o 23, .b, .b, .b, .o 23, .o 23, .b, .o 24, .o 0, .o 33, .o 33, .o 33, .o 32, .o 32, .o 32, .o 0, .b, .o 0, .o 30, .o 30, .o 30, .o 30, .o 0, .o 30, .o 30, .o 31, .o 31, .o 31, .o 25, .b, .b, .b, .o 25, .b, .b, .b, .o 25, .o 25, .b, .o 26, .o 0, .o 33, .o 33, .o 33, .o 32, .o 32, .o 32, .o 0, .b, .o 0, .o 30, .o 30, .o 30, .o 30, .o 0, .o 30, .o 30, .o 31, .o 31, .o 31, .o 27, .b, .b, .b, .o 27, .b, .b, .b, .o 27, .o 27, .b, .o 28, .o 0, .o 33, .o 33, .o 33, .o 32, .o 32, .o 32, .o 0, .b, .o 0, .o 30, .o 30, .o 30, .o 30, .o 0, .o 30, .o 30, .o 0, .o 0, .o 0, .o 37]
noncomputable def J14_h2 : List Hint := [.o 32, .o 32, .o 32, .o 32, .o 32, .o 32, .o 32, .o 33, .o 33, .o 33, .o 33, .o 33, .o 33, .o 32, .o 32, .o 32, .o 0, .b, .o 0, .o 30, .o 30, .o 30, .o 30, .o 0, .o 30, .o 30, .o 31, .o 31, .o 31, .o 1, .b, .b, .b, .o 1, .b, .b, .b, .o 1, .o 1, .b, .o 2, .o 0, .o 33, .o 33, .o 33, .o 32, .o 32, .o 32, .o 0, .b, .o 0, .o 30, .o 30, .o 30, .o 30, .o 0, .o 30, .o 30, .o 31, .o 31, .o 31, .o 3, .b, .b, .b, .o 3, .b, .b, .b, .o 3, .o 3, .b, .o 4, .o 0, .o 33, .o 33, .o 33, .o 32, .o 32, .o 32, .o 0, .b, .o 0, .o 30, .o 30, .o 30, .o 30, .o 0, .o 30, .o 30, .o 31, .o 31, .o 31, .o 5, .b, .b, .b, .o 5, .b, .b, .b, .o 5, .o 5, .b, .o 6, .o 0, .o 33, .o 33, .o 33, .o 32, .o 32, .o 32, .o 0, .b, .o 0, .o 30, .o 30, .o 30, .o 30, .o 0, .o 30, .o 30, .o 31, .o 31, .o 31, .o 7, .b, .b, .b, .o 7, .b, .b, .b, .o 7, .o 7, .b, .o 8, .o 0, .o 33, .o 33, .o 33, .o 32, .o 32, .o 32, .o 0, .b, .o 0, .o 30, .o 30, .o 30, .o 30, .o 0, .o 30, .o 30, .o 31, .o 31, .o 31, .o 9, .b, .b, .b, .o 9, .b, .b, .b, .o 9, .o 9, .b, .o 10, .o 0, .o 33, .o 33, .o 33, .o 32, .o 32, .o 32, .o 0, .b, .o 0, .o 30, .o 30, .o 30, .o 30, .o 0, .o 30, .o 30, .o 31, .o 31, .o 31, .o 11, .b, .b, .b, .o 11, .b, .b, .b, .o 11, .o 11, .b, .o 12, .o 0, .o 33, .o 33, .o 33, .o 32, .o 32, .o 32, .o 0, .b, .o 0, .o 30, .o 30, .o 30, .o 30, .o 0, .o 30, .o 30, .o 31, .o 31, .o 31, .o 13, .b, .b, .b, .o 13, .b, .b, .b, .o 13, .o 13, .b, .o 14, .o 0, .o 33, .o 33, .o 33, .o 32, .o 32, .o 32, .o 0, .b, .o 0, .o 30, .o 30, .o 30, .o 30, .o 0, .o 30, .o 30, .o 31, .o 31, .o 31, .o 15, .b, .b, .b, .o 15, .b, .b, .b, .o 15, .o 15, .b, .o 16, .o 0, .o 33, .o 33, .o 33, .o 32, .o 32, .o 32, .o 0, .b, .o 0, .o 30, .o 30, .o 30, .o 30, .o 0, .o 30, .o 30, .o 31, .o 31, .o 31, .o 17, .b, .b, .b, .o 17, .b, .b, .b, .o 17, .o 17, .b, .o 18, .o 0, .o 33, .o 33, .o 33, .o 32, .o 32, .o 32, .o 0, .b, .o 0, .o 30, .o 30, .o 30, .o 30, .o 0, .o 30, .o 30, .o 31, .o 31, .o 31, .o 19, .b, .b, .b, .o 19, .b, .b, .b, .o 19, .o 19, .b, .o 20, .o 0, .o 33, .o 33, .o 33, .o 32, .o 32, .o 32, .o 0, .b, .o 0, .o 30, .o 30, .o 30, .o 30, .o 0, .o 30, .o 30, .o 31, .o 31, .o 31, .o 21, .b, .b, .b, .o 21, .b, .b, .b, .o 21, .o 21, .b, .o 22, .o 0, .o 33, .o 33, .o 33, .o 32, .o 32, .o 32, .o 0, .b, .o 0, .o 30, .o 30, .o 30, .o 30, .o 0, .o 30, .o 30, .o 31, .o 31, .o 31, .o 23, .b, .b, .b, .o 23, .b, .b, .b, .o 23, .o 23, .b, .o 24, .o 0, .o 33, .o 33, .o 33, .o 32, .o 32, .o 32, .o 0, .b, .o 0, .o 30, .o 30, .o 30, .o 30, .o 0, .o 30, .o 30, .o 31, .o 31, .o 31, .o 25, .b, .b, .b, .o 25, .b, .b, .b, .o 25, .o 25, .b, .o 26, .o 0, .o 33, .o 33, .o 33, .o 32, .o 32, .o 32, .o 0, .b, .o 0, .o 30, .o 30, .o 30, .o 30, .o 0, .o 30, .o 30, .o 31, .o 31, .o 31, .o 27, .b, .b, .b, .o 27, .b, .b, .b, .o 27, .o 27, .b, .o 28, .o 0, .o 33, .o 33, .o 33, .o 32, .o 32, .o 32, .o 0, .b, .o 0, .o 30, .o 30, .o 30, .o 30, .o 0, .o 30, .o 30, .o 0, .o 0, .o 0, .o 37]
noncomputable def J14_sp (w : World) (s₀ : Shared) (b1 b2 : Bool) (A : LA) (k6 : Result → Sem Fin) (Ls cc Le it3 Lg gobj g2 co lst : Addr) (p0 : Pos) (tk : Tok) (nm : Str) (x0 x1 x2 x3 x4 x5 x6 x7 x8 x9 x10 x11 x12 x13 : Ch) (τ : Nat → Nat → Tok) (ν : Nat → Nat) (N T G : Nat) : List Spec := []
theorem J14_r (w : World) (s₀ : Shared) (b1 b2 : Bool) (A : LA) (k6 : Result → Sem Fin) (Ls cc Le it3 Lg gobj g2 co lst : Addr) (p0 : Pos) (tk : Tok) (nm : Str) (x0 x1 x2 x3 x4 x5 x6 x7 x8 x9 x10 x11 x12 x13 : Ch) (hne : lst ≠ gobj) (p : Pos) (τ : Nat → Nat → Tok) (ν : Nat → Nat) (N T G : Nat) :
  EndsQ w.params (run ((K5 w s₀ b1 b2).V [] N T G (J14_sp w s₀ b1 b2 A k6 Ls cc Le it3 Lg gobj g2 co lst p0 tk nm x0 x1 x2 x3 x4 x5 x6 x7 x8 x9 x10 x11 x12 x13 τ ν N T G)) (cond b2 811 821) (denF (cIadd lst gobj)) (cIadd lst gobj) p (fsI w.params A k6 Ls cc Le p0 tk gobj) (memOf w.params τ ν 0 ((A.ct, .arr c_list #[.ref x0.a, .ref x1.a, .ref x2.a, .ref x3.a, .ref x4.a, .ref x5.a, .ref x6.a, .ref x7.a, .ref x8.a, .ref x9.a, .ref x10.a, .ref x11.a, .ref x12.a, .ref x13.a]) :: (chD x0.a x0.d x0.l x0.sgs ++ (chD x1.a x1.d x1.l x1.sgs ++ (chD x2.a x2.d x2.l x2.sgs ++ (chD x3.a x3.d x3.l x3.sgs ++ (chD x4.a x4.d x4.l x4.sgs ++ (chD x5.a x5.d x5.l x5.sgs ++ (chD x6.a x6.d x6.l x6.sgs ++ (chD x7.a x7.d x7.l x7.sgs ++ (chD x8.a x8.d x8.l x8.sgs ++ (chD x9.a x9.d x9.l x9.sgs ++ (chD x10.a x10.d x10.l x10.sgs ++ (chD x11.a x11.d x11.l x11.sgs ++ (chD x12.a x12.d x12.l x12.sgs ++ (chD x13.a x13.d x13.l x13.sgs ++ (genD A Le it3 Lg gobj g2 nm ++ ([(lst, .seq c_list [])] : DM)))))))))))))))))) 0 0 [(g2, genC w.params A Le it3 Lg co), (A.g, .running)] 0 (cond b2 J14_h2 J14_h) []) [4, 5, 6, 7, 8, 9, 10, 11, 12, 13, 14, 15, 16, 17, 18, 19, 20, 21, 22, 23, 24, 25, 26, 27, 28, 29, 30, 31, 32, 33]
    ((.pure (.done (.ret (.str ⟨⟨[x0.sg, x1.sg, x2.sg, x3.sg, x4.sg, x5.sg, x6.sg, x7.sg, x8.sg, x9.sg, x10.sg, x11.sg, x12.sg, x13.sg]⟩⟩ (T + 28)))) : Sem Fin)) (cJoinB tk gobj) (fsJ w.params A k6 Ls cc Le 0 0) ((A.ct, .arr c_list #[.ref x0.a, .ref x1.a, .ref x2.a, .ref x3.a, .ref x4.a, .ref x5.a, .ref x6.a, .ref x7.a, .ref x8.a, .ref x9.a, .ref x10.a, .ref x11.a, .ref x12.a, .ref x13.a]) :: (chD x0.a x0.d x0.l x0.sgs ++ (chD x1.a x1.d x1.l x1.sgs ++ (chD x2.a x2.d x2.l x2.sgs ++ (chD x3.a x3.d x3.l x3.sgs ++ (chD x4.a x4.d x4.l x4.sgs ++ (chD x5.a x5.d x5.l x5.sgs ++ (chD x6.a x6.d x6.l x6.sgs ++ (chD x7.a x7.d x7.l x7.sgs ++ (chD x8.a x8.d x8.l x8.sgs ++ (chD x9.a x9.d x9.l x9.sgs ++ (chD x10.a x10.d x10.l x10.sgs ++ (chD x11.a x11.d x11.l x11.sgs ++ (chD x12.a x12.d x12.l x12.sgs ++ (chD x13.a x13.d x13.l x13.sgs ++ (leD A Le nm)))))))))))))))) [(A.g, .running)] := by
  cases b1 <;> cases b2 <;> (rw [iadd_is]; unfold PySem.W.Fast.tw8938917530802602619; rw [same_ne hne]; unfold EndsQ; kernel_rfl)
theorem J14 (w : World) (s₀ : Shared) (b1 b2 : Bool) (Y : Sys (K5 w s₀ b1 b2)) (A : LA) (k6 : Result → Sem Fin) (Ls cc Le it3 Lg gobj g2 co lst : Addr) (p0 : Pos) (tk : Tok) (nm : Str) (x0 x1 x2 x3 x4 x5 x6 x7 x8 x9 x10 x11 x12 x13 : Ch) (hne : lst ≠ gobj)  {L : DM} {s : Shared} {p : Pos} (S : StD (K5 w s₀ b1 b2) ((A.ct, .arr c_list #[.ref x0.a, .ref x1.a, .ref x2.a, .ref x3.a, .ref x4.a, .ref x5.a, .ref x6.a, .ref x7.a, .ref x8.a, .ref x9.a, .ref x10.a, .ref x11.a, .ref x12.a, .ref x13.a]) :: (chD x0.a x0.d x0.l x0.sgs ++ (chD x1.a x1.d x1.l x1.sgs ++ (chD x2.a x2.d x2.l x2.sgs ++ (chD x3.a x3.d x3.l x3.sgs ++ (chD x4.a x4.d x4.l x4.sgs ++ (chD x5.a x5.d x5.l x5.sgs ++ (chD x6.a x6.d x6.l x6.sgs ++ (chD x7.a x7.d x7.l x7.sgs ++ (chD x8.a x8.d x8.l x8.sgs ++ (chD x9.a x9.d x9.l x9.sgs ++ (chD x10.a x10.d x10.l x10.sgs ++ (chD x11.a x11.d x11.l x11.sgs ++ (chD x12.a x12.d x12.l x12.sgs ++ (chD x13.a x13.d x13.l x13.sgs ++ (genD A Le it3 Lg gobj g2 nm ++ ([(lst, .seq c_list [])] : DM)))))))))))))))) ++ L) [(g2, genC w.params A Le it3 Lg co), (A.g, .running)] s)
    (next : ∀ (τ : Nat → Nat → Tok) (N T G : Nat) (s' : Shared) (p' : Pos), (K5 w s₀ b1 b2).B ≤ N → N ≤ s'.heap.objs.size → StD (K5 w s₀ b1 b2) ((A.ct, .arr c_list #[.ref x0.a, .ref x1.a, .ref x2.a, .ref x3.a, .ref x4.a, .ref x5.a, .ref x6.a, .ref x7.a, .ref x8.a, .ref x9.a, .ref x10.a, .ref x11.a, .ref x12.a, .ref x13.a]) :: (chD x0.a x0.d x0.l x0.sgs ++ (chD x1.a x1.d x1.l x1.sgs ++ (chD x2.a x2.d x2.l x2.sgs ++ (chD x3.a x3.d x3.l x3.sgs ++ (chD x4.a x4.d x4.l x4.sgs ++ (chD x5.a x5.d x5.l x5.sgs ++ (chD x6.a x6.d x6.l x6.sgs ++ (chD x7.a x7.d x7.l x7.sgs ++ (chD x8.a x8.d x8.l x8.sgs ++ (chD x9.a x9.d x9.l x9.sgs ++ (chD x10.a x10.d x10.l x10.sgs ++ (chD x11.a x11.d x11.l x11.sgs ++ (chD x12.a x12.d x12.l x12.sgs ++ (chD x13.a x13.d x13.l x13.sgs ++ (leD A Le nm))))))))))))))) ++ L) [(A.g, .running)] s' → Y.H s' ⟨(.pure (.done (.ret (.str ⟨⟨[x0.sg, x1.sg, x2.sg, x3.sg, x4.sg, x5.sg, x6.sg, x7.sg, x8.sg, x9.sg, x10.sg, x11.sg, x12.sg, x13.sg]⟩⟩ (T + 28)))) : Sem Fin), cJoinB tk gobj, p', fsJ w.params A k6 Ls cc Le 0 0⟩) : Y.H s ⟨denF (cIadd lst gobj), cIadd lst gobj, p, fsI w.params A k6 Ls cc Le p0 tk gobj⟩ :=
  Y.seg (t' := fun τ N T G => (.pure (.done (.ret (.str ⟨⟨[x0.sg, x1.sg, x2.sg, x3.sg, x4.sg, x5.sg, x6.sg, x7.sg, x8.sg, x9.sg, x10.sg, x11.sg, x12.sg, x13.sg]⟩⟩ (T + 28)))) : Sem Fin)) (c' := fun N T G => cJoinB tk gobj) (fs' := fun N T G => fsJ w.params A k6 Ls cc Le 0 0) (d' := fun N T G => (A.ct, .arr c_list #[.ref x0.a, .ref x1.a, .ref x2.a, .ref x3.a, .ref x4.a, .ref x5.a, .ref x6.a, .ref x7.a, .ref x8.a, .ref x9.a, .ref x10.a, .ref x11.a, .ref x12.a, .ref x13.a]) :: (chD x0.a x0.d x0.l x0.sgs ++ (chD x1.a x1.d x1.l x1.sgs ++ (chD x2.a x2.d x2.l x2.sgs ++ (chD x3.a x3.d x3.l x3.sgs ++ (chD x4.a x4.d x4.l x4.sgs ++ (chD x5.a x5.d x5.l x5.sgs ++ (chD x6.a x6.d x6.l x6.sgs ++ (chD x7.a x7.d x7.l x7.sgs ++ (chD x8.a x8.d x8.l x8.sgs ++ (chD x9.a x9.d x9.l x9.sgs ++ (chD x10.a x10.d x10.l x10.sgs ++ (chD x11.a x11.d x11.l x11.sgs ++ (chD x12.a x12.d x12.l x12.sgs ++ (chD x13.a x13.d x13.l x13.sgs ++ (leD A Le nm)))))))))))))))) (gm' := fun N T G => [(A.g, .running)]) S (by decide) (J14_sp w s₀ b1 b2 A k6 Ls cc Le it3 Lg gobj g2 co lst p0 tk nm x0 x1 x2 x3 x4 x5 x6 x7 x8 x9 x10 x11 x12 x13) (J14_r w s₀ b1 b2 A k6 Ls cc Le it3 Lg gobj g2 co lst p0 tk nm x0 x1 x2 x3 x4 x5 x6 x7 x8 x9 x10 x11 x12 x13 hne p) (fun τ ν N T G => AllOk.nil) next

noncomputable def J15_h : List Hint := [.o 34, .o 34, .o 34, .o 34, .o 34, .o 34, .o 34, .o 35, .o 35, .o 35, .o 35, .o 35, .o 35, .o 34, .o 34, .o 34, .o 0, .b, .o 0, .o 32, .o 32, .o 32, .o 32, .o 32, .o 32, .o 32, .o 32, .o 0, .o 32, .o 32, .o 33, .o 33, .o 33, .o 1, .b, .b, .b, .o 1, .b, .b, .b, .o 1, .o 1, .b, .o 2, .o 0, .o 35, .o 35, .o 35, .o 34, .o 34, .o 34, .o 0, .b, .o 0, .o 32, .o 32, .o 32, .o 32, .o 0, .o 32, .o 32, .o 33, .o 33, .o 33, .o 3, .b, .b, .b, .o 3, .b, .b, .b, .o 3, .o 3, .b, .o 4, .o 0, .o 35, .o 35, .o 35, .o 34, .o 34, .o 34, .o 0, .b, .o 0, .o 32, .o 32, .o 32, .o 32, .o 0, .o 32, .o 32, .o 33, .o 33, .o 33, .o 5, .b, .b, .b, .o 5, .b, .b, .b, .o 5, .o 5, .b, .o 6, .o 0, .o 35, .o 35, .o 35, .o 34, .o 34, .o 34, .o 0, .b, .o 0, .o 32, .o 32, .o 32, .o 32, .o 0, .o 32, .o 32, .o 33, .o 33, .o 33, .o 7, .b, .b, .b, .o 7, .b, .b, .b, .o 7, .o 7, .b, .o 8, .o 0, .o 35, .o 35, .o 35, .o 34, .o 34, .o 34, .o 0, .b, .o 0, .o 32, .o 32, .o 32, .o 32, .o 0, .o 32, .o 32, .o 33, .o 33, .o 33, .o 9, .b, .b, .b, .o 9, .b, .b, .b, .o 9, .o 9, .b, .o 10, .o 0, .o 35, .o 35, .o 35, .o 34, .o 34, .o 34, .o 0, .b, .o 0, .o 32, .o 32, .o 32, .o 32, .o 0, .o 32, .o 32, .o 33, .o 33, .o 33, .o 11, .b, .b, .b, .o 11, .b, .b, .b, .o 11, .o 11, .b, .o 12, .o 0, .o 35, .o 35, .o 35, .o 34, .o 34, .o 34, .o 0, .b, .o 0, .o 32, .o 32, .o 32, .o 32, .o 0, .o 32, .o 32, .o 33, .o 33, .o 33, .o 13, .b, .b, .b, .o 13, .b, .b, .b, .o 13, .o 13, .b, .o 14, .o 0, .o 35, .o 35, .o 35, .o 34, .o 34, .o 34, .o 0, .b, .o 0, .o 32, .o 32, .o 32, .o 32, .o 0, .o 32, .o 32, .o 33, .o 33, .o 33, .o 15, .b, .b, .b, .o 15, .b, .b, .b, .o 15, .o 15, .b, .o 16, .o 0, .o 35, .o 35, .o 35, .o 34, .o 34, .o 34, .o 0, .b, .o 0, .o 32, .o 32, .o 32, .o 32, .o 0, .o 32, .o 32, .o 33, .o 33, .o 33, .o 17, .b, .b, .b, .o 17, .b, .b, .b, .o 17, .o 17, .b, .o 18, .o 0, .o 35, .o 35, .o 35, .o 34, .o 34, .o 34, .o 0, .b, .o 0, .o 32, .o 32, .o 32, .o 32, .o 0, .o 32, .o 32, .o 33, .o 33, .o 33, .o 19, .b, .b, .b, .o 19, .b, .b, .b, .o 19, .o 19, .b, .o 20, .o 0, .o 35, .o 35, .o 35, .o 34, .o 34, .o 34, .o 0, .b, .o 0, .o 32, .o 32, .o 32, .o 32, .o 0, .o 32, .o 32, .o 33, .o 33, .o 33, .o 21, .b, .b, .b, .o 21, .b, .b, .b, .o 21, .o 21, .b, .o 22, .o 0, .o 35, .o 35, .o 35, .o 34, .o 34, .o 34, .o 0, .b, .o 0, .o 32, .o 32, .o 32, .o 32, .o 0, .o 32, .o 32, .o 33, .o 33, .o 33, .o 23, .b, .b, .b, .o 23, .b, .b, .b, .o 23, .o 23, .b, .o 24, .o 0, .o 35, .o 35, .o 35, .o 34, .o 34, .o 34, .o 0, .b, .o 0, .o 32, .o 32, .o 32, .o 32, .o 0, .o 32, .o 32, .o 33, .o 33, .o 33, .o 25, .b, .b, .b, .o 25, .b, .b, .b, .o 25, .o 25, .b, .o 26, .o 0, .o 35, .o 35, .o 35, .o 34, .o 34, .o 34, .o 0, .b, .o 0, .o 32, .o 32, .o 32, .o 32, .o 0, .o 32, .o 32, .o 33, .o 33, .o 33, .o 27, .b, .b, .b, .o 27, .b, .b, .b, .o 27, .o 27, .b, .o 28, .o 0, .o 35, .o 35, .o 35, .o 34, .o 34, .o 34, .o 0, .b, .o 0, .o 32, .o 32, .o 32, .o 32, .o 0, .o 32, .o 32, .o 33, .o 33, .o 33, .o 29, .b, .b, .b, .o 29, .b, .b, .b, .o 29, .o 29, .b, .o 30, .o 0, .o 35, .o 35, .o 35, .o 34, .o 34, .o 34, .o 0, .b, .o 0, .o 32, .o 32, .o 32, .o 32, .o 0, .o 32, .o 32, .o 0, .o 0, .o 0, .o 39]
noncomputable def J15_h2 : List Hint := [.o 34, .o 34, .o 34, .o 34, .o 34, .o 34, .o 34, .o 35, .o 35, .o 35, .o 35, .o 35, .o 35, .o 34, .o 34, .o 34, .o 0, .b, .o 0, .o 32, .o 32, .o 32, .o 32, .o 0, .o 32, .o 32, .o 33, .o 33, .o 33, .o 1, .b, .b, .b, .o 1, .b, .b, .b, .o 1, .o 1, .b, .o 2, .o 0, .o 35, .o 35, .o 35, .o 34, .o 34, .o 34, .o 0, .b, .o 0, .o 32, .o 32, .o 32, .o 32, .o 0, .o 32, .o 32, .o 33, .o 33, .o 33, .o 3, .b, .b, .b, .o 3, .b, .b, .b, .o 3, .o 3, .b, .o 4, .o 0, .o 35, .o 35, .o 35, .o 34, .o 34, .o 34, .o 0, .b, .o 0, .o 32, .o 32, .o 32, .o 32, .o 0, .o 32, .o 32, .o 33, .o 33, .o 33, .o 5, .b, .b, .b, .o 5, .b, .b, .b, .o 5, .o 5, .b, .o 6, .o 0, .o 35, .o 35, .o 35, .o 34, .o 34, .o 34, .o 0, .b, .o 0, .o 32, .o 32, .o 32, .o 32, .o 0, .o 32, .o 32, .o 33, .o 33, .o 33, .o 7, .b, .b, .b, .o 7, .b, .b, .b, .o 7, .o 7, .b, .o 8, .o 0, .o 35, .o 35, .o 35, .o 34, .o 34, .o 34, .o 0, .b, .o 0, .o 32, .o 32, .o 32, .o 32, .o 0, .o 32, .o 32, .o 33, .o 33, .o 33, .o 9, .b, .b, .b, .o 9, .b, .b, .b, .o 9, .o 9, .b, .o 10, .o 0, .o 35, .o 35, .o 35, .o 34, .o 34, .o 34, .o 0, .b, .o 0, .o 32, .o 32, .o 32, .o 32, .o 0, .o 32, .o 32, .o 33, .o 33, .o 33, .o 11, .b, .b, .b, .o 11, .b, .b, .b, .o 11, .o 11, .b, .o 12, .o 0, .o 35, .o 35, .o 35, .o 34, .o 34, .o 34, .o 0, .b, .o 0, .o 32, .o 32, .o 32, .o 32, .o 0, .o 32, .o 32, .o 33, .o 33, .o 33, .o 13, .b, .b, .b, .o 13, .b, .b, .b, .o 13, .o 13, .b, .o 14, .o 0, .o 35, .o 35, .o 35, .o 34, .o 34, .o 34, .o 0, .b, .o 0, .o 32, .o 32, .o 32, .o 32, .o 0, .o 32, .o 32, .o 33, .o 33, .o 33, .o 15, .b, .b, .b, .o 15, .b, .b, .b, .o 15, .o 15, .b, .o 16, .o 0, .o 35, .o 35, .o 35, .o 34, .o 34, .o 34, .o 0, .b, .o 0, .o 32, .o 32, .o 32, .o 32, .o 0, .o 32, .o 32, .o 33, .o 33, .o 33, .o 17, .b, .b, .b, .o 17, .b, .b, .b, .o 17, .o 17, .b, .o 18, .o 0, .o 35, .o 35, .o 35, .o 34, .o 34, .o 34, .o 0, .b, .o 0, .o 32, .o 32, .o 32, .o 32, .o 0, .o 32, .o 32, .o 33, .o 33, .o 33, .o 19, .b, .b, .b, .o 19, .b, .b, .b, .o 19, .o 19, .b, .o 20, .o 0, .o 35, .o 35, .o 35, .o 34, .o 34, .o 34, .o 0, .b, .o 0, .o 32, .o 32, .o 32, .o 32, .o 0, .o 32, .o 32, .o 33, .o 33, .o 33, .o 21, .b, .b, .b, .o 21, .b, .b, .b, .o 21, .o 21, .b, .o 22, .o 0, .o 35, .o 35, .o 35, .o 34, .o 34, .o 34, .o 0, .b, .o 0, .o 32, .o 32, .o 32, .o 32, .o 0, .o 32, .o 32, .o 33, .o 33, .o 33, .o 23, .b, .b, .b, .o 23, .b, .b, .b, .o 23, .o 23, .b, .o 24, .o 0, .o 35, .o 35, .o 35, .o 34, .o 34, .o 34, .o 0, .b, .o 0, .o 32, .o 32, .o 32, .o 32, .o 0, .o 32, .o 32, .o 33, .o 33, .o 33, .o 25, .b, .b, .b, .o 25, .b, .b, .b, .o 25, .o 25, .b, .o 26, .o 0, .o 35, .o 35, .o 35, .o 34, .o 34, .o 34, .o 0, .b, .o 0, .o 32, .o 32, .o 32, .o 32, .o 0, .o 32, .o 32, .o 33, .o 33, .o 33, .o 27, .b, .b, .b, .o 27, .b, .b, .b, .o 27, .o 27, .b, .o 28, .o 0, .o 35, .o 35, .o 35, .o 34, .o 34, .o 34, .o 0, .b, .o 0, .o 32, .o 32, .o 32, .o 32, .o 0, .o 32, .o 32, .o 33, .o 33, .o 33, .o 29, .b, .b, .b, .o 29, .b, .b, .b, .o 29, .o 29, .b, .o 30, .o 0, .o 35, .o 35, .o 35, .o 34, .o 34, .o 34, .o 0, .b, .o 0, .o 32, .o 32, .o 32, .o 32, .o 0, .o 32, .o 32, .o 0, .o 0, .o 0, .o 39]
noncomputable def J15_sp (w : World) (s₀ : Shared) (b1 b2 : Bool) (A : LA) (k6 : Result → Sem Fin) (Ls cc Le it3 Lg gobj g2 co lst : Addr) (p0 : Pos) (tk : Tok) (nm : Str) (x0 x1 x2 x3 x4 x5 x6 x7 x8 x9 x10 x11 x12 x13 x14 : Ch) (τ : Nat → Nat → Tok) (ν : Nat → Nat) (N T G : Nat) : List Spec := []
theorem J15_r (w : World) (s₀ : Shared) (b1 b2 : Bool) (A : LA) (k6 : Result → Sem Fin) (Ls cc Le it3 Lg gobj g2 co lst : Addr) (p0 : Pos) (tk : Tok) (nm : Str) (x0 x1 x2 x3 x4 x5 x6 x7 x8 x9 x10 x11 x12 x13 x14 : Ch) (hne : lst ≠ gobj) (p : Pos) (τ : Nat → Nat → Tok) (ν : Nat → Nat) (N T G : Nat) :
  EndsQ w.params (run ((K5 w s₀ b1 b2).V [] N T G (J15_sp w s₀ b1 b2 A k6 Ls cc Le it3 Lg gobj g2 co lst p0 tk nm x0 x1 x2 x3 x4 x5 x6 x7 x8 x9 x10 x11 x12 x13 x14 τ ν N T G)) (cond b2 865 875) (denF (cIadd lst gobj)) (cIadd lst gobj) p (fsI w.params A k6 Ls cc Le p0 tk gobj) (memOf w.params τ ν 0 ((A.ct, .arr c_list #[.ref x0.a, .ref x1.a, .ref x2.a, .ref x3.a, .ref x4.a, .ref x5.a, .ref x6.a, .ref x7.a, .ref x8.a, .ref x9.a, .ref x10.a, .ref x11.a, .ref x12.a, .ref x13.a, .ref x14.a]) :: (chD x0.a x0.d x0.l x0.sgs ++ (chD x1.a x1.d x1.l x1.sgs ++ (chD x2.a x2.d x2.l x2.sgs ++ (chD x3.a x3.d x3.l x3.sgs ++ (chD x4.a x4.d x4.l x4.sgs ++ (chD x5.a x5.d x5.l x5.sgs ++ (chD x6.a x6.d x6.l x6.sgs ++ (chD x7.a x7.d x7.l x7.sgs ++ (chD x8.a x8.d x8.l x8.sgs ++ (chD x9.a x9.d x9.l x9.sgs ++ (chD x10.a x10.d x10.l x10.sgs ++ (chD x11.a x11.d x11.l x11.sgs ++ (chD x12.a x12.d x12.l x12.sgs ++ (chD x13.a x13.d x13.l x13.sgs ++ (chD x14.a x14.d x14.l x14.sgs ++ (genD A Le it3 Lg gobj g2 nm ++ ([(lst, .seq c_list [])] : DM))))))))))))))))))) 0 0 [(g2, genC w.params A Le it3 Lg co), (A.g, .running)] 0 (cond b2 J15_h2 J15_h) []) [4, 5, 6, 7, 8, 9, 10, 11, 12, 13, 14, 15, 16, 17, 18, 19, 20, 21, 22, 23, 24, 25, 26, 27, 28, 29, 30, 31, 32, 33, 34, 35]
    ((.pure (.done (.ret (.str ⟨⟨[x0.sg, x1.sg, x2.sg, x3.sg, x4.sg, x5.sg, x6.sg, x7.sg, x8.sg, x9.sg, x10.sg, x11.sg, x12.sg, x13.sg, x14.sg]⟩⟩ (T + 30)))) : Sem Fin)) (cJoinB tk gobj) (fsJ w.params A k6 Ls cc Le 0 0) ((A.ct, .arr c_list #[.ref x0.a, .ref x1.a, .ref x2.a, .ref x3.a, .ref x4.a, .ref x5.a, .ref x6.a, .ref x7.a, .ref x8.a, .ref x9.a, .ref x10.a, .ref x11.a, .ref x12.a, .ref x13.a, .ref x14.a]) :: (chD x0.a x0.d x0.l x0.sgs ++ (chD x1.a x1.d x1.l x1.sgs ++ (chD x2.a x2.d x2.l x2.sgs ++ (chD x3.a x3.d x3.l x3.sgs ++ (chD x4.a x4.d x4.l x4.sgs ++ (chD x5.a x5.d x5.l x5.sgs ++ (chD x6.a x6.d x6.l x6.sgs ++ (chD x7.a x7.d x7.l x7.sgs ++ (chD x8.a x8.d x8.l x8.sgs ++ (chD x9.a x9.d x9.l x9.sgs ++ (chD x10.a x10.d x10.l x10.sgs ++ (chD x11.a x11.d x11.l x11.sgs ++ (chD x12.a x12.d x12.l x12.sgs ++ (chD x13.a x13.d x13.l x13.sgs ++ (chD x14.a x14.d x14.l x14.sgs ++ (leD A Le nm))))))))))))))))) [(A.g, .running)] := by
  cases b1 <;> cases b2 <;> (rw [iadd_is]; unfold PySem.W.Fast.tw8938917530802602619; rw [same_ne hne]; unfold EndsQ; kernel_rfl)
theorem J15 (w : World) (s₀ : Shared) (b1 b2 : Bool) (Y : Sys (K5 w s₀ b1 b2)) (A : LA) (k6 : Result → Sem Fin) (Ls cc Le it3 Lg gobj g2 co lst : Addr) (p0 : Pos) (tk : Tok) (nm : Str) (x0 x1 x2 x3 x4 x5 x6 x7 x8 x9 x10 x11 x12 x13 x14 : Ch) (hne : lst ≠ gobj)  {L : DM} {s : Shared} {p : Pos} (S : StD (K5 w s₀ b1 b2) ((A.ct, .arr c_list #[.ref x0.a, .ref x1.a, .ref x2.a, .ref x3.a, .ref x4.a, .ref x5.a, .ref x6.a, .ref x7.a, .ref x8.a, .ref x9.a, .ref x10.a, .ref x11.a, .ref x12.a, .ref x13.a, .ref x14.a]) :: (chD x0.a x0.d x0.l x0.sgs ++ (chD x1.a x1.d x1.l x1.sgs ++ (chD x2.a x2.d x2.l x2.sgs ++ (chD x3.a x3.d x3.l x3.sgs ++ (chD x4.a x4.d x4.l x4.sgs ++ (chD x5.a x5.d x5.l x5.sgs ++ (chD x6.a x6.d x6.l x6.sgs ++ (chD x7.a x7.d x7.l x7.sgs ++ (chD x8.a x8.d x8.l x8.sgs ++ (chD x9.a x9.d x9.l x9.sgs ++ (chD x10.a x10.d x10.l x10.sgs ++ (chD x11.a x11.d x11.l x11.sgs ++ (chD x12.a x12.d x12.l x12.sgs ++ (chD x13.a x13.d x13.l x13.sgs ++ (chD x14.a x14.d x14.l x14.sgs ++ (genD A Le it3 Lg gobj g2 nm ++ ([(lst, .seq c_list [])] : DM))))))))))))))))) ++ L) [(g2, genC w.params A Le it3 Lg co), (A.g, .running)] s)
    (next : ∀ (τ : Nat → Nat → Tok) (N T G : Nat) (s' : Shared) (p' : Pos), (K5 w s₀ b1 b2).B ≤ N → N ≤ s'.heap.objs.size → StD (K5 w s₀ b1 b2) ((A.ct, .arr c_list #[.ref x0.a, .ref x1.a, .ref x2.a, .ref x3.a, .ref x4.a, .ref x5.a, .ref x6.a, .ref x7.a, .ref x8.a, .ref x9.a, .ref x10.a, .ref x11.a, .ref x12.a, .ref x13.a, .ref x14.a]) :: (chD x0.a x0.d x0.l x0.sgs ++ (chD x1.a x1.d x1.l x1.sgs ++ (chD x2.a x2.d x2.l x2.sgs ++ (chD x3.a x3.d x3.l x3.sgs ++ (chD x4.a x4.d x4.l x4.sgs ++ (chD x5.a x5.d x5.l x5.sgs ++ (chD x6.a x6.d x6.l x6.sgs ++ (chD x7.a x7.d x7.l x7.sgs ++ (chD x8.a x8.d x8.l x8.sgs ++ (chD x9.a x9.d x9.l x9.sgs ++ (chD x10.a x10.d x10.l x10.sgs ++ (chD x11.a x11.d x11.l x11.sgs ++ (chD x12.a x12.d x12.l x12.sgs ++ (chD x13.a x13.d x13.l x13.sgs ++ (chD x14.a x14.d x14.l x14.sgs ++ (leD A Le nm)))))))))))))))) ++ L) [(A.g, .running)] s' → Y.H s' ⟨(.pure (.done (.ret (.str ⟨⟨[x0.sg, x1.sg, x2.sg, x3.sg, x4.sg, x5.sg, x6.sg, x7.sg, x8.sg, x9.sg, x10.sg, x11.sg, x12.sg, x13.sg, x14.sg]⟩⟩ (T + 30)))) : Sem Fin), cJoinB tk gobj, p', fsJ w.params A k6 Ls cc Le 0 0⟩) : Y.H s ⟨denF (cIadd lst gobj), cIadd lst gobj, p, fsI w.params A k6 Ls cc Le p0 tk gobj⟩ :=
  Y.seg (t' := fun τ N T G => (.pure (.done (.ret (.str ⟨⟨[x0.sg, x1.sg, x2.sg, x3.sg, x4.sg, x5.sg, x6.sg, x7.sg, x8.sg, x9.sg, x10.sg, x11.sg, x12.sg, x13.sg, x14.sg]⟩⟩ (T + 30)))) : Sem Fin)) (c' := fun N T G => cJoinB tk gobj) (fs' := fun N T G => fsJ w.params A k6 Ls cc Le 0 0) (d' := fun N T G => (A.ct, .arr c_list #[.ref x0.a, .ref x1.a, .ref x2.a, .ref x3.a, .ref x4.a, .ref x5.a, .ref x6.a, .ref x7.a, .ref x8.a, .ref x9.a, .ref x10.a, .ref x11.a, .ref x12.a, .ref x13.a, .ref x14.a]) :: (chD x0.a x0.d x0.l x0.sgs ++ (chD x1.a x1.d x1.l x1.sgs ++ (chD x2.a x2.d x2.l x2.sgs ++ (chD x3.a x3.d x3.l x3.sgs ++ (chD x4.a x4.d x4.l x4.sgs ++ (chD x5.a x5.d x5.l x5.sgs ++ (chD x6.a x6.d x6.l x6.sgs ++ (chD x7.a x7.d x7.l x7.sgs ++ (chD x8.a x8.d x8.l x8.sgs ++ (chD x9.a x9.d x9.l x9.sgs ++ (chD x10.a x10.d x10.l x10.sgs ++ (chD x11.a x11.d x11.l x11.sgs ++ (chD x12.a x12.d x12.l x12.sgs ++ (chD x13.a x13.d x13.l x13.sgs ++ (chD x14.a x14.d x14.l x14.sgs ++ (leD A Le nm))))))))))))))))) (gm' := fun N T G => [(A.g, .running)]) S (by decide) (J15_sp w s₀ b1 b2 A k6 Ls cc Le it3 Lg gobj g2 co lst p0 tk nm x0 x1 x2 x3 x4 x5 x6 x7 x8 x9 x10 x11 x12 x13 x14) (J15_r w s₀ b1 b2 A k6 Ls cc Le it3 Lg gobj g2 co lst p0 tk nm x0 x1 x2 x3 x4 x5 x6 x7 x8 x9 x10 x11 x12 x13 x14 hne p) (fun τ ν N T G => AllOk.nil) next

noncomputable def J16_h : List Hint := [.o 36, .o 36, .o 36, .o 36, .o 36, .o 36, .o 36, .o 37, .o 37, .o 37, .o 37, .o 37, .o 37, .o 36, .o 36, .o 36, .o 0, .b, .o 0, .o 34, .o 34, .o 34, .o 34, .o 34, .o 34, .o 34, .o 34, .o 0, .o 34, .o 34, .o 35, .o 35, .o 35, .o 1, .b, .b, .b, .o 1, .b, .b, .b, .o 1, .o 1, .b, .o 2, .o 0, .o 37, .o 37, .o 37, .o 36, .o 36, .o 36, .o 0, .b, .o 0, .o 34, .o 34, .o 34, .o 34, .o 0, .o 34, .o 34, .o 35, .o 35, .o 35, .o 3, .b, .b, .b, .o 3, .b, .b, .b, .o 3, .o 3, .b, .o 4, .o 0, .o 37, .o 37, .o 37, .o 36, .o 36, .o 36, .o 0, .b, .o 0, .o 34, .o 34, .o 34, .o 34, .o 0, .o 34, .o 34, .o 35, .o 35, .o 35, .o 5, .b, .b, .b, .o 5, .b, .b, .b, .o 5, .o 5, .b, .o 6, .o 0, .o 37, .o 37, .o 37, .o 36, .o 36, .o 36, .o 0, .b, .o 0, .o 34, .o 34, .o 34, .o 34, .o 0, .o 34, .o 34, .o 35, .o 35, .o 35, .o 7, .b, .b, .b, .o 7, .b, .b, .b, .o 7, .o 7, .b, .o 8, .o 0, .o 37, .o 37, .o 37, .o 36, .o 36, .o 36, .o 0, .b, .o 0, .o 34, .o 34, .o 34, .o 34, .o 0, .o 34, .o 34, .o 35, .o 35, .o 35, .o 9, .b, .b, .b, .o 9, .b, .b, .b, .o 9, .o 9, .b, .o 10, .o 0, .o 37, .o 37, .o 37, .o 36, .o 36, .o 36, .o 0, .b, .o 0, .o 34, .o 34, .o 34, .o 34, .o 0, .o 34, .o 34, .o 35, .o 35, .o 35, .o 11, .b, .b, .b, .o 11, .b, .b, .b, .o 11, .o 11, .b, .o 12, .o 0, .o 37, .o 37, .o 37, .o 36, .o 36, .o 36, .o 0, .b, .o 0, .o 34, .o 34, .o 34, .o 34, .o 0, .o 34, .o 34, .o 35, .o 35, .o 35, .o 13, .b, .b, .b, .o 13, .b, .b, .b, .o 13, .o 13, .b, .o 14, .o 0, .o 37, .o 37, .o 37, .o 36, .o 36, .o 36, .o 0, .b, .o 0, .o 34, .o 34, .o 34, .o 34, .o 0, .o 34, .o 34, .o 35, .o 35, .o 35, .o 15, .b, .b, .b, .o 15, .b, .b, .b, .o 15, .o 15, .b, .o 16, .o 0, .o 37, .o 37, .o 37, .o 36, .o 36, .o 36, .o 0, .b, .o 0, .o 34, .o 34, .o 34, .o 34, .o 0, .o 34, .o 34, .o 35, .o 35, .o 35, .o 17, .b, .b, .b, .o 17, .b, .b, .b, .o 17, .o 17, .b, .o 18, .o 0, .o 37, .o 37, .o 37, .o 36, .o 36, .o 36, .o 0, .b, .o 0, .o 34, .o 34, .o 34, .o 34, .o 0, .o 34, .o 34, .o 35, .o 35, .o 35, .o 19, .b, .b, .b, .o 19, .b, .b, .b, .o 19, .o 19, .b, .o 20, .o 0, .o 37, .o 37, .o 37, .o 36, .o 36, .o 36, .o 0, .b, .o 0, .o 34, .o 34, .o 34, .o 34, .o 0, .o 34, .o 34, .o 35, .o 35, .o 35, .o 21, .b, .b, .b, .o 21, .b, .b, .b, .o 21, .o 21, .b, .o 22, .o 0, .o 37, .o 37, .o 37, .o 36, .o 36, .o 36, .o 0, .b, .o 0, .o 34, .o 34, .o 34, .o 34, .o 0, .o 34, .o 34, .o 35, .o 35, .o 35, .o 23, .b, .b, .b, .o 23, .b, .b, .b, .o 23, .o 23, .b, .o 24, .o 0, .o 37, .o 37, .o 37, .o 36, .o 36, .o 36, .o 0, .b, .o 0, .o 34, .o 34, .o 34, .o 34, .o 0, .o 34, .o 34, .o 35, .o 35, .o 35, .o 25, .b, .b, .b, .o 25, .b, .b, .b, .o 25, .o 25, .b, .o 26, .o 0, .o 37, .o 37, .o 37, .o 36, .o 36, .o 36, .o 0, .b, .o 0, .o 34, .o 34, .o 34, .o 34, .o 0, .o 34, .o 34, .o 35, .o 35, .o 35, .o 27, .b, .b, .b, .o 27, .b, .b, .b, .o 27, .o 27, .b, .o 28, .o 0, .o 37, .o 37, .o 37, .o 36, .o 36, .o 36, .o 0, .b, .o 0, .o 34, .o 34, .o 34, .o 34, .o 0, .o 34, .o 34, .o 35, .o 35, .o 35, .o 29, .b, .b, .b, .o 29, .b, .b, .b, .o 29, .o 29, .b, .o 30, .o 0, .o 37, .o 37, .o 37, .o 36, .o 36, .o 36, .o 0, .b, .o 0, .o 34, .o 34, .o 34, .o 34, .o 0, .o 34, .o 34, .o 35, .o 35, .o 35, .o 31, .b, .b, .b, .o 31, .b, .b, .b, .o 31, .o 31, .b, .o 32, .o 0, .o 37, .o 37, .o 37, .o 36, .o 36, .o 36, .o 0, .b, .o 0, .o 34, .o 34, .o 34, .o 34, .o 0, .o 34, .o 34, .o 0, .o 0, .o 0, .o 41]
noncomputable def J16_h2 : List Hint := [.o 36, .o 36, .o 36, .o 36, .o 36, .o 36, .o 36, .o 37, .o 37, .o 37, .o 37, .o 37, .o 37, .o 36, .o 36, .o 36, .o 0, .b, .o 0, .o 34, .o 34, .o 34, .o 34, .o 0, .o 34, .o 34, .o 35, .o 35, .o 35, .o 1, .b, .b, .b, .o 1, .b, .b, .b, .o 1, .o 1, .b, .o 2, .o 0, .o 37, .o 37, .o 37, .o 36, .o 36, .o 36, .o 0, .b, .o 0, .o 34, .o 34, .o 34, .o 34, .o 0, .o 34, .o 34, .o 35, .o 35, .o 35, .o 3, .b, .b, .b, .o 3, .b, .b, .b, .o 3, .o 3, .b, .o 4, .o 0, .o 37, .o 37, .o 37, .o 36, .o 36, .o 36, .o 0, .b, .o 0, .o 34, .o 34, .o 34, .o 34, .o 0, .o 34, .o 34, .o 35, .o 35, .o 35, .o 5, .b, .b, .b, .o 5, .b, .b, .b, .o 5, .o 5, .b, .o 6, .o 0, .o 37, .o 37, .o 37, .o 36, .o 36, .o 36, .o 0, .b, .o 0, .o 34, .o 34, .o 34, .o 34, .o 0, .o 34, .o 34, .o 35, .o 35, .o 35, .o 7, .b, .b, .b, .o 7, .b, .b, .b, .o 7, .o 7, .b, .o 8, .o 0, .o 37, .o 37, .o 37, .o 36, .o 36, .o 36, .o 0, .b, .o 0, .o 34, .o 34, .o 34, .o 34, .o 0, .o 34, .o 34, .o 35, .o 35, .o 35, .o 9, .b, .b, .b, .o 9, .b, .b, .b, .o 9, .o 9, .b, .o 10, .o 0, .o 37, .o 37, .o 37, .o 36, .o 36, .o 36, .o 0, .b, .o 0, .o 34, .o 34, .o 34, .o 34, .o 0, .o 34, .o 34, .o 35, .o 35, .o 35, .o 11, .b, .b, .b, .o 11, .b, .b, .b, .o 11, .o 11, .b, .o 12, .o 0, .o 37, .o 37, .o 37, .o 36, .o 36, .o 36, .o 0, .b, .o 0, .o 34, .o 34, .o 34, .o 34, .o 0, .o 34, .o 34, .o 35, .o 35, .o 35, .o 13, .b, .b, .b, .o 13, .b, .b, .b, .o 13, .o 13, .b, .o 14, .o 0, .o 37, .o 37, .o 37, .o 36, .o 36, .o 36, .o 0, .b, .o 0, .o 34, .o 34, .o 34, .o 34, .o 0, .o 34, .o 34, .o 35, .o 35, .o 35, .o 15, .b, .b, .b, .o 15, .b, .b, .b, .o 15, .o 15, .b, .o 16, .o 0, .o 37, .o 37, .o 37, .o 36, .o 36, .o 36, .o 0, .b, .o 0, .o 34, .o 34, .o 34, .o 34, .o 0, .o 34, .o 34, .o 35, .o 35, .o 35, .o 17, .b, .b, .b, .o 17, .b, .b, .b, .o 17, .o 17, .b, .o 18, .o 0, .o 37, .o 37, .o 37, .o 36, .o 36, .o 36, .o 0, .b, .o 0, .o 34, .o 34, .o 34, .o 34, .o 0, .o 34, .o 34, .o 35, .o 35, .o 35, .o 19, .b, .b, .b, .o 19, .b, .b, .b, .o 19, .o 19, .b, .o 20, .o 0, .o 37, .o 37, .o 37, .o 36, .o 36, .o 36, .o 0, .b, .o 0, .o 34, .o 34, .o 34, .o 34, .o 0, .o 34, .o 34, .o 35, .o 35, .o 35, .o 21, .b, .b, .b, .o 21, .b, .b, .b, .o 21, .o 21, .b, .o 22, .o 0, .o 37, .o 37, .o 37, .o 36, .o 36, .o 36, .o 0, .b, .o 0, .o 34, .o 34, .o 34, .o 34, .o 0, .o 34, .o 34, .o 35, .o 35, .o 35, .o 23, .b, .b, .b, .o 23, .b, .b, .b, .o 23, .o 23, .b, .o 24, .o 0, .o 37, .o 37, .o 37, .o 36, .o 36, .o 36, .o 0, .b, .o 0, .o 34, .o 34, .o 34, .o 34, .o 0, .o 34, .o 34, .o 35, .o 35, .o 35, .o 25, .b, .b, .b, .o 25, .b, .b, .b, .o 25, .o 25, .b, .o 26, .o 0, .o 37, .o 37, .o 37, .o 36, .o 36, .o 36, .o 0, .b, .o 0, .o 34, .o 34, .o 34, .o 34, .o 0, .o 34, .o 34, .o 35, .o 35, .o 35, .o 27, .b, .b, .b, .o 27, .b, .b, .b, .o 27, .o 27, .b, .o 28, .o 0, .o 37, .o 37, .o 37, .o 36, .o 36, .o 36, .o 0, .b, .o 0, .o 34, .o 34, .o 34, .o 34, .o 0, .o 34, .o 34, .o 35, .o 35, .o 35, .o 29, .b, .b, .b, .o 29, .b, .b, .b, .o 29, .o 29, .b, .o 30, .o 0, .o 37, .o 37, .o 37, .o 36, .o 36, .o 36, .o 0, .b, .o 0, .o 34, .o 34, .o 34, .o 34, .o 0, .o 34, .o 34, .o 35, .o 35, .o 35, .o 31, .b, .b, .b, .o 31, .b, .b, .b, .o 31, .o 31, .b, .o 32, .o 0, .o 37, .o 37, .o 37, .o 36, .o 36, .o 36, .o 0, .b, .o 0, .o 34, .o 34, .o 34, .o 34, .o 0, .o 34, .o 34, .o 0, .o 0, .o 0, .o 41]
noncomputable def J16_sp (w : World) (s₀ : Shared) (b1 b2 : Bool) (A : LA) (k6 : Result → Sem Fin) (Ls cc Le it3 Lg gobj g2 co lst : Addr) (p0 : Pos) (tk : Tok) (nm : Str) (x0 x1 x2 x3 x4 x5 x6 x7 x8 x9 x10 x11 x12 x13 x14 x15 : Ch) (τ : Nat → Nat → Tok) (ν : Nat → Nat) (N T G : Nat) : List Spec := []
theorem J16_r (w : World) (s₀ : Shared) (b1 b2 : Bool) (A : LA) (k6 : Result → Sem Fin) (Ls cc Le it3 Lg gobj g2 co lst : Addr) (p0 : Pos) (tk : Tok) (nm : Str) (x0 x1 x2 x3 x4 x5 x6 x7 x8 x9 x10 x11 x12 x13 x14 x15 : Ch) (hne : lst ≠ gobj) (p : Pos) (τ : Nat → Nat → Tok) (ν : Nat → Nat) (N T G : Nat) :
  EndsQ w.params (run ((K5 w s₀ b1 b2).V [] N T G (J16_sp w s₀ b1 b2 A k6 Ls cc Le it3 Lg gobj g2 co lst p0 tk nm x0 x1 x2 x3 x4 x5 x6 x7 x8 x9 x10 x11 x12 x13 x14 x15 τ ν N T G)) (cond b2 919 929) (denF (cIadd lst gobj)) (cIadd lst gobj) p (fsI w.params A k6 Ls cc Le p0 tk gobj) (memOf w.params τ ν 0 ((A.ct, .arr c_list #[.ref x0.a, .ref x1.a, .ref x2.a, .ref x3.a, .ref x4.a, .ref x5.a, .ref x6.a, .ref x7.a, .ref x8.a, .ref x9.a, .ref x10.a, .ref x11.a, .ref x12.a, .ref x13.a, .ref x14.a, .ref x15.a]) :: (chD x0.a x0.d x0.l x0.sgs ++ (chD x1.a x1.d x1.l x1.sgs ++ (chD x2.a x2.d x2.l x2.sgs ++ (chD x3.a x3.d x3.l x3.sgs ++ (chD x4.a x4.d x4.l x4.sgs ++ (chD x5.a x5.d x5.l x5.sgs ++ (chD x6.a x6.d x6.l x6.sgs ++ (chD x7.a x7.d x7.l x7.sgs ++ (chD x8.a x8.d x8.l x8.sgs ++ (chD x9.a x9.d x9.l x9.sgs ++ (chD x10.a x10.d x10.l x10.sgs ++ (chD x11.a x11.d x11.l x11.sgs ++ (chD x12.a x12.d x12.l x12.sgs ++ (chD x13.a x13.d x13.l x13.sgs ++ (chD x14.a x14.d x14.l x14.sgs ++ (chD x15.a x15.d x15.l x15.sgs ++ (genD A Le it3 Lg gobj g2 nm ++ ([(lst, .seq c_list [])] : DM)))))))))))))))))))) 0 0 [(g2, genC w.params A Le it3 Lg co), (A.g, .running)] 0 (cond b2 J16_h2 J16_h) []) [4, 5, 6, 7, 8, 9, 10, 11, 12, 13, 14, 15, 16, 17, 18, 19, 20, 21, 22, 23, 24, 25, 26, 27, 28, 29, 30, 31, 32, 33, 34, 35, 36, 37]
    ((.pure (.done (.ret (.str ⟨⟨[x0.sg, x1.sg, x2.sg, x3.sg, x4.sg, x5.sg, x6.sg, x7.sg, x8.sg, x9.sg, x10.sg, x11.sg, x12.sg, x13.sg, x14.sg, x15.sg]⟩⟩ (T + 32)))) : Sem Fin)) (cJoinB tk gobj) (fsJ w.params A k6 Ls cc Le 0 0) ((A.ct, .arr c_list #[.ref x0.a, .ref x1.a, .ref x2.a, .ref x3.a, .ref x4.a, .ref x5.a, .ref x6.a, .ref x7.a, .ref x8.a, .ref x9.a, .ref x10.a, .ref x11.a, .ref x12.a, .ref x13.a, .ref x14.a, .ref x15.a]) :: (chD x0.a x0.d x0.l x0.sgs ++ (chD x1.a x1.d x1.l x1.sgs ++ (chD x2.a x2.d x2.l x2.sgs ++ (chD x3.a x3.d x3.l x3.sgs ++ (chD x4.a x4.d x4.l x4.sgs ++ (chD x5.a x5.d x5.l x5.sgs ++ (chD x6.a x6.d x6.l x6.sgs ++ (chD x7.a x7.d x7.l x7.sgs ++ (chD x8.a x8.d x8.l x8.sgs ++ (chD x9.a x9.d x9.l x9.sgs ++ (chD x10.a x10.d x10.l x10.sgs ++ (chD x11.a x11.d x11.l x11.sgs ++ (chD x12.a x12.d x12.l x12.sgs ++ (chD x13.a x13.d x13.l x13.sgs ++ (chD x14.a x14.d x14.l x14.sgs ++ (chD x15.a x15.d x15.l x15.sgs ++ (leD A Le nm)))))))))))))))))) [(A.g, .running)] := by
  cases b1 <;> cases b2 <;> (rw [iadd_is]; unfold PySem.W.Fast.tw8938917530802602619; rw [same_ne hne]; unfold EndsQ; kernel_rfl)
theorem J16 (w : World) (s₀ : Shared) (b1 b2 : Bool) (Y : Sys (K5 w s₀ b1 b2)) (A : LA) (k6 : Result → Sem Fin) (Ls cc Le it3 Lg gobj g2 co lst : Addr) (p0 : Pos) (tk : Tok) (nm : Str) (x0 x1 x2 x3 x4 x5 x6 x7 x8 x9 x10 x11 x12 x13 x14 x15 : Ch) (hne : lst ≠ gobj)  {L : DM} {s : Shared} {p : Pos} (S : StD (K5 w s₀ b1 b2) ((A.ct, .arr c_list #[.ref x0.a, .ref x1.a, .ref x2.a, .ref x3.a, .ref x4.a, .ref x5.a, .ref x6.a, .ref x7.a, .ref x8.a, .ref x9.a, .ref x10.a, .ref x11.a, .ref x12.a, .ref x13.a, .ref x14.a, .ref x15.a]) :: (chD x0.a x0.d x0.l x0.sgs ++ (chD x1.a x1.d x1.l x1.sgs ++ (chD x2.a x2.d x2.l x2.sgs ++ (chD x3.a x3.d x3.l x3.sgs ++ (chD x4.a x4.d x4.l x4.sgs ++ (chD x5.a x5.d x5.l x5.sgs ++ (chD x6.a x6.d x6.l x6.sgs ++ (chD x7.a x7.d x7.l x7.sgs ++ (chD x8.a x8.d x8.l x8.sgs ++ (chD x9.a x9.d x9.l x9.sgs ++ (chD x10.a x10.d x10.l x10.sgs ++ (chD x11.a x11.d x11.l x11.sgs ++ (chD x12.a x12.d x12.l x12.sgs ++ (chD x13.a x13.d x13.l x13.sgs ++ (chD x14.a x14.d x14.l x14.sgs ++ (chD x15.a x15.d x15.l x15.sgs ++ (genD A Le it3 Lg gobj g2 nm ++ ([(lst, .seq c_list [])] : DM)))))))))))))))))) ++ L) [(g2, genC w.params A Le it3 Lg co), (A.g, .running)] s)
    (next : ∀ (τ : Nat → Nat → Tok) (N T G : Nat) (s' : Shared) (p' : Pos), (K5 w s₀ b1 b2).B ≤ N → N ≤ s'.heap.objs.size → StD (K5 w s₀ b1 b2) ((A.ct, .arr c_list #[.ref x0.a, .ref x1.a, .ref x2.a, .ref x3.a, .ref x4.a, .ref x5.a, .ref x6.a, .ref x7.a, .ref x8.a, .ref x9.a, .ref x10.a, .ref x11.a, .ref x12.a, .ref x13.a, .ref x14.a, .ref x15.a]) :: (chD x0.a x0.d x0.l x0.sgs ++ (chD x1.a x1.d x1.l x1.sgs ++ (chD x2.a x2.d x2.l x2.sgs ++ (chD x3.a x3.d x3.l x3.sgs ++ (chD x4.a x4.d x4.l x4.sgs ++ (chD x5.a x5.d x5.l x5.sgs ++ (chD x6.a x6.d x6.l x6.sgs ++ (chD x7.a x7.d x7.l x7.sgs ++ (chD x8.a x8.d x8.l x8.sgs ++ (chD x9.a x9.d x9.l x9.sgs ++ (chD x10.a x10.d x10.l x10.sgs ++ (chD x11.a x11.d x11.l x11.sgs ++ (chD x12.a x12.d x12.l x12.sgs ++ (chD x13.a x13.d x13.l x13.sgs ++ (chD x14.a x14.d x14.l x14.sgs ++ (chD x15.a x15.d x15.l x15.sgs ++ (leD A Le nm))))))))))))))))) ++ L) [(A.g, .running)] s' → Y.H s' ⟨(.pure (.done (.ret (.str ⟨⟨[x0.sg, x1.sg, x2.sg, x3.sg, x4.sg, x5.sg, x6.sg, x7.sg, x8.sg, x9.sg, x10.sg, x11.sg, x12.sg, x13.sg, x14.sg, x15.sg]⟩⟩ (T + 32)))) : Sem Fin), cJoinB tk gobj, p', fsJ w.params A k6 Ls cc Le 0 0⟩) : Y.H s ⟨denF (cIadd lst gobj), cIadd lst gobj, p, fsI w.params A k6 Ls cc Le p0 tk gobj⟩ :=
  Y.seg (t' := fun τ N T G => (.pure (.done (.ret (.str ⟨⟨[x0.sg, x1.sg, x2.sg, x3.sg, x4.sg, x5.sg, x6.sg, x7.sg, x8.sg, x9.sg, x10.sg, x11.sg, x12.sg, x13.sg, x14.sg, x15.sg]⟩⟩ (T + 32)))) : Sem Fin)) (c' := fun N T G => cJoinB tk gobj) (fs' := fun N T G => fsJ w.params A k6 Ls cc Le 0 0) (d' := fun N T G => (A.ct, .arr c_list #[.ref x0.a, .ref x1.a, .ref x2.a, .ref x3.a, .ref x4.a, .ref x5.a, .ref x6.a, .ref x7.a, .ref x8.a, .ref x9.a, .ref x10.a, .ref x11.a, .ref x12.a, .ref x13.a, .ref x14.a, .ref x15.a]) :: (chD x0.a x0.d x0.l x0.sgs ++ (chD x1.a x1.d x1.l x1.sgs ++ (chD x2.a x2.d x2.l x2.sgs ++ (chD x3.a x3.d x3.l x3.sgs ++ (chD x4.a x4.d x4.l x4.sgs ++ (chD x5.a x5.d x5.l x5.sgs ++ (chD x6.a x6.d x6.l x6.sgs ++ (chD x7.a x7.d x7.l x7.sgs ++ (chD x8.a x8.d x8.l x8.sgs ++ (chD x9.a x9.d x9.l x9.sgs ++ (chD x10.a x10.d x10.l x10.sgs ++ (chD x11.a x11.d x11.l x11.sgs ++ (chD x12.a x12.d x12.l x12.sgs ++ (chD x13.a x13.d x13.l x13.sgs ++ (chD x14.a x14.d x14.l x14.sgs ++ (chD x15.a x15.d x15.l x15.sgs ++ (leD A Le nm)))))))))))))))))) (gm' := fun N T G => [(A.g, .running)]) S (by decide) (J16_sp w s₀ b1 b2 A k6 Ls cc Le it3 Lg gobj g2 co lst p0 tk nm x0 x1 x2 x3 x4 x5 x6 x7 x8 x9 x10 x11 x12 x13 x14 x15) (J16_r w s₀ b1 b2 A k6 Ls cc Le it3 Lg gobj g2 co lst p0 tk nm x0 x1 x2 x3 x4 x5 x6 x7 x8 x9 x10 x11 x12 x13 x14 x15 hne p) (fun τ ν N T G => AllOk.nil) next

end Mine
end

section
set_option linter.unusedVariables false
set_option linter.unusedSimpArgs false
set_option maxRecDepth 100000
set_option maxHeartbeats 0
namespace Mine
open PySem PySem.W PySem.W.X

noncomputable def E1_h : List Hint := [.o 16, .o 16, .o 16, .o 1, .b, .b, .b, .o 1, .b, .b, .b, .o 1, .o 1, .b, .o 2, .o 5, .o 5, .o 5, .s 0 0, .o 17, .b, .b, .b, .o 17, .b, .b, .b, .o 17, .o 17, .b, .o 18, .o 16, .o 16, .b, .o 16, .o 16, .o 16, .b, .b, .b, .b, .b, .b, .b, .b, .b, .b, .b, .b, .b, .b, .b, .b, .b, .b, .b, .b, .b, .b, .b, .b, .b, .b, .b, .b, .o 0, .b, .o 0, .b, .b, .b, .b, .b, .b, .o 0, .o 0, .o 0, .o 0, .o 0, .o 0, .o 0, .o 0, .b, .o 0, .o 0, .o 1, .b, .b, .b, .o 1, .b, .o 1, .b, .o 1, .b, .b, .b, .b, .b, .b, .b, .b, .o 1, .b, .b, .b, .b, .b, .o 1, .b, .o 1, .o 0, .o 0, .o 1, .b, .b, .b, .o 1, .b, .o 1, .b, .o 1, .b, .b, .b, .b, .b, .b, .b, .b, .o 1, .b, .b, .b, .b, .b, .o 1, .b, .o 1, .b, .b, .o 0, .b, .o 22, .o 0, .o 0, .o 1, .b, .b, .b, .o 1, .b, .o 1, .b, .o 1, .b, .b, .b, .b, .b, .b, .b, .b, .o 1, .b, .b, .b, .b, .b, .o 1, .b, .o 1, .o 19, .o 19, .o 19, .o 4, .b, .b, .b, .o 4, .b, .b, .b, .o 4, .o 4, .b, .o 5, .o 6, .o 6, .o 6, .o 6, .o 19, .o 6, .o 6, .o 6, .o 6, .o 19, .o 4, .b, .b, .b, .o 4, .b, .b, .b, .o 4, .o 4, .b, .o 5, .o 8, .o 8, .o 8, .o 8, .s 1 0, .o 13, .o 3, .o 3, .o 3, .o 14, .o 14]
noncomputable def E1_sp (w : World) (s₀ : Shared) (b1 b2 : Bool) (A : LA) (v16 : Value) (cs ks got : Array Value) (k6 : Result → Sem Fin) (e : Bool) (k : Nat) (pb : Option Addr) (xs : Array Value) (Ls cc Le gobj : Addr) (tk tk2 : Tok) (nm y : Str) (x : Ch) (τ : Nat → Nat → Tok) (ν : Nat → Nat) (N T G : Nat) : List Spec := [spItem A.ct 5 xs (ν 5) (0) (T + 2) (.ref x.a),
  spClear A.ct 8 xs (ν 5)]
theorem E1_r (w : World) (s₀ : Shared) (b1 b2 : Bool) (A : LA) (v16 : Value) (cs ks got : Array Value) (k6 : Result → Sem Fin) (e : Bool) (k : Nat) (pb : Option Addr) (xs : Array Value) (Ls cc Le gobj : Addr) (tk tk2 : Tok) (nm y : Str) (x : Ch)  (p : Pos) (τ : Nat → Nat → Tok) (ν : Nat → Nat) (N T G : Nat) :
  EndsQ w.params (run ((K5 w s₀ b1 b2).V [] N T G (E1_sp w s₀ b1 b2 A v16 cs ks got k6 e k pb xs Ls cc Le gobj tk tk2 nm y x τ ν N T G)) 382 ((.pure (.done (.ret (.str y tk2))) : Sem Fin)) (cJoinB tk gobj) p (fsJ w.params A k6 Ls cc Le 0 0) (memOf w.params τ ν 0 (lexDM w.params A v16 e k pb xs cs ks got none (.ref A.fst) ++ (leD A Le nm ++ (chD x.a x.d x.l x.sgs ++ locD x)))) 0 0 [(A.g, .running)] 0 E1_h []) [3, 4, 5, 6, 7, 8, 9, 10, 11, 12, 13, 14, 15, 16, 17, 18, 20, 21, 22, 23, 1, 2]
    (denF (cInner w.params A)) (cInner w.params A) (fs0 w.params A k6) (lexDM w.params A v16 e k pb #[] cs ks got (some (N + 1)) (.ref A.fst) ++ (chD x.a x.d x.l x.sgs ++ (locD x ++ tokD (N + 1) (N + 0) nm y x.l))) [(A.g, .running)] := by
  cases pb <;> cases e <;> (unfold EndsQ; kernel_rfl)
theorem E1 (w : World) (s₀ : Shared) (b1 b2 : Bool) (Y : Sys (K5 w s₀ b1 b2)) (A : LA) (v16 : Value) (cs ks got : Array Value) (k6 : Result → Sem Fin) (e : Bool) (k : Nat) (pb : Option Addr) (xs : Array Value) (Ls cc Le gobj : Addr) (tk tk2 : Tok) (nm y : Str) (x : Ch)  (h0 : ItemAt xs (0) (.ref x.a)) (h1 : xs.size ≤ sizeLine) {L : DM} {s : Shared} {p : Pos} (S : StD (K5 w s₀ b1 b2) (lexDM w.params A v16 e k pb xs cs ks got none (.ref A.fst) ++ (leD A Le nm ++ (chD x.a x.d x.l x.sgs ++ locD x)) ++ L) [(A.g, .running)] s)
    (next : ∀ (τ : Nat → Nat → Tok) (N T G : Nat) (s' : Shared) (p' : Pos), (K5 w s₀ b1 b2).B ≤ N → N ≤ s'.heap.objs.size → StD (K5 w s₀ b1 b2) (lexDM w.params A v16 e k pb #[] cs ks got (some (N + 1)) (.ref A.fst) ++ (chD x.a x.d x.l x.sgs ++ (locD x ++ tokD (N + 1) (N + 0) nm y x.l)) ++ L) [(A.g, .running)] s' → Y.H s' ⟨denF (cInner w.params A), cInner w.params A, p', fs0 w.params A k6⟩) : Y.H s ⟨(.pure (.done (.ret (.str y tk2))) : Sem Fin), cJoinB tk gobj, p, fsJ w.params A k6 Ls cc Le 0 0⟩ :=
  Y.seg (t' := fun τ N T G => denF (cInner w.params A)) (c' := fun N T G => cInner w.params A) (fs' := fun N T G => fs0 w.params A k6) (d' := fun N T G => lexDM w.params A v16 e k pb #[] cs ks got (some (N + 1)) (.ref A.fst) ++ (chD x.a x.d x.l x.sgs ++ (locD x ++ tokD (N + 1) (N + 0) nm y x.l))) (gm' := fun N T G => [(A.g, .running)]) S (by decide) (E1_sp w s₀ b1 b2 A v16 cs ks got k6 e k pb xs Ls cc Le gobj tk tk2 nm y x) (E1_r w s₀ b1 b2 A v16 cs ks got k6 e k pb xs Ls cc Le gobj tk tk2 nm y x  p) (fun τ ν N T G => .cons (ok_item _ _ _ _ _ _ _ h0) (.cons (ok_clear _ _ _ _ h1) (AllOk.nil))) next

noncomputable def gotD (u : Addr) (nm y : Str) (x : Ch) : DM := [(u, .seq c_tuple [.str nm, .str y, .int x.row, .int x.col, .str x.file])]

noncomputable def Y0_h : List Hint := [.o 0, .o 1, .b, .b, .b, .o 1, .b, .b, .b, .o 1, .o 1, .b, .o 2, .o 3, .o 3, .o 3, .o 3, .o 3, .o 0, .o 1, .b, .b, .b, .o 1, .b, .b, .b, .o 1, .o 1, .b, .o 2, .o 3, .o 3, .o 3, .o 3, .o 3, .o 3, .o 3, .o 3, .o 3, .o 0, .o 16, .o 16, .o 16, .o 19, .b, .b, .b, .o 19, .b, .b, .b, .b, .b, .b, .b, .b, .b, .b, .b, .o 19, .b, .b, .b, .b, .b, .o 19, .b, .o 19, .o 16, .o 19, .b, .b, .b, .o 19, .b, .b, .b, .b, .b, .b, .b, .b, .b, .b, .b, .o 19, .b, .b, .b, .b, .b, .o 19, .b, .o 19, .o 16, .o 19, .b, .b, .b, .o 19, .b, .b, .b, .b, .b, .b, .b, .b, .b, .b, .b, .o 19, .b, .b, .b, .b, .b, .o 19, .b, .o 19, .o 17, .b, .b, .b, .o 17, .b, .b, .b, .b, .b, .b, .b, .b, .b, .b, .b, .o 17, .b, .b, .b, .b, .b, .o 17, .b, .o 17, .o 16, .o 19, .b, .b, .b, .o 19, .b, .b, .b, .b, .b, .b, .b, .b, .b, .b, .b, .o 19, .b, .b, .b, .b, .b, .o 19, .b, .o 19, .o 17, .b, .b, .b, .o 17, .b, .b, .b, .b, .b, .b, .b, .b, .b, .b, .b, .o 17, .b, .b, .b, .b, .b, .o 17, .b, .o 17, .o 16, .o 19, .b, .b, .b, .o 19, .b, .b, .b, .b, .b, .b, .b, .b, .b, .b, .b, .o 19, .b, .b, .b, .b, .b, .o 19, .b, .o 19, .o 17, .b, .b, .b, .o 17, .b, .b, .b, .b, .b, .b, .b, .b, .b, .b, .b, .o 17, .b, .b, .b, .b, .b, .o 17, .b, .o 17, .s 999 0, .s 0 0, .o 15, .o 15, .o 15, .o 0, .b, .o 0]
noncomputable def Y0_sp (w : World) (s₀ : Shared) (b1 b2 : Bool) (A : LA) (v16 : Value) (cs ks got : Array Value) (k6 : Result → Sem Fin) (e : Bool) (k : Nat) (pb : Option Addr) (tok td : Addr) (nm y : Str) (x : Ch) (τ : Nat → Nat → Tok) (ν : Nat → Nat) (N T G : Nat) : List Spec := [spPush A.acc 16 got (ν 15) (.ref (N + 0))]
theorem Y0_r (w : World) (s₀ : Shared) (b1 b2 : Bool) (A : LA) (v16 : Value) (cs ks got : Array Value) (k6 : Result → Sem Fin) (e : Bool) (k : Nat) (pb : Option Addr) (tok td : Addr) (nm y : Str) (x : Ch)  (p : Pos) (τ : Nat → Nat → Tok) (ν : Nat → Nat) (N T G : Nat) :
  EndsQ w.params (run ((K5 w s₀ b1 b2).V [] N T G (Y0_sp w s₀ b1 b2 A v16 cs ks got k6 e k pb tok td nm y x τ ν N T G)) 391 (denF (cInner w.params A)) (cInner w.params A) p (fs0 w.params A k6) (memOf w.params τ ν 0 (lexDM w.params A v16 e k pb #[] cs ks got (some tok) (.ref A.fst) ++ (adD A none ++ (locD x ++ tokD tok td nm y x.l)))) 0 0 [(A.g, .running)] 0 Y0_h []) [1, 2, 3, 4, 5, 6, 7, 8, 9, 10, 11, 12, 13, 14, 15, 16, 17, 18, 19, 20, 21, 0]
    (denF (cInner w.params A)) (cInner w.params A) (fs0 w.params A k6) (lexDM w.params A v16 e k pb #[] cs ks (got.push (.ref N)) none (.ref A.fst) ++ (adD A (some tok) ++ (locD x ++ (tokD tok td nm y x.l ++ gotD N nm y x)))) [(A.g, .running)] := by
  cases pb <;> cases e <;> (unfold EndsQ; kernel_rfl)
theorem Y0 (w : World) (s₀ : Shared) (b1 b2 : Bool) (Y : Sys (K5 w s₀ b1 b2)) (A : LA) (v16 : Value) (cs ks got : Array Value) (k6 : Result → Sem Fin) (e : Bool) (k : Nat) (pb : Option Addr) (tok td : Addr) (nm y : Str) (x : Ch)  (h0 : got.size ≤ sizeLine) {L : DM} {s : Shared} {p : Pos} (S : StD (K5 w s₀ b1 b2) (lexDM w.params A v16 e k pb #[] cs ks got (some tok) (.ref A.fst) ++ (adD A none ++ (locD x ++ tokD tok td nm y x.l)) ++ L) [(A.g, .running)] s)
    (next : ∀ (τ : Nat → Nat → Tok) (N T G : Nat) (s' : Shared) (p' : Pos), (K5 w s₀ b1 b2).B ≤ N → N ≤ s'.heap.objs.size → StD (K5 w s₀ b1 b2) (lexDM w.params A v16 e k pb #[] cs ks (got.push (.ref N)) none (.ref A.fst) ++ (adD A (some tok) ++ (locD x ++ (tokD tok td nm y x.l ++ gotD N nm y x))) ++ L) [(A.g, .running)] s' → Y.H s' ⟨denF (cInner w.params A), cInner w.params A, p', fs0 w.params A k6⟩) : Y.H s ⟨denF (cInner w.params A), cInner w.params A, p, fs0 w.params A k6⟩ :=
  Y.seg (t' := fun τ N T G => denF (cInner w.params A)) (c' := fun N T G => cInner w.params A) (fs' := fun N T G => fs0 w.params A k6) (d' := fun N T G => lexDM w.params A v16 e k pb #[] cs ks (got.push (.ref N)) none (.ref A.fst) ++ (adD A (some tok) ++ (locD x ++ (tokD tok td nm y x.l ++ gotD N nm y x)))) (gm' := fun N T G => [(A.g, .running)]) S (by decide) (Y0_sp w s₀ b1 b2 A v16 cs ks got k6 e k pb tok td nm y x) (Y0_r w s₀ b1 b2 A v16 cs ks got k6 e k pb tok td nm y x  p) (fun τ ν N T G => .cons (ok1 rfl rfl rfl (sok_push _ _ _ _ _ h0)) (AllOk.nil)) next

noncomputable def Y1_h : List Hint := [.o 0, .o 1, .b, .b, .b, .o 1, .b, .b, .b, .o 1, .o 1, .b, .o 2, .o 3, .o 3, .o 3, .o 3, .o 3, .o 0, .o 1, .b, .b, .b, .o 1, .b, .b, .b, .o 1, .o 1, .b, .o 2, .o 3, .o 3, .o 3, .o 3, .o 3, .o 3, .o 3, .o 3, .o 3, .o 0, .o 16, .o 16, .o 16, .o 19, .b, .b, .b, .o 19, .b, .b, .b, .b, .b, .b, .b, .b, .b, .b, .b, .o 19, .b, .b, .b, .b, .b, .o 19, .b, .o 19, .o 16, .o 19, .b, .b, .b, .o 19, .b, .b, .b, .b, .b, .b, .b, .b, .b, .b, .b, .o 19, .b, .b, .b, .b, .b, .o 19, .b, .o 19, .o 16, .o 19, .b, .b, .b, .o 19, .b, .b, .b, .b, .b, .b, .b, .b, .b, .b, .b, .o 19, .b, .b, .b, .b, .b, .o 19, .b, .o 19, .o 17, .b, .b, .b, .o 17, .b, .b, .b, .b, .b, .b, .b, .b, .b, .b, .b, .o 17, .b, .b, .b, .b, .b, .o 17, .b, .o 17, .o 16, .o 19, .b, .b, .b, .o 19, .b, .b, .b, .b, .b, .b, .b, .b, .b, .b, .b, .o 19, .b, .b, .b, .b, .b, .o 19, .b, .o 19, .o 17, .b, .b, .b, .o 17, .b, .b, .b, .b, .b, .b, .b, .b, .b, .b, .b, .o 17, .b, .b, .b, .b, .b, .o 17, .b, .o 17, .o 16, .o 19, .b, .b, .b, .o 19, .b, .b, .b, .b, .b, .b, .b, .b, .b, .b, .b, .o 19, .b, .b, .b, .b, .b, .o 19, .b, .o 19, .o 17, .b, .b, .b, .o 17, .b, .b, .b, .b, .b, .b, .b, .b, .b, .b, .b, .o 17, .b, .b, .b, .b, .b, .o 17, .b, .o 17, .s 999 0, .s 0 0, .o 15, .o 15, .o 15, .o 0, .b, .o 0]
noncomputable def Y1_sp (w : World) (s₀ : Shared) (b1 b2 : Bool) (A : LA) (v16 : Value) (cs ks got : Array Value) (k6 : Result → Sem Fin) (e : Bool) (k : Nat) (pb : Option Addr) (tok td : Addr) (nm y : Str) (x : Ch) (fr : Addr) (τ : Nat → Nat → Tok) (ν : Nat → Nat) (N T G : Nat) : List Spec := [spPush A.acc 16 got (ν 15) (.ref (N + 0))]
theorem Y1_r (w : World) (s₀ : Shared) (b1 b2 : Bool) (A : LA) (v16 : Value) (cs ks got : Array Value) (k6 : Result → Sem Fin) (e : Bool) (k : Nat) (pb : Option Addr) (tok td : Addr) (nm y : Str) (x : Ch) (fr : Addr)  (p : Pos) (τ : Nat → Nat → Tok) (ν : Nat → Nat) (N T G : Nat) :
  EndsQ w.params (run ((K5 w s₀ b1 b2).V [] N T G (Y1_sp w s₀ b1 b2 A v16 cs ks got k6 e k pb tok td nm y x fr τ ν N T G)) 391 (denF (cInner w.params A)) (cInner w.params A) p (fs0 w.params A k6) (memOf w.params τ ν 0 (lexDM w.params A v16 e k pb #[] cs ks got (some tok) (.ref A.fst) ++ (adD A (some fr) ++ (locD x ++ tokD tok td nm y x.l)))) 0 0 [(A.g, .running)] 0 Y1_h []) [1, 2, 3, 4, 5, 6, 7, 8, 9, 10, 11, 12, 13, 14, 15, 16, 17, 18, 19, 20, 21, 0]
    (denF (cInner w.params A)) (cInner w.params A) (fs0 w.params A k6) (lexDM w.params A v16 e k pb #[] cs ks (got.push (.ref N)) none (.ref A.fst) ++ (adD A (some tok) ++ (locD x ++ (tokD tok td nm y x.l ++ gotD N nm y x)))) [(A.g, .running)] := by
  cases pb <;> cases e <;> (unfold EndsQ; kernel_rfl)
theorem Y1 (w : World) (s₀ : Shared) (b1 b2 : Bool) (Y : Sys (K5 w s₀ b1 b2)) (A : LA) (v16 : Value) (cs ks got : Array Value) (k6 : Result → Sem Fin) (e : Bool) (k : Nat) (pb : Option Addr) (tok td : Addr) (nm y : Str) (x : Ch) (fr : Addr)  (h0 : got.size ≤ sizeLine) {L : DM} {s : Shared} {p : Pos} (S : StD (K5 w s₀ b1 b2) (lexDM w.params A v16 e k pb #[] cs ks got (some tok) (.ref A.fst) ++ (adD A (some fr) ++ (locD x ++ tokD tok td nm y x.l)) ++ L) [(A.g, .running)] s)
    (next : ∀ (τ : Nat → Nat → Tok) (N T G : Nat) (s' : Shared) (p' : Pos), (K5 w s₀ b1 b2).B ≤ N → N ≤ s'.heap.objs.size → StD (K5 w s₀ b1 b2) (lexDM w.params A v16 e k pb #[] cs ks (got.push (.ref N)) none (.ref A.fst) ++ (adD A (some tok) ++ (locD x ++ (tokD tok td nm y x.l ++ gotD N nm y x))) ++ L) [(A.g, .running)] s' → Y.H s' ⟨denF (cInner w.params A), cInner w.params A, p', fs0 w.params A k6⟩) : Y.H s ⟨denF (cInner w.params A), cInner w.params A, p, fs0 w.params A k6⟩ :=
  Y.seg (t' := fun τ N T G => denF (cInner w.params A)) (c' := fun N T G => cInner w.params A) (fs' := fun N T G => fs0 w.params A k6) (d' := fun N T G => lexDM w.params A v16 e k pb #[] cs ks (got.push (.ref N)) none (.ref A.fst) ++ (adD A (some tok) ++ (locD x ++ (tokD tok td nm y x.l ++ gotD N nm y x)))) (gm' := fun N T G => [(A.g, .running)]) S (by decide) (Y1_sp w s₀ b1 b2 A v16 cs ks got k6 e k pb tok td nm y x fr) (Y1_r w s₀ b1 b2 A v16 cs ks got k6 e k pb tok td nm y x fr  p) (fun τ ν N T G => .cons (ok1 rfl rfl rfl (sok_push _ _ _ _ _ h0)) (AllOk.nil)) next

structure LV where
  size : Int
  pl : Int
  nn : Int
  msk : Int
  hh : Str
  pls : Addr
  sgn : Str
  fl : Str
  col : Int
  row : Int

noncomputable def l0E (A : LA) (v : LV) (r tl : SV) : List (List Nat × VD) := [([115, 99, 114, 105, 112, 116], .ref 264), ([110, 117, 109, 98, 101, 114, 115], .ref A.nb), ([115, 105, 122, 101], .int v.size), ([112, 108, 97, 99, 101], .int v.pl), ([110], .int v.nn), ([109, 97, 115, 107], .int v.msk), ([104, 101, 97, 100, 115], .str v.hh), ([114, 117, 110], .raw r.val), ([116, 97, 105, 108], .raw tl.val), ([112, 108, 97, 99, 101, 115], .ref v.pls), ([99, 104, 97, 114, 115], .ref A.cl), ([115, 105, 103, 110], .str v.sgn), ([102, 105, 108, 101], .str v.fl), ([99, 111, 108], .int v.col), ([114, 111, 119], .int v.row)]

noncomputable def l0D0 (A : LA) (v : LV) (r tl : SV) : DM := [(A.L0, .dict c_frame (l0E A v r tl))]
noncomputable def l0D1 (A : LA) (v : LV) (r tl : SV) (du : Addr) : DM := [(A.L0, .dict c_frame (l0E A v r tl ++ [([103, 111, 116], .ref A.acc), ([100, 117, 101], .ref du)]))]
noncomputable def l0D2 (A : LA) (v : LV) (r tl : SV) (du : Addr) (kd : Str) (dr : Bool) (en : Int) : DM := [(A.L0, .dict c_frame (l0E A v r tl ++ [([103, 111, 116], .ref A.acc), ([100, 117, 101], .ref du), ([107, 105, 110, 100], .str kd), ([100, 114, 111, 112, 112, 101, 100], .bool dr), ([101, 110, 100], .int en)]))]
noncomputable def clsD (A : LA) (ks : Array Value) : DM := [(A.ccls, .cell (some (.ref A.kl))), (A.kl, .arr c_list ks)]
noncomputable def accD (A : LA) (got : Array Value) : DM := [(A.acc, .arr c_list got)]

noncomputable def EOF1_h : List Hint := [.o 0, .o 1, .b, .b, .b, .o 1, .b, .b, .b, .o 1, .o 1, .b, .o 2, .o 3, .o 3, .o 3, .o 3, .o 3, .o 0, .o 11, .o 11, .o 12, .b, .o 11, .o 3, .b, .b, .b, .o 3, .b, .b, .b, .o 3, .b, .b, .b, .b, .o 3, .o 4, .b, .b, .b, .b, .o 0, .o 0, .o 0, .o 0, .b, .o 0, .o 4, .b, .b, .b, .o 4, .b, .b, .b, .o 4, .o 4, .b, .o 5, .o 7, .o 7, .o 7, .o 7, .o 7, .b, .b, .o 0, .o 4, .b, .b, .b, .o 4, .b, .b, .b, .o 4, .o 4, .b, .o 5, .o 9, .o 9, .o 9, .o 9, .o 0, .o 2, .o 2, .o 2, .o 2, .o 2, .o 3, .o 3, .o 3, .o 5, .o 5, .o 5, .o 0, .o 0, .o 23, .o 23, .o 25, .o 25, .o 25, .o 24, .o 24, .o 25, .o 25]
noncomputable def EOF1_sp (w : World) (s₀ : Shared) (b1 b2 : Bool) (A : LA) (v16 : Value) (cs ks got : Array Value) (k6 : Result → Sem Fin) (k : Nat) (v : LV) (r tl : SV) (fr : Addr) (τ : Nat → Nat → Tok) (ν : Nat → Nat) (N T G : Nat) : List Spec := []
theorem EOF1_r (w : World) (s₀ : Shared) (b1 b2 : Bool) (A : LA) (v16 : Value) (cs ks got : Array Value) (k6 : Result → Sem Fin) (k : Nat) (v : LV) (r tl : SV) (fr : Addr)  (p : Pos) (τ : Nat → Nat → Tok) (ν : Nat → Nat) (N T G : Nat) :
  EndsQ w.params (run ((K5 w s₀ b1 b2).V [] N T G (EOF1_sp w s₀ b1 b2 A v16 cs ks got k6 k v r tl fr τ ν N T G)) 244 (denF (cInner w.params A)) (cInner w.params A) p (fs0 w.params A k6) (memOf w.params τ ν 0 (lexDM w.params A v16 true k none #[] cs ks got none (.ref A.fst) ++ (l0D0 A v r tl ++ (([(A.cat, .cell none)] : DM) ++ adD A (some fr))))) 0 0 [(A.g, .running)] 0 EOF1_h []) [24, 25, 16, 21, 23, 0]
    (denF (cDue w.params A)) (cDue w.params A) (fsD w.params A k6) (l0D1 A v r tl (N + 7) ++ (([(A.cat, .cell (some (.int 0)))] : DM) ++ (clsD A ks ++ (accD A got ++ ([((N + 7), .seq c_list [])] : DM))))) [] := by
  cases r <;> cases tl <;> (unfold EndsQ; kernel_rfl)
theorem EOF1 (w : World) (s₀ : Shared) (b1 b2 : Bool) (Y : Sys (K5 w s₀ b1 b2)) (A : LA) (v16 : Value) (cs ks got : Array Value) (k6 : Result → Sem Fin) (k : Nat) (v : LV) (r tl : SV) (fr : Addr)   {L : DM} {s : Shared} {p : Pos} (S : StD (K5 w s₀ b1 b2) (lexDM w.params A v16 true k none #[] cs ks got none (.ref A.fst) ++ (l0D0 A v r tl ++ (([(A.cat, .cell none)] : DM) ++ adD A (some fr))) ++ L) [(A.g, .running)] s)
    (next : ∀ (τ : Nat → Nat → Tok) (N T G : Nat) (s' : Shared) (p' : Pos), (K5 w s₀ b1 b2).B ≤ N → N ≤ s'.heap.objs.size → StD (K5 w s₀ b1 b2) (l0D1 A v r tl (N + 7) ++ (([(A.cat, .cell (some (.int 0)))] : DM) ++ (clsD A ks ++ (accD A got ++ ([((N + 7), .seq c_list [])] : DM)))) ++ L) [] s' → Y.H s' ⟨denF (cDue w.params A), cDue w.params A, p', fsD w.params A k6⟩) : Y.H s ⟨denF (cInner w.params A), cInner w.params A, p, fs0 w.params A k6⟩ :=
  Y.seg (t' := fun τ N T G => denF (cDue w.params A)) (c' := fun N T G => cDue w.params A) (fs' := fun N T G => fsD w.params A k6) (d' := fun N T G => l0D1 A v r tl (N + 7) ++ (([(A.cat, .cell (some (.int 0)))] : DM) ++ (clsD A ks ++ (accD A got ++ ([((N + 7), .seq c_list [])] : DM))))) (gm' := fun N T G => []) S (by decide) (EOF1_sp w s₀ b1 b2 A v16 cs ks got k6 k v r tl fr) (EOF1_r w s₀ b1 b2 A v16 cs ks got k6 k v r tl fr  p) (fun τ ν N T G => AllOk.nil) next

noncomputable def EOF0_h : List Hint := [.o 0, .o 1, .b, .b, .b, .o 1, .b, .b, .b, .o 1, .o 1, .b, .o 2, .o 3, .o 3, .o 3, .o 3, .o 3, .o 0, .o 11, .o 11, .o 12, .b, .o 11, .o 3, .b, .b, .b, .o 3, .b, .b, .b, .o 3, .b, .b, .b, .b, .o 3, .o 4, .b, .b, .b, .b, .o 0, .o 0, .o 0, .o 0, .b, .o 0, .o 4, .b, .b, .b, .o 4, .b, .b, .b, .o 4, .o 4, .b, .o 5, .o 7, .o 7, .o 7, .o 7, .o 7, .b, .b, .o 0, .o 4, .b, .b, .b, .o 4, .b, .b, .b, .o 4, .o 4, .b, .o 5, .o 9, .o 9, .o 9, .o 9, .o 0, .o 2, .o 2, .o 2, .o 2, .o 2, .o 3, .o 3, .o 3, .o 5, .o 5, .o 5, .o 0, .o 0, .o 23, .o 23, .o 25, .o 24, .o 24, .o 25, .o 25]
noncomputable def EOF0_sp (w : World) (s₀ : Shared) (b1 b2 : Bool) (A : LA) (v16 : Value) (cs ks got : Array Value) (k6 : Result → Sem Fin) (k : Nat) (v : LV) (r tl : SV) (τ : Nat → Nat → Tok) (ν : Nat → Nat) (N T G : Nat) : List Spec := []
theorem EOF0_r (w : World) (s₀ : Shared) (b1 b2 : Bool) (A : LA) (v16 : Value) (cs ks got : Array Value) (k6 : Result → Sem Fin) (k : Nat) (v : LV) (r tl : SV)  (p : Pos) (τ : Nat → Nat → Tok) (ν : Nat → Nat) (N T G : Nat) :
  EndsQ w.params (run ((K5 w s₀ b1 b2).V [] N T G (EOF0_sp w s₀ b1 b2 A v16 cs ks got k6 k v r tl τ ν N T G)) 240 (denF (cInner w.params A)) (cInner w.params A) p (fs0 w.params A k6) (memOf w.params τ ν 0 (lexDM w.params A v16 true k none #[] cs ks got none (.ref A.fst) ++ (l0D0 A v r tl ++ (([(A.cat, .cell none)] : DM) ++ adD A none)))) 0 0 [(A.g, .running)] 0 EOF0_h []) [24, 25, 16, 21, 23, 0]
    (denF (cDue w.params A)) (cDue w.params A) (fsD w.params A k6) (l0D1 A v r tl (N + 7) ++ (([(A.cat, .cell (some (.int 0)))] : DM) ++ (clsD A ks ++ (accD A got ++ ([((N + 7), .seq c_list [])] : DM))))) [] := by
  cases r <;> cases tl <;> (unfold EndsQ; kernel_rfl)
theorem EOF0 (w : World) (s₀ : Shared) (b1 b2 : Bool) (Y : Sys (K5 w s₀ b1 b2)) (A : LA) (v16 : Value) (cs ks got : Array Value) (k6 : Result → Sem Fin) (k : Nat) (v : LV) (r tl : SV)   {L : DM} {s : Shared} {p : Pos} (S : StD (K5 w s₀ b1 b2) (lexDM w.params A v16 true k none #[] cs ks got none (.ref A.fst) ++ (l0D0 A v r tl ++ (([(A.cat, .cell none)] : DM) ++ adD A none)) ++ L) [(A.g, .running)] s)
    (next : ∀ (τ : Nat → Nat → Tok) (N T G : Nat) (s' : Shared) (p' : Pos), (K5 w s₀ b1 b2).B ≤ N → N ≤ s'.heap.objs.size → StD (K5 w s₀ b1 b2) (l0D1 A v r tl (N + 7) ++ (([(A.cat, .cell (some (.int 0)))] : DM) ++ (clsD A ks ++ (accD A got ++ ([((N + 7), .seq c_list [])] : DM)))) ++ L) [] s' → Y.H s' ⟨denF (cDue w.params A), cDue w.params A, p', fsD w.params A k6⟩) : Y.H s ⟨denF (cInner w.params A), cInner w.params A, p, fs0 w.params A k6⟩ :=
  Y.seg (t' := fun τ N T G => denF (cDue w.params A)) (c' := fun N T G => cDue w.params A) (fs' := fun N T G => fsD w.params A k6) (d' := fun N T G => l0D1 A v r tl (N + 7) ++ (([(A.cat, .cell (some (.int 0)))] : DM) ++ (clsD A ks ++ (accD A got ++ ([((N + 7), .seq c_list [])] : DM))))) (gm' := fun N T G => []) S (by decide) (EOF0_sp w s₀ b1 b2 A v16 cs ks got k6 k v r tl) (EOF0_r w s₀ b1 b2 A v16 cs ks got k6 k v r tl  p) (fun τ ν N T G => AllOk.nil) next

end Mine
end

section
set_option maxRecDepth 100000
namespace Mine
open PySem PySem.W PySem.W.X PySem.SeqAt
variable {prog : Program} {w : World}
theorem comes_of_any {s : Shared} {code : Code} {rv : Result} {p0 p : Pos} {k : Result → Sem Fin} {hd : Option Value} {g : Bool} {l : List Value} {c : Code} {st : List Frame}
    (hu : unitsOf ((.ret k hd g l c p [] :: st : List Frame).map Frame.where_) < 5000)
    (h : ∀ (A : Around) (R : Result → Shared → Prop), A.units < 5000 → R rv s → codeAny (model prog w) A code R s) :
    Comes (model prog w) s ⟨(model prog w).den code, code, p0, .ret k hd g l c p [] :: st⟩ s ⟨k rv, c, p, st⟩ := by
  let base : List Frame := .ret k hd g l c p [] :: st
  let Γ : Ctx := Ctx.of code base
  let A : Around := ⟨Γ.handled, frameCount Γ.below, none, none, unitsOf Γ.below⟩
  have hb : Γ.Below A := ⟨rfl, Nat.le_refl _, (fun _ h => by cases h), (fun _ h => by cases h), Nat.le_refl _⟩
  have hw := h A (fun r s' => r = rv ∧ s' = s) hu ⟨rfl, rfl⟩ Γ p0 rfl hb
  have hw' := (wpCode_iff_wp ..).mp hw
  obtain ⟨n, r, s', c', p', hn, hr, hx⟩ := wp_runN (base := base) (c := code) hw'
  subst hr hx
  refine ⟨n + 1, ?_⟩
  have := runN_snoc hn
  rw [step_leaf_ret] at this
  exact this

structure Row where
  nm : Str
  tx : Str
  row : Int
  col : Int
  file : Str
noncomputable def rowO (x : Row) (τ : Nat → Tok) (n : Nat) : Obj := ⟨.type c_tuple, none, .seq ⟨[.str x.nm (τ 0), .str x.tx (τ 1), .int x.row (τ 2), .int x.col (τ 3), .str x.file (τ 4)]⟩ n, #[]⟩
theorem eqRow {A : Around} {s : Shared} {u v : Addr} {x : Row} {τ σ : Nat → Tok} {n m : Nat} (hne : u ≠ v) (hu : A.units < cLine) (h1 : s.heap.get? u = some (rowO x τ n)) (h2 : s.heap.get? v = some (rowO x σ m)) : EqAt A s (.ref u) (.ref v) true := by
  refine EqAt.of_refs hne ?_
  have := RcAt.tuples (A := A) (s := s) (l := u) (b := v) (items := ⟨[.str x.nm (τ 0), .str x.tx (τ 1), .int x.row (τ 2), .int x.col (τ 3), .str x.file (τ 4)]⟩) (items2 := ⟨[.str x.nm (σ 0), .str x.tx (σ 1), .int x.row (σ 2), .int x.col (σ 3), .str x.file (σ 4)]⟩)
    (e := fun _ => true) ⟨_, h1, rfl, _, rfl⟩ ⟨_, h2, rfl, _, rfl⟩ hu ?_
  · exact this
  · intro j h1 h2
    have hj : j = 0 ∨ j = 1 ∨ j = 2 ∨ j = 3 ∨ j = 4 := by have : j < 5 := h1; omega
    rcases hj with rfl | rfl | rfl | rfl | rfl
    · simpa using EqAt.str_str (A := A.in1) (s := s) x.nm (τ 0) x.nm (σ 0)
    · simpa using EqAt.str_str (A := A.in1) (s := s) x.tx (τ 1) x.tx (σ 1)
    · simpa using EqAt.int_int (A := A.in1) (s := s) x.row (τ 2) x.row (σ 2)
    · simpa using EqAt.int_int (A := A.in1) (s := s) x.col (τ 3) x.col (σ 3)
    · simpa using EqAt.str_str (A := A.in1) (s := s) x.file (τ 4) x.file (σ 4)
theorem eqRows {A : Around} {s : Shared} {l b : Addr} {xs ys : Array Value} {n m : Nat} {R : Result → Shared → Prop} (hu : A.units < 5000) (h1 : s.heap.get? l = some (listO xs n)) (h2 : s.heap.get? b = some (listO ys m)) (hsz : xs.size = ys.size)
    (he : ∀ (j : Nat) (h1 : j < xs.size) (h2 : j < ys.size), ∃ u v x τ σ n m, xs[j] = .ref u ∧ ys[j] = .ref v ∧ u ≠ v ∧ s.heap.get? u = some (rowO x τ n) ∧ s.heap.get? v = some (rowO x σ m))
    (hR : R (.ok (.ret (.bool true))) s) : codeAny (model prog w) A (callB "list.__eq__" [.ref l, .ref b]) R s := by
  have hT : s.TypeIs (.ref l) "list" := ⟨_, h1, rfl⟩
  refine codeAny_call_builtin F.slot_list_eq.plain F.entry_list_eq (F.slot_list_eq.check _ _ _ _ _ _ _ _ hT (F.args_list_eq_2 _ _) ?_)
  refine list_eqAt l b xs ys n m none none #[] #[] hsz (fun _ => true) prog w A R s ⟨h1, h2, fun j q1 q2 => ?_, ?_⟩
  · obtain ⟨u, v, x, τ, σ, n, m, e1, e2, hne, g1, g2⟩ := he j q1 q2
    rw [e1, e2]
    exact eqRow hne (by show A.units + 1 < 9900; omega) g1 g2
  · have e : ((List.range xs.size).all fun _ => true) = true := by simp
    rw [e]; exact hR
theorem StD.has {K : Top} {d : DM} {gm : GMem} {s : Shared} (S : StD K d gm s) {a : Addr} {o : OD} (h : (a, o) ∈ d) : ∃ τ n, s.heap.get? a = some (o.obj K.w.params τ n) := by
  obtain ⟨mem, F, S⟩ := S
  have : ∃ τ n, (a, o.obj K.w.params τ n) ∈ mem := by
    clear S
    induction F with
    | nil => cases h
    | cons τ n _ ih =>
      rcases List.mem_cons.mp h with e | h
      · cases e; exact ⟨τ, n, List.mem_cons_self ..⟩
      · obtain ⟨τ', n', q⟩ := ih h; exact ⟨τ', n', List.mem_cons_of_mem _ q⟩
  obtain ⟨τ, n, q⟩ := this
  exact ⟨τ, n, S.own _ q⟩
noncomputable def rowD (x : Row) : OD := .seq c_tuple [.str x.nm, .str x.tx, .int x.row, .int x.col, .str x.file]
theorem rowD_obj (P : Params) (x : Row) (τ : Nat → Tok) (n : Nat) : (rowD x).obj P τ n = rowO x τ n := rfl
theorem StD.apart {K : Top} {d : DM} {gm : GMem} {s : Shared} (S : StD K d gm s) : (d.map (·.1)).Nodup := by
  obtain ⟨mem, F, S⟩ := S
  have : d.map (·.1) = mem.map (·.1) := by
    clear S
    induction F with
    | nil => rfl
    | cons τ n _ ih => simp only [List.map_cons, ih]
  rw [this]; exact S.nodup
theorem Sys.eqList {K : Top} (Y : Sys K) {d : DM} {gm : GMem} {s : Shared} (S : StD K d gm s) {l b : Addr} {xs ys : Array Value} (h1 : (l, .arr c_list xs) ∈ d) (h2 : (b, .arr c_list ys) ∈ d) (hsz : xs.size = ys.size)
    (he : ∀ (j : Nat) (h1 : j < xs.size) (h2 : j < ys.size), ∃ u v x, xs[j] = .ref u ∧ ys[j] = .ref v ∧ u ≠ v ∧ (u, rowD x) ∈ d ∧ (v, rowD x) ∈ d)
    {p0 p : Pos} {k : Result → Sem Fin} {hd : Option Value} {g : Bool} {lv : List Value} {c : Code} {st : List Frame} (hu : unitsOf ((.ret k hd g lv c p [] :: st : List Frame).map Frame.where_) < 5000)
    (next : Y.H s ⟨k (.ok (.ret (.bool true))), c, p, st⟩) : Y.H s ⟨denF (callB "list.__eq__" [.ref l, .ref b]), callB "list.__eq__" [.ref l, .ref b], p0, .ret k hd g lv c p [] :: st⟩ := by
  obtain ⟨τ, n, g1⟩ := S.has h1
  obtain ⟨σ, m, g2⟩ := S.has h2
  refine Y.back ?_ next
  have := comes_of_any (prog := K.prog) (w := K.w) (s := s) (code := callB "list.__eq__" [.ref l, .ref b]) (rv := .ok (.ret (.bool true))) (k := k) (hd := hd) (g := g) (l := lv) (c := c) (p0 := p0) (p := p) (st := st) hu fun A R hA hR => eqRows hA g1 g2 hsz (fun j q1 q2 => ?_) hR
  · have e : (model K.prog K.w).den = denF := denF_eq
    rw [e] at this; exact this
  · obtain ⟨u, v, x, e1, e2, hne, m1, m2⟩ := he j q1 q2
    obtain ⟨τ, n, g1⟩ := S.has m1
    obtain ⟨σ, m, g2⟩ := S.has m2
    exact ⟨u, v, x, τ, σ, n, m, e1, e2, hne, g1, g2⟩
end Mine
end

section
set_option linter.unusedVariables false
set_option linter.unusedSimpArgs false
set_option maxRecDepth 100000
set_option maxHeartbeats 0
namespace Mine
open PySem PySem.W PySem.W.X

inductive XD where
  | o
  | i (kd : Str) (dr : Bool)
  | f (kd : Str) (dr : Bool) (en : Int)
def XD.next : XD → Str → Bool → XD
  | .o, kd, dr => .i kd dr
  | .i _ _, kd, dr => .i kd dr
  | .f _ _ en, kd, dr => .f kd dr en
def XD.fin : XD → Int → XD
  | .o, _ => .o
  | .i kd dr, en => .f kd dr en
  | .f kd dr _, en => .f kd dr en
noncomputable def XD.e : XD → List (List Nat × VD)
  | .o => []
  | .i kd dr => [([107, 105, 110, 100], .str kd), ([100, 114, 111, 112, 112, 101, 100], .bool dr)]
  | .f kd dr en => [([107, 105, 110, 100], .str kd), ([100, 114, 111, 112, 112, 101, 100], .bool dr), ([101, 110, 100], .int en)]
def LV.hd (v : LV) (h : Str) : LV := { v with hh := h }
noncomputable def dD (A : LA) (v : LV) (r tl : SV) (du : Addr) (x : XD) (at_ : Int) (tx : Str) (tk : Tok) (ks : Array Value) : DM :=
  [(A.L0, .dict c_frame (l0E A v r tl ++ ([([103, 111, 116], .ref A.acc), ([100, 117, 101], .ref du)] ++ x.e))), (A.cat, .cell (some (.int at_))), (A.ctx, .cell (some (.raw (.str tx tk)))), (A.ccls, .cell (some (.ref A.kl))), (A.kl, .arr c_list ks)]
noncomputable def dcD (A : LA) (q : Addr) (j : Nat) (rs : Array Value) (fo : Option Addr) : DM := [(q, .fields c_listit [.ref A.kl, .raw (.int (j : Int) 0)]), (q + 1, .arr c_list rs), (q + 2, .dict c_dict (oneE [111, 110, 101] fo))]
def kOf (l : List Frame) : Result → Sem Fin := (rfOf l).k
noncomputable def cLE (tx : Str) (tk : Tok) (st : Int) (tt : Tok) (va : SV) : Code := .call (.ref 258) ⟨[.str tx tk, .int st tt, va.val], []⟩

noncomputable def oDC (P : Params) (A : LA) (q : Nat) : Out := run (V0 P (q)) 25 (denF (cDue P A)) (cDue P A) default ([]) (memOf P (fun _ _ => 0) (fun _ => 0) 0 ([(A.L0, .dict c_frame [([115, 99, 114, 105, 112, 116], .none), ([110, 117, 109, 98, 101, 114, 115], .none), ([115, 105, 122, 101], .int 15), ([112, 108, 97, 99, 101], .none), ([110], .none), ([109, 97, 115, 107], .none), ([104, 101, 97, 100, 115], .none), ([114, 117, 110], .none), ([116, 97, 105, 108], .none), ([112, 108, 97, 99, 101, 115], .none), ([99, 104, 97, 114, 115], .none), ([115, 105, 103, 110], .none), ([102, 105, 108, 101], .none), ([99, 111, 108], .none), ([114, 111, 119], .none), ([103, 111, 116], .ref A.acc), ([100, 117, 101], .ref 0)]), (A.cat, .cell (some (.int 0))), (A.ccls, .cell (some (.ref A.kl))), (A.kl, .arr c_list #[])])) 0 0 [] 0 [.o 1, .o 0, .o 2, .o 3, .o 3, .o 3, .o 0] []

noncomputable def cDC (P : Params) (A : LA) (q : Nat) : Code := toLoop (oDC P A q).c
noncomputable def fsDC (P : Params) (A : LA) (k6 : Result → Sem Fin) (q : Nat) : List Frame := (oDC P A q).fs ++ fsD P A k6

theorem chk_DC (P : Params) (A : LA) : ((oDC P A 7).fs.length, match cDC P A 7 with | .compLoop _ _ it acc _ => (it, acc) | _ => (.none, .none)) = (1, .ref 7, .ref 8) := by kernel_rfl

noncomputable def D0_h : List Hint := [.o 1, .o 0, .s 0 0, .o 3, .o 4, .o 4, .o 4, .o 0, .o 2, .o 2, .o 2, .o 2]
noncomputable def D0_h2 : List Hint := [.o 1, .o 0, .s 0 0, .o 3, .o 4, .o 4, .o 4, .o 0]
noncomputable def D0_sp (w : World) (s₀ : Shared) (b1 b2 : Bool) (A : LA) (v : LV) (r tl : SV) (du : Addr) (tx : Str) (tk : Tok) (ks : Array Value) (k6 : Result → Sem Fin) (x : XD) (at_ : Int) (τ : Nat → Nat → Tok) (ν : Nat → Nat) (N T G : Nat) : List Spec := [spV (II "int.__lt__" (at_) (τ 1 0) (v.size) (τ 0 5)) (.bool true) 0]
theorem D0_r (w : World) (s₀ : Shared) (b1 b2 : Bool) (A : LA) (v : LV) (r tl : SV) (du : Addr) (tx : Str) (tk : Tok) (ks : Array Value) (k6 : Result → Sem Fin) (x : XD) (at_ : Int)  (p : Pos) (τ : Nat → Nat → Tok) (ν : Nat → Nat) (N T G : Nat) :
  EndsQ w.params (run ((K5 w s₀ b1 b2).V [] N T G (D0_sp w s₀ b1 b2 A v r tl du tx tk ks k6 x at_ τ ν N T G)) (cond b2 25 35) (denF (cDue w.params A)) (cDue w.params A) p (fsD w.params A k6) (memOf w.params τ ν 0 (dD A v r tl du x at_ tx tk ks)) 0 0 [] 0 (cond b2 D0_h2 D0_h) []) [3, 4, 5, 6, 7, 2, 1, 0]
    (denF (cDC w.params A N)) (cDC w.params A N) (fsDC w.params A k6 N) (dD A v r tl du x at_ tx tk ks ++ dcD A N 0 #[] none) [] := by
  cases b1 <;> cases r <;> cases tl <;> cases x <;> cases b2 <;> (unfold EndsQ; kernel_rfl)
theorem D0 (w : World) (s₀ : Shared) (b1 b2 : Bool) (Y : Sys (K5 w s₀ b1 b2)) (A : LA) (v : LV) (r tl : SV) (du : Addr) (tx : Str) (tk : Tok) (ks : Array Value) (k6 : Result → Sem Fin) (x : XD) (at_ : Int)  (h0 : decide ((at_) < (v.size)) = true) {L : DM} {s : Shared} {p : Pos} (S : StD (K5 w s₀ b1 b2) (dD A v r tl du x at_ tx tk ks ++ L) [] s)
    (next : ∀ (τ : Nat → Nat → Tok) (N T G : Nat) (s' : Shared) (p' : Pos), (K5 w s₀ b1 b2).B ≤ N → N ≤ s'.heap.objs.size → StD (K5 w s₀ b1 b2) (dD A v r tl du x at_ tx tk ks ++ dcD A N 0 #[] none ++ L) [] s' → Y.H s' ⟨denF (cDC w.params A N), cDC w.params A N, p', fsDC w.params A k6 N⟩) : Y.H s ⟨denF (cDue w.params A), cDue w.params A, p, fsD w.params A k6⟩ :=
  Y.seg (t' := fun τ N T G => denF (cDC w.params A N)) (c' := fun N T G => cDC w.params A N) (fs' := fun N T G => fsDC w.params A k6 N) (d' := fun N T G => dD A v r tl du x at_ tx tk ks ++ dcD A N 0 #[] none) (gm' := fun N T G => []) S (by decide) (D0_sp w s₀ b1 b2 A v r tl du tx tk ks k6 x at_) (D0_r w s₀ b1 b2 A v r tl du tx tk ks k6 x at_  p) (fun τ ν N T G => .cons (okv (h0 ▸ sok_lt _ _ _ _)) (AllOk.nil)) next

noncomputable def DTt_h : List Hint := [.o 5, .s 0 0, .o 7, .o 7, .o 2, .o 1, .s 1 0, .o 7, .o 8, .o 8, .o 8, .o 8, .o 8, .s 2 0, .o 7, .s 3 0]
noncomputable def DTt_sp (w : World) (s₀ : Shared) (b1 b2 : Bool) (A : LA) (v : LV) (r tl : SV) (du : Addr) (tx : Str) (tk : Tok) (ks : Array Value) (k6 : Result → Sem Fin) (x : XD) (at_ : Int) (q : Addr) (j : Nat) (rs : Array Value) (fo : Option Addr) (sg : Nat) (kc : Addr) (nm hd : Str) (rv tv : SV) (dv : Bool) (τ : Nat → Nat → Tok) (ν : Nat → Nat) (N T G : Nat) : List Spec := [spNext q A.kl 5 4 ks (ν 4) (j : Nat) (.ref kc),
  spV (callB "str.__getitem__" [(.str tx tk), .int (at_) (τ 1 0)]) (.str ⟨⟨[sg]⟩⟩) 1,
  spV (callB "str.__contains__" [.str (hd) (τ 8 1), .str (⟨⟨[sg]⟩⟩) (T + 1)]) (.bool true) 0,
  spPush (q + 1) 6 rs (ν 6) (.ref kc)]
theorem DTt_r (w : World) (s₀ : Shared) (b1 b2 : Bool) (A : LA) (v : LV) (r tl : SV) (du : Addr) (tx : Str) (tk : Tok) (ks : Array Value) (k6 : Result → Sem Fin) (x : XD) (at_ : Int) (q : Addr) (j : Nat) (rs : Array Value) (fo : Option Addr) (sg : Nat) (kc : Addr) (nm hd : Str) (rv tv : SV) (dv : Bool)  (p : Pos) (τ : Nat → Nat → Tok) (ν : Nat → Nat) (N T G : Nat) :
  EndsQ w.params (run ((K5 w s₀ b1 b2).V [] N T G (DTt_sp w s₀ b1 b2 A v r tl du tx tk ks k6 x at_ q j rs fo sg kc nm hd rv tv dv τ ν N T G)) 34 (denF (cDC w.params A q)) (cDC w.params A q) p (fsDC w.params A k6 q) (memOf w.params τ ν 0 (dD A v r tl du x at_ tx tk ks ++ (dcD A q j rs fo ++ kD kc nm hd rv tv dv))) 0 0 [] 0 DTt_h []) [0, 1, 2, 3, 4, 5, 6, 7, 8]
    (denF (cDC w.params A q)) (cDC w.params A q) (fsDC w.params A k6 q) (dD A v r tl du x at_ tx tk ks ++ (dcD A q (j + 1) (rs.push (.ref kc)) (some kc) ++ kD kc nm hd rv tv dv)) [] := by
  cases b1 <;> cases x <;> cases fo <;> (unfold EndsQ; kernel_rfl)
theorem DTt (w : World) (s₀ : Shared) (b1 b2 : Bool) (Y : Sys (K5 w s₀ b1 b2)) (A : LA) (v : LV) (r tl : SV) (du : Addr) (tx : Str) (tk : Tok) (ks : Array Value) (k6 : Result → Sem Fin) (x : XD) (at_ : Int) (q : Addr) (j : Nat) (rs : Array Value) (fo : Option Addr) (sg : Nat) (kc : Addr) (nm hd : Str) (rv tv : SV) (dv : Bool)  (h0 : ks[j]? = some (.ref kc)) (h1 : CharAt (tx) (at_) sg) (h2 : (!(Builtin.Str.occurrences (hd) (⟨⟨[sg]⟩⟩) 0 (hd).length 1).isEmpty) = true) (h3 : rs.size ≤ sizeLine) {L : DM} {s : Shared} {p : Pos} (S : StD (K5 w s₀ b1 b2) (dD A v r tl du x at_ tx tk ks ++ (dcD A q j rs fo ++ kD kc nm hd rv tv dv) ++ L) [] s)
    (next : ∀ (τ : Nat → Nat → Tok) (N T G : Nat) (s' : Shared) (p' : Pos), (K5 w s₀ b1 b2).B ≤ N → N ≤ s'.heap.objs.size → StD (K5 w s₀ b1 b2) (dD A v r tl du x at_ tx tk ks ++ (dcD A q (j + 1) (rs.push (.ref kc)) (some kc) ++ kD kc nm hd rv tv dv) ++ L) [] s' → Y.H s' ⟨denF (cDC w.params A q), cDC w.params A q, p', fsDC w.params A k6 q⟩) : Y.H s ⟨denF (cDC w.params A q), cDC w.params A q, p, fsDC w.params A k6 q⟩ :=
  Y.seg (t' := fun τ N T G => denF (cDC w.params A q)) (c' := fun N T G => cDC w.params A q) (fs' := fun N T G => fsDC w.params A k6 q) (d' := fun N T G => dD A v r tl du x at_ tx tk ks ++ (dcD A q (j + 1) (rs.push (.ref kc)) (some kc) ++ kD kc nm hd rv tv dv)) (gm' := fun N T G => []) S (by decide) (DTt_sp w s₀ b1 b2 A v r tl du tx tk ks k6 x at_ q j rs fo sg kc nm hd rv tv dv) (DTt_r w s₀ b1 b2 A v r tl du tx tk ks k6 x at_ q j rs fo sg kc nm hd rv tv dv  p) (fun τ ν N T G => .cons (ok1 rfl rfl rfl (sok_next _ _ _ _ _ _ _ _ h0)) (.cons (okv (sok_sget _ _ _ _ _ h1)) (.cons (okv (h2 ▸ sok_scontains _ _ _ _)) (.cons (ok1 rfl rfl rfl (sok_push _ _ _ _ _ h3)) (AllOk.nil))))) next

noncomputable def DTf_h : List Hint := [.o 5, .s 0 0, .o 7, .o 7, .o 2, .o 1, .s 1 0, .o 7, .o 8, .o 8, .o 8, .o 8, .o 8, .s 2 0]
noncomputable def DTf_sp (w : World) (s₀ : Shared) (b1 b2 : Bool) (A : LA) (v : LV) (r tl : SV) (du : Addr) (tx : Str) (tk : Tok) (ks : Array Value) (k6 : Result → Sem Fin) (x : XD) (at_ : Int) (q : Addr) (j : Nat) (rs : Array Value) (fo : Option Addr) (sg : Nat) (kc : Addr) (nm hd : Str) (rv tv : SV) (dv : Bool) (τ : Nat → Nat → Tok) (ν : Nat → Nat) (N T G : Nat) : List Spec := [spNext q A.kl 5 4 ks (ν 4) (j : Nat) (.ref kc),
  spV (callB "str.__getitem__" [(.str tx tk), .int (at_) (τ 1 0)]) (.str ⟨⟨[sg]⟩⟩) 1,
  spV (callB "str.__contains__" [.str (hd) (τ 8 1), .str (⟨⟨[sg]⟩⟩) (T + 1)]) (.bool false) 0]
theorem DTf_r (w : World) (s₀ : Shared) (b1 b2 : Bool) (A : LA) (v : LV) (r tl : SV) (du : Addr) (tx : Str) (tk : Tok) (ks : Array Value) (k6 : Result → Sem Fin) (x : XD) (at_ : Int) (q : Addr) (j : Nat) (rs : Array Value) (fo : Option Addr) (sg : Nat) (kc : Addr) (nm hd : Str) (rv tv : SV) (dv : Bool)  (p : Pos) (τ : Nat → Nat → Tok) (ν : Nat → Nat) (N T G : Nat) :
  EndsQ w.params (run ((K5 w s₀ b1 b2).V [] N T G (DTf_sp w s₀ b1 b2 A v r tl du tx tk ks k6 x at_ q j rs fo sg kc nm hd rv tv dv τ ν N T G)) 31 (denF (cDC w.params A q)) (cDC w.params A q) p (fsDC w.params A k6 q) (memOf w.params τ ν 0 (dD A v r tl du x at_ tx tk ks ++ (dcD A q j rs fo ++ kD kc nm hd rv tv dv))) 0 0 [] 0 DTf_h []) [0, 1, 2, 3, 4, 5, 6, 7, 8]
    (denF (cDC w.params A q)) (cDC w.params A q) (fsDC w.params A k6 q) (dD A v r tl du x at_ tx tk ks ++ (dcD A q (j + 1) rs (some kc) ++ kD kc nm hd rv tv dv)) [] := by
  cases b1 <;> cases x <;> cases fo <;> (unfold EndsQ; kernel_rfl)
theorem DTf (w : World) (s₀ : Shared) (b1 b2 : Bool) (Y : Sys (K5 w s₀ b1 b2)) (A : LA) (v : LV) (r tl : SV) (du : Addr) (tx : Str) (tk : Tok) (ks : Array Value) (k6 : Result → Sem Fin) (x : XD) (at_ : Int) (q : Addr) (j : Nat) (rs : Array Value) (fo : Option Addr) (sg : Nat) (kc : Addr) (nm hd : Str) (rv tv : SV) (dv : Bool)  (h0 : ks[j]? = some (.ref kc)) (h1 : CharAt (tx) (at_) sg) (h2 : (!(Builtin.Str.occurrences (hd) (⟨⟨[sg]⟩⟩) 0 (hd).length 1).isEmpty) = false) {L : DM} {s : Shared} {p : Pos} (S : StD (K5 w s₀ b1 b2) (dD A v r tl du x at_ tx tk ks ++ (dcD A q j rs fo ++ kD kc nm hd rv tv dv) ++ L) [] s)
    (next : ∀ (τ : Nat → Nat → Tok) (N T G : Nat) (s' : Shared) (p' : Pos), (K5 w s₀ b1 b2).B ≤ N → N ≤ s'.heap.objs.size → StD (K5 w s₀ b1 b2) (dD A v r tl du x at_ tx tk ks ++ (dcD A q (j + 1) rs (some kc) ++ kD kc nm hd rv tv dv) ++ L) [] s' → Y.H s' ⟨denF (cDC w.params A q), cDC w.params A q, p', fsDC w.params A k6 q⟩) : Y.H s ⟨denF (cDC w.params A q), cDC w.params A q, p, fsDC w.params A k6 q⟩ :=
  Y.seg (t' := fun τ N T G => denF (cDC w.params A q)) (c' := fun N T G => cDC w.params A q) (fs' := fun N T G => fsDC w.params A k6 q) (d' := fun N T G => dD A v r tl du x at_ tx tk ks ++ (dcD A q (j + 1) rs (some kc) ++ kD kc nm hd rv tv dv)) (gm' := fun N T G => []) S (by decide) (DTf_sp w s₀ b1 b2 A v r tl du tx tk ks k6 x at_ q j rs fo sg kc nm hd rv tv dv) (DTf_r w s₀ b1 b2 A v r tl du tx tk ks k6 x at_ q j rs fo sg kc nm hd rv tv dv  p) (fun τ ν N T G => .cons (ok1 rfl rfl rfl (sok_next _ _ _ _ _ _ _ _ h0)) (.cons (okv (sok_sget _ _ _ _ _ h1)) (.cons (okv (h2 ▸ sok_scontains _ _ _ _)) (AllOk.nil)))) next

def thrd (o : Out) : Out := o

noncomputable def oDI (P : Params) (A : LA) (q kc : Nat) (tx : Str) (tk : Tok) : Out := run (V0 P (0)) 167 (denF (cDC P A q)) (cDC P A q) default ((oDC P A q).fs) (memOf P (fun _ _ => 0) (fun _ => 0) 0 ([(A.L0, .dict c_frame [([115, 99, 114, 105, 112, 116], .none), ([110, 117, 109, 98, 101, 114, 115], .none), ([115, 105, 122, 101], .none), ([112, 108, 97, 99, 101], .none), ([110], .none), ([109, 97, 115, 107], .none), ([104, 101, 97, 100, 115], .none), ([114, 117, 110], .none), ([116, 97, 105, 108], .none), ([112, 108, 97, 99, 101, 115], .none), ([99, 104, 97, 114, 115], .none), ([115, 105, 103, 110], .none), ([102, 105, 108, 101], .none), ([99, 111, 108], .none), ([114, 111, 119], .none), ([103, 111, 116], .ref A.acc), ([100, 117, 101], .ref 0)]), (A.cat, .cell (some (.int 0))), (A.ctx, .cell (some (.raw (.str tx tk)))), (A.kl, .arr c_list #[]), (q, .fields c_listit [.ref A.kl, .raw (.int ((0 : Nat) : Int) 0)]), ((q + 1), .arr c_list #[.ref kc]), ((q + 2), .dict c_dict [([111, 110, 101], .ref kc)]), (kc, .seq c_tuple [.none, .none, .none, .none, .bool false])])) 0 0 [] 0 [.o 4, .o 4, .o 4, .o 4, .o 3, .o 4, .o 4, .o 0, .o 8, .o 8, .o 8, .o 7, .o 7, .o 7, .o 7, .o 7, .o 9, .o 9, .o 9, .o 9, .o 0, .o 0, .o 0, .o 0, .o 0, .o 10, .o 0, .o 0, .o 0, .o 0, .o 0, .o 0, .o 10, .o 0, .o 0, .o 0, .o 0, .o 0, .o 0, .o 10, .o 0, .o 0, .o 0, .o 0, .o 0, .o 0, .o 10, .o 0, .o 0, .o 0, .o 0, .o 0, .o 0, .o 10, .o 0, .o 0, .o 0, .o 0, .o 0, .o 0, .o 10, .o 0, .o 0, .o 0, .o 5, .o 5, .o 5, .o 5, .o 5, .o 5, .o 5, .o 5, .o 5, .o 5, .b, .o 7, .b, .o 7, .o 6, .o 5, .b] []

theorem chk_DI (P : Params) (A : LA) (tx : Str) (tk : Tok) : ((oDI P A 7 8 tx tk).fs.length, match (oDI P A 7 8 tx tk).c with | .call f ⟨l, _⟩ => (f, l.length) | _ => (.none, 0)) = (1, .ref 258, 3) := by kernel_rfl

noncomputable def D1_h : List Hint := [.o 5, .s 0 0, .o 0, .o 9, .o 9, .o 9, .o 8, .o 8, .o 8, .s 1 0, .o 10, .o 10, .o 10, .o 10, .o 0, .o 0, .o 0, .o 0, .o 0, .o 11, .o 0, .o 0, .o 0, .o 0, .o 0, .o 0, .o 11, .o 0, .o 0, .o 0, .o 0, .o 0, .o 0, .o 11, .o 0, .o 0, .o 0, .o 0, .o 0, .o 0, .o 11, .o 0, .o 0, .o 0, .o 0, .o 0, .o 0, .o 11, .o 0, .o 0, .o 0, .o 0, .o 0, .o 0, .o 11, .o 0, .o 0, .o 0, .o 5, .o 5, .o 5, .o 5, .o 5, .o 5, .o 5, .o 5, .o 5, .o 5, .b, .o 7, .b, .o 7, .o 6, .s 2 0, .o 5, .b]
noncomputable def D1_sp (w : World) (s₀ : Shared) (b1 b2 : Bool) (A : LA) (v : LV) (r tl : SV) (du : Addr) (tx : Str) (tk : Tok) (ks : Array Value) (k6 : Result → Sem Fin) (x : XD) (at_ : Int) (q : Addr) (j : Nat) (rs : Array Value) (ko kc : Addr) (nm hd : Str) (rv tv : SV) (dv : Bool) (τ : Nat → Nat → Tok) (ν : Nat → Nat) (N T G : Nat) : List Spec := [spEnd q A.kl 5 4 ks (ν 4) (j : Nat),
  spItem (q + 1) 8 rs (ν 6) (0) (T + 0) (.ref kc),
  spV (II "int.__add__" (at_) (τ 1 0) (1) (T + 6)) (.int ((at_) + (1))) 1]
theorem D1_r (w : World) (s₀ : Shared) (b1 b2 : Bool) (A : LA) (v : LV) (r tl : SV) (du : Addr) (tx : Str) (tk : Tok) (ks : Array Value) (k6 : Result → Sem Fin) (x : XD) (at_ : Int) (q : Addr) (j : Nat) (rs : Array Value) (ko kc : Addr) (nm hd : Str) (rv tv : SV) (dv : Bool)  (p : Pos) (τ : Nat → Nat → Tok) (ν : Nat → Nat) (N T G : Nat) :
  EndsQ w.params (run ((K5 w s₀ b1 b2).V [] N T G (D1_sp w s₀ b1 b2 A v r tl du tx tk ks k6 x at_ q j rs ko kc nm hd rv tv dv τ ν N T G)) 148 (denF (cDC w.params A q)) (cDC w.params A q) p (fsDC w.params A k6 q) (memOf w.params τ ν 0 (dD A v r tl du x at_ tx tk ks ++ (dcD A q j rs (some ko) ++ kD kc nm hd rv tv dv))) 0 0 [] 0 D1_h []) [5, 6, 7, 8, 9, 13]
    (denF (cLE tx tk (at_ + 1) (T + 7) rv)) (cLE tx tk (at_ + 1) (T + 7) rv) ((oDI w.params A 0 0 tx tk).fs ++ fsD w.params A k6) (dD A (v.hd hd) rv tv du (x.next nm dv) at_ tx tk ks ++ kD kc nm hd rv tv dv) [] := by
  cases b1 <;> cases r <;> cases tl <;> cases rv <;> cases tv <;> cases x <;> (unfold EndsQ; kernel_rfl)
theorem D1 (w : World) (s₀ : Shared) (b1 b2 : Bool) (Y : Sys (K5 w s₀ b1 b2)) (A : LA) (v : LV) (r tl : SV) (du : Addr) (tx : Str) (tk : Tok) (ks : Array Value) (k6 : Result → Sem Fin) (x : XD) (at_ : Int) (q : Addr) (j : Nat) (rs : Array Value) (ko kc : Addr) (nm hd : Str) (rv tv : SV) (dv : Bool)  (h0 : ks[j]? = none) (h1 : ItemAt rs (0) (.ref kc)) {L : DM} {s : Shared} {p : Pos} (S : StD (K5 w s₀ b1 b2) (dD A v r tl du x at_ tx tk ks ++ (dcD A q j rs (some ko) ++ kD kc nm hd rv tv dv) ++ L) [] s)
    (next : ∀ (τ : Nat → Nat → Tok) (N T G : Nat) (s' : Shared) (p' : Pos), (K5 w s₀ b1 b2).B ≤ N → N ≤ s'.heap.objs.size → StD (K5 w s₀ b1 b2) (dD A (v.hd hd) rv tv du (x.next nm dv) at_ tx tk ks ++ kD kc nm hd rv tv dv ++ L) [] s' → Y.H s' ⟨denF (cLE tx tk (at_ + 1) (T + 7) rv), cLE tx tk (at_ + 1) (T + 7) rv, p', (oDI w.params A 0 0 tx tk).fs ++ fsD w.params A k6⟩) : Y.H s ⟨denF (cDC w.params A q), cDC w.params A q, p, fsDC w.params A k6 q⟩ :=
  Y.seg (t' := fun τ N T G => denF (cLE tx tk (at_ + 1) (T + 7) rv)) (c' := fun N T G => cLE tx tk (at_ + 1) (T + 7) rv) (fs' := fun N T G => (oDI w.params A 0 0 tx tk).fs ++ fsD w.params A k6) (d' := fun N T G => dD A (v.hd hd) rv tv du (x.next nm dv) at_ tx tk ks ++ kD kc nm hd rv tv dv) (gm' := fun N T G => []) S (by decide) (D1_sp w s₀ b1 b2 A v r tl du tx tk ks k6 x at_ q j rs ko kc nm hd rv tv dv) (D1_r w s₀ b1 b2 A v r tl du tx tk ks k6 x at_ q j rs ko kc nm hd rv tv dv  p) (fun τ ν N T G => .cons (ok_end _ _ _ _ _ _ _ h0) (.cons (ok_item _ _ _ _ _ _ _ h1) (.cons (okv (sok_add _ _ _ _ )) (AllOk.nil)))) next

end Mine
end

section
set_option linter.unusedVariables false
set_option linter.unusedSimpArgs false
set_option maxRecDepth 100000
set_option maxHeartbeats 0
namespace Mine
open PySem PySem.W PySem.W.X

noncomputable def rI (P : Params) (A : LA) (tx : Str) (tk : Tok) : RF := rfOf (oDI P A 0 0 tx tk).fs
noncomputable def fsL (P : Params) (A : LA) (k6 : Result → Sem Fin) (x : RF) : List Frame := x.fr (cDue P A) :: fsD P A k6
theorem fs_I (P : Params) (A : LA) (k6 : Result → Sem Fin) (tx : Str) (tk : Tok) : (oDI P A 0 0 tx tk).fs ++ fsD P A k6 = fsL P A k6 (rI P A tx tk) := by kernel_rfl

noncomputable def oLE (P : Params) (q : Nat) : Out := run (V0 P (q)) 75 (denF (cLE ⟨⟨[97, 98]⟩⟩ 7 1 8 (.l 9))) (cLE ⟨⟨[97, 98]⟩⟩ 7 1 8 (.l 9)) default ([]) (memOf P (fun _ _ => 0) (fun _ => 0) 0 ([])) 0 0 [] 0 [.b, .b, .o 1, .o 1, .o 2, .o 2, .o 0, .o 0, .b, .b, .b, .b, .b, .o 2, .b, .b, .o 1, .o 0, .o 0, .o 0, .o 0, .o 0, .o 0, .o 0, .o 0, .o 0, .o 0, .o 0] []

noncomputable def cLC (P : Params) (q : Nat) : Code := toLoop (oLE P q).c
noncomputable def fsLC (P : Params) (A : LA) (k6 : Result → Sem Fin) (x : RF) (q : Nat) : List Frame := (oLE P q).fs ++ fsL P A k6 x
theorem chk_LE (P : Params) : ((oLE P 100).fs.length, match cLC P 100 with | .compLoop _ _ it acc _ => (it, acc) | _ => (.none, .none)) = (1, .ref 104, .ref 105) := by kernel_rfl

noncomputable def oneI (nm : List Nat) : Option Int → List (List Nat × VD)
  | none => []
  | some a => [(nm, .int a)]
noncomputable def leM (q : Addr) (tx : Str) (tk : Tok) (st : Int) (va : SV) (x left : Int) (rs : Array Value) (fo : Option Int) : DM :=
  [(q, .dict c_frame [([115, 116, 97, 114, 116], .int st)]), (q + 1, .cell (some (.raw (.str tx tk)))), (q + 2, .cell (some (.raw va.val))), (q + 4, .fields c_rangeit [.raw (.int x 0), .raw (.int left 0), .raw (.int 1 0)]), (q + 5, .arr c_list rs), (q + 6, .dict c_dict (oneI [97, 116] fo))]

noncomputable def LE0_h : List Hint := [.b, .b, .o 1, .o 1, .o 2, .o 2, .o 0, .o 0, .b, .b, .b, .b, .b, .o 2, .b, .b, .o 1, .s 0 0, .o 0, .o 0, .o 0, .o 0, .o 0, .o 0, .s 1 0, .o 0, .o 2, .o 2, .o 2, .o 2]
noncomputable def LE0_h2 : List Hint := [.b, .b, .o 1, .o 1, .o 2, .o 2, .o 0, .o 0, .b, .b, .b, .b, .b, .o 2, .b, .b, .o 1, .s 0 0, .o 0, .o 0, .o 0, .o 0, .o 0, .o 0, .s 1 0, .o 0]
noncomputable def LE0_sp (w : World) (s₀ : Shared) (b1 b2 : Bool) (A : LA) (tx : Str) (tk : Tok) (k6 : Result → Sem Fin) (x : RF) (st : Int) (va : SV) (tt : Tok) (τ : Nat → Nat → Tok) (ν : Nat → Nat) (N T G : Nat) : List Spec := [spLen ((.str tx tk)) ((tx).length : Int),
  spRIter (N + 3) 0 (st) tt (((tx).length : Int)) (T + 2) (T + 3)]
theorem LE0_r (w : World) (s₀ : Shared) (b1 b2 : Bool) (A : LA) (tx : Str) (tk : Tok) (k6 : Result → Sem Fin) (x : RF) (st : Int) (va : SV) (tt : Tok)  (p : Pos) (τ : Nat → Nat → Tok) (ν : Nat → Nat) (N T G : Nat) :
  EndsQ w.params (run ((K5 w s₀ b1 b2).V [] N T G (LE0_sp w s₀ b1 b2 A tx tk k6 x st va tt τ ν N T G)) (cond b2 62 72) (denF (cLE tx tk st tt va)) (cLE tx tk st tt va) p (fsL w.params A k6 x) (memOf w.params τ ν 0 (([] : DM))) 0 0 [] 0 (cond b2 LE0_h2 LE0_h) []) [6, 5, 4, 2, 1, 0]
    (denF (cLC w.params N)) (cLC w.params N) (fsLC w.params A k6 x N) (leM N tx tk st va st (tx.length - st) #[] none) [] := by
  cases b1 <;> cases va <;> cases b2 <;> (unfold EndsQ; kernel_rfl)
theorem LE0 (w : World) (s₀ : Shared) (b1 b2 : Bool) (Y : Sys (K5 w s₀ b1 b2)) (A : LA) (tx : Str) (tk : Tok) (k6 : Result → Sem Fin) (x : RF) (st : Int) (va : SV) (tt : Tok)  (h0 : ((tx).length : Int) < 2 ^ 63) (h1 : 0 ≤ (st)) (h2 : (st) ≤ (((tx).length : Int))) (h3 : (((tx).length : Int)) < 1000) {L : DM} {s : Shared} {p : Pos} (S : StD (K5 w s₀ b1 b2) (([] : DM) ++ L) [] s)
    (next : ∀ (τ : Nat → Nat → Tok) (N T G : Nat) (s' : Shared) (p' : Pos), (K5 w s₀ b1 b2).B ≤ N → N ≤ s'.heap.objs.size → StD (K5 w s₀ b1 b2) (leM N tx tk st va st (tx.length - st) #[] none ++ L) [] s' → Y.H s' ⟨denF (cLC w.params N), cLC w.params N, p', fsLC w.params A k6 x N⟩) : Y.H s ⟨denF (cLE tx tk st tt va), cLE tx tk st tt va, p, fsL w.params A k6 x⟩ :=
  Y.seg (t' := fun τ N T G => denF (cLC w.params N)) (c' := fun N T G => cLC w.params N) (fs' := fun N T G => fsLC w.params A k6 x N) (d' := fun N T G => leM N tx tk st va st (tx.length - st) #[] none) (gm' := fun N T G => []) S (by decide) (LE0_sp w s₀ b1 b2 A tx tk k6 x st va tt) (LE0_r w s₀ b1 b2 A tx tk k6 x st va tt  p) (fun τ ν N T G => .cons (ok_len_str _ _ h0) (.cons (ok_riter _ _ _ _ _ _ _ h1 h2 h3) (AllOk.nil))) next

noncomputable def LT_hit_s_h : List Hint := [.o 3, .s 0 0, .o 5, .o 5, .o 1, .o 5, .s 1 0, .o 2, .s 2 0, .o 5, .s 3 0]
noncomputable def LT_hit_s_sp (w : World) (s₀ : Shared) (b1 b2 : Bool) (A : LA) (tx : Str) (tk : Tok) (k6 : Result → Sem Fin) (x : RF) (q : Addr) (st xx left : Int) (rs : Array Value) (fo : Option Int) (sg : Nat) (vs : Str) (vt : Tok) (τ : Nat → Nat → Tok) (ν : Nat → Nat) (N T G : Nat) : List Spec := [spRNext (q + 4) 3 xx left,
  spV (callB "str.__getitem__" [(.str tx tk), .int (xx) (T + 0)]) (.str ⟨⟨[sg]⟩⟩) 1,
  spV (callB "str.__contains__" [(.str vs vt), .str (⟨⟨[sg]⟩⟩) (T + 2)]) (.bool false) 0,
  spPush (q + 5) 4 rs (ν 4) (.int (xx) (T + 0))]
theorem LT_hit_s_r (w : World) (s₀ : Shared) (b1 b2 : Bool) (A : LA) (tx : Str) (tk : Tok) (k6 : Result → Sem Fin) (x : RF) (q : Addr) (st xx left : Int) (rs : Array Value) (fo : Option Int) (sg : Nat) (vs : Str) (vt : Tok)  (p : Pos) (τ : Nat → Nat → Tok) (ν : Nat → Nat) (N T G : Nat) :
  EndsQ w.params (run ((K5 w s₀ b1 b2).V [] N T G (LT_hit_s_sp w s₀ b1 b2 A tx tk k6 x q st xx left rs fo sg vs vt τ ν N T G)) 24 (denF (cLC w.params q)) (cLC w.params q) p (fsLC w.params A k6 x q) (memOf w.params τ ν 0 (leM q tx tk st (.s vs vt) xx left rs fo)) 0 0 [] 0 LT_hit_s_h []) [0, 1, 2, 3, 4, 5]
    (denF (cLC w.params q)) (cLC w.params q) (fsLC w.params A k6 x q) (leM q tx tk st (.s vs vt) (xx + 1) (left - 1) (rs.push (.int (xx) (T + 0))) (some xx)) [] := by
  cases fo <;> (unfold EndsQ; kernel_rfl)
theorem LT_hit_s (w : World) (s₀ : Shared) (b1 b2 : Bool) (Y : Sys (K5 w s₀ b1 b2)) (A : LA) (tx : Str) (tk : Tok) (k6 : Result → Sem Fin) (x : RF) (q : Addr) (st xx left : Int) (rs : Array Value) (fo : Option Int) (sg : Nat) (vs : Str) (vt : Tok)  (h0 : 0 < left) (h1 : CharAt (tx) (xx) sg) (h2 : (!(Builtin.Str.occurrences (vs) (⟨⟨[sg]⟩⟩) 0 (vs).length 1).isEmpty) = false) (h3 : rs.size ≤ sizeLine) {L : DM} {s : Shared} {p : Pos} (S : StD (K5 w s₀ b1 b2) (leM q tx tk st (.s vs vt) xx left rs fo ++ L) [] s)
    (next : ∀ (τ : Nat → Nat → Tok) (N T G : Nat) (s' : Shared) (p' : Pos), (K5 w s₀ b1 b2).B ≤ N → N ≤ s'.heap.objs.size → StD (K5 w s₀ b1 b2) (leM q tx tk st (.s vs vt) (xx + 1) (left - 1) (rs.push (.int (xx) (T + 0))) (some xx) ++ L) [] s' → Y.H s' ⟨denF (cLC w.params q), cLC w.params q, p', fsLC w.params A k6 x q⟩) : Y.H s ⟨denF (cLC w.params q), cLC w.params q, p, fsLC w.params A k6 x q⟩ :=
  Y.seg (t' := fun τ N T G => denF (cLC w.params q)) (c' := fun N T G => cLC w.params q) (fs' := fun N T G => fsLC w.params A k6 x q) (d' := fun N T G => leM q tx tk st (.s vs vt) (xx + 1) (left - 1) (rs.push (.int (xx) (T + 0))) (some xx)) (gm' := fun N T G => []) S (by decide) (LT_hit_s_sp w s₀ b1 b2 A tx tk k6 x q st xx left rs fo sg vs vt) (LT_hit_s_r w s₀ b1 b2 A tx tk k6 x q st xx left rs fo sg vs vt  p) (fun τ ν N T G => .cons (ok1 rfl rfl rfl (sok_rnext _ _ _ _ h0)) (.cons (okv (sok_sget _ _ _ _ _ h1)) (.cons (okv (h2 ▸ sok_scontains _ _ _ _)) (.cons (ok1 rfl rfl rfl (sok_push _ _ _ _ _ h3)) (AllOk.nil))))) next

noncomputable def LT_hit_l_h : List Hint := [.o 3, .s 0 0, .o 5, .o 5, .o 1, .o 5, .s 1 0, .o 2, .o 6, .o 6, .s 2 0, .o 5, .s 3 0]
noncomputable def LT_hit_l_sp (w : World) (s₀ : Shared) (b1 b2 : Bool) (A : LA) (tx : Str) (tk : Tok) (k6 : Result → Sem Fin) (x : RF) (q : Addr) (st xx left : Int) (rs : Array Value) (fo : Option Int) (sg : Nat) (vl : Addr) (vs : Array Value) (τ : Nat → Nat → Tok) (ν : Nat → Nat) (N T G : Nat) : List Spec := [spRNext (q + 4) 3 xx left,
  spV (callB "str.__getitem__" [(.str tx tk), .int (xx) (T + 0)]) (.str ⟨⟨[sg]⟩⟩) 1,
  spHas vl 6 vs (ν 6) (.str (⟨⟨[sg]⟩⟩) (T + 2)) false,
  spPush (q + 5) 4 rs (ν 4) (.int (xx) (T + 0))]
theorem LT_hit_l_r (w : World) (s₀ : Shared) (b1 b2 : Bool) (A : LA) (tx : Str) (tk : Tok) (k6 : Result → Sem Fin) (x : RF) (q : Addr) (st xx left : Int) (rs : Array Value) (fo : Option Int) (sg : Nat) (vl : Addr) (vs : Array Value)  (p : Pos) (τ : Nat → Nat → Tok) (ν : Nat → Nat) (N T G : Nat) :
  EndsQ w.params (run ((K5 w s₀ b1 b2).V [] N T G (LT_hit_l_sp w s₀ b1 b2 A tx tk k6 x q st xx left rs fo sg vl vs τ ν N T G)) 26 (denF (cLC w.params q)) (cLC w.params q) p (fsLC w.params A k6 x q) (memOf w.params τ ν 0 (leM q tx tk st (.l vl) xx left rs fo ++ vlD vl vs)) 0 0 [] 0 LT_hit_l_h []) [0, 1, 2, 3, 4, 5, 6]
    (denF (cLC w.params q)) (cLC w.params q) (fsLC w.params A k6 x q) (leM q tx tk st (.l vl) (xx + 1) (left - 1) (rs.push (.int (xx) (T + 0))) (some xx) ++ vlD vl vs) [] := by
  cases fo <;> (unfold EndsQ; kernel_rfl)
theorem LT_hit_l (w : World) (s₀ : Shared) (b1 b2 : Bool) (Y : Sys (K5 w s₀ b1 b2)) (A : LA) (tx : Str) (tk : Tok) (k6 : Result → Sem Fin) (x : RF) (q : Addr) (st xx left : Int) (rs : Array Value) (fo : Option Int) (sg : Nat) (vl : Addr) (vs : Array Value)  (h0 : 0 < left) (h1 : CharAt (tx) (xx) sg) (h2 : HasS vs (⟨⟨[sg]⟩⟩) false) (h3 : rs.size ≤ sizeLine) {L : DM} {s : Shared} {p : Pos} (S : StD (K5 w s₀ b1 b2) (leM q tx tk st (.l vl) xx left rs fo ++ vlD vl vs ++ L) [] s)
    (next : ∀ (τ : Nat → Nat → Tok) (N T G : Nat) (s' : Shared) (p' : Pos), (K5 w s₀ b1 b2).B ≤ N → N ≤ s'.heap.objs.size → StD (K5 w s₀ b1 b2) (leM q tx tk st (.l vl) (xx + 1) (left - 1) (rs.push (.int (xx) (T + 0))) (some xx) ++ vlD vl vs ++ L) [] s' → Y.H s' ⟨denF (cLC w.params q), cLC w.params q, p', fsLC w.params A k6 x q⟩) : Y.H s ⟨denF (cLC w.params q), cLC w.params q, p, fsLC w.params A k6 x q⟩ :=
  Y.seg (t' := fun τ N T G => denF (cLC w.params q)) (c' := fun N T G => cLC w.params q) (fs' := fun N T G => fsLC w.params A k6 x q) (d' := fun N T G => leM q tx tk st (.l vl) (xx + 1) (left - 1) (rs.push (.int (xx) (T + 0))) (some xx) ++ vlD vl vs) (gm' := fun N T G => []) S (by decide) (LT_hit_l_sp w s₀ b1 b2 A tx tk k6 x q st xx left rs fo sg vl vs) (LT_hit_l_r w s₀ b1 b2 A tx tk k6 x q st xx left rs fo sg vl vs  p) (fun τ ν N T G => .cons (ok1 rfl rfl rfl (sok_rnext _ _ _ _ h0)) (.cons (okv (sok_sget _ _ _ _ _ h1)) (.cons (ok_has _ _ _ _ _ _ _ h2) (.cons (ok1 rfl rfl rfl (sok_push _ _ _ _ _ h3)) (AllOk.nil))))) next

noncomputable def LT_miss_s_h : List Hint := [.o 3, .s 0 0, .o 5, .o 5, .o 1, .o 5, .s 1 0, .o 2, .s 2 0]
noncomputable def LT_miss_s_sp (w : World) (s₀ : Shared) (b1 b2 : Bool) (A : LA) (tx : Str) (tk : Tok) (k6 : Result → Sem Fin) (x : RF) (q : Addr) (st xx left : Int) (rs : Array Value) (fo : Option Int) (sg : Nat) (vs : Str) (vt : Tok) (τ : Nat → Nat → Tok) (ν : Nat → Nat) (N T G : Nat) : List Spec := [spRNext (q + 4) 3 xx left,
  spV (callB "str.__getitem__" [(.str tx tk), .int (xx) (T + 0)]) (.str ⟨⟨[sg]⟩⟩) 1,
  spV (callB "str.__contains__" [(.str vs vt), .str (⟨⟨[sg]⟩⟩) (T + 2)]) (.bool true) 0]
theorem LT_miss_s_r (w : World) (s₀ : Shared) (b1 b2 : Bool) (A : LA) (tx : Str) (tk : Tok) (k6 : Result → Sem Fin) (x : RF) (q : Addr) (st xx left : Int) (rs : Array Value) (fo : Option Int) (sg : Nat) (vs : Str) (vt : Tok)  (p : Pos) (τ : Nat → Nat → Tok) (ν : Nat → Nat) (N T G : Nat) :
  EndsQ w.params (run ((K5 w s₀ b1 b2).V [] N T G (LT_miss_s_sp w s₀ b1 b2 A tx tk k6 x q st xx left rs fo sg vs vt τ ν N T G)) 21 (denF (cLC w.params q)) (cLC w.params q) p (fsLC w.params A k6 x q) (memOf w.params τ ν 0 (leM q tx tk st (.s vs vt) xx left rs fo)) 0 0 [] 0 LT_miss_s_h []) [0, 1, 2, 3, 4, 5]
    (denF (cLC w.params q)) (cLC w.params q) (fsLC w.params A k6 x q) (leM q tx tk st (.s vs vt) (xx + 1) (left - 1) rs (some xx)) [] := by
  cases fo <;> (unfold EndsQ; kernel_rfl)
theorem LT_miss_s (w : World) (s₀ : Shared) (b1 b2 : Bool) (Y : Sys (K5 w s₀ b1 b2)) (A : LA) (tx : Str) (tk : Tok) (k6 : Result → Sem Fin) (x : RF) (q : Addr) (st xx left : Int) (rs : Array Value) (fo : Option Int) (sg : Nat) (vs : Str) (vt : Tok)  (h0 : 0 < left) (h1 : CharAt (tx) (xx) sg) (h2 : (!(Builtin.Str.occurrences (vs) (⟨⟨[sg]⟩⟩) 0 (vs).length 1).isEmpty) = true) {L : DM} {s : Shared} {p : Pos} (S : StD (K5 w s₀ b1 b2) (leM q tx tk st (.s vs vt) xx left rs fo ++ L) [] s)
    (next : ∀ (τ : Nat → Nat → Tok) (N T G : Nat) (s' : Shared) (p' : Pos), (K5 w s₀ b1 b2).B ≤ N → N ≤ s'.heap.objs.size → StD (K5 w s₀ b1 b2) (leM q tx tk st (.s vs vt) (xx + 1) (left - 1) rs (some xx) ++ L) [] s' → Y.H s' ⟨denF (cLC w.params q), cLC w.params q, p', fsLC w.params A k6 x q⟩) : Y.H s ⟨denF (cLC w.params q), cLC w.params q, p, fsLC w.params A k6 x q⟩ :=
  Y.seg (t' := fun τ N T G => denF (cLC w.params q)) (c' := fun N T G => cLC w.params q) (fs' := fun N T G => fsLC w.params A k6 x q) (d' := fun N T G => leM q tx tk st (.s vs vt) (xx + 1) (left - 1) rs (some xx)) (gm' := fun N T G => []) S (by decide) (LT_miss_s_sp w s₀ b1 b2 A tx tk k6 x q st xx left rs fo sg vs vt) (LT_miss_s_r w s₀ b1 b2 A tx tk k6 x q st xx left rs fo sg vs vt  p) (fun τ ν N T G => .cons (ok1 rfl rfl rfl (sok_rnext _ _ _ _ h0)) (.cons (okv (sok_sget _ _ _ _ _ h1)) (.cons (okv (h2 ▸ sok_scontains _ _ _ _)) (AllOk.nil)))) next

noncomputable def LT_miss_l_h : List Hint := [.o 3, .s 0 0, .o 5, .o 5, .o 1, .o 5, .s 1 0, .o 2, .o 6, .o 6, .s 2 0]
noncomputable def LT_miss_l_sp (w : World) (s₀ : Shared) (b1 b2 : Bool) (A : LA) (tx : Str) (tk : Tok) (k6 : Result → Sem Fin) (x : RF) (q : Addr) (st xx left : Int) (rs : Array Value) (fo : Option Int) (sg : Nat) (vl : Addr) (vs : Array Value) (τ : Nat → Nat → Tok) (ν : Nat → Nat) (N T G : Nat) : List Spec := [spRNext (q + 4) 3 xx left,
  spV (callB "str.__getitem__" [(.str tx tk), .int (xx) (T + 0)]) (.str ⟨⟨[sg]⟩⟩) 1,
  spHas vl 6 vs (ν 6) (.str (⟨⟨[sg]⟩⟩) (T + 2)) true]
theorem LT_miss_l_r (w : World) (s₀ : Shared) (b1 b2 : Bool) (A : LA) (tx : Str) (tk : Tok) (k6 : Result → Sem Fin) (x : RF) (q : Addr) (st xx left : Int) (rs : Array Value) (fo : Option Int) (sg : Nat) (vl : Addr) (vs : Array Value)  (p : Pos) (τ : Nat → Nat → Tok) (ν : Nat → Nat) (N T G : Nat) :
  EndsQ w.params (run ((K5 w s₀ b1 b2).V [] N T G (LT_miss_l_sp w s₀ b1 b2 A tx tk k6 x q st xx left rs fo sg vl vs τ ν N T G)) 23 (denF (cLC w.params q)) (cLC w.params q) p (fsLC w.params A k6 x q) (memOf w.params τ ν 0 (leM q tx tk st (.l vl) xx left rs fo ++ vlD vl vs)) 0 0 [] 0 LT_miss_l_h []) [0, 1, 2, 3, 4, 5, 6]
    (denF (cLC w.params q)) (cLC w.params q) (fsLC w.params A k6 x q) (leM q tx tk st (.l vl) (xx + 1) (left - 1) rs (some xx) ++ vlD vl vs) [] := by
  cases fo <;> (unfold EndsQ; kernel_rfl)
theorem LT_miss_l (w : World) (s₀ : Shared) (b1 b2 : Bool) (Y : Sys (K5 w s₀ b1 b2)) (A : LA) (tx : Str) (tk : Tok) (k6 : Result → Sem Fin) (x : RF) (q : Addr) (st xx left : Int) (rs : Array Value) (fo : Option Int) (sg : Nat) (vl : Addr) (vs : Array Value)  (h0 : 0 < left) (h1 : CharAt (tx) (xx) sg) (h2 : HasS vs (⟨⟨[sg]⟩⟩) true) {L : DM} {s : Shared} {p : Pos} (S : StD (K5 w s₀ b1 b2) (leM q tx tk st (.l vl) xx left rs fo ++ vlD vl vs ++ L) [] s)
    (next : ∀ (τ : Nat → Nat → Tok) (N T G : Nat) (s' : Shared) (p' : Pos), (K5 w s₀ b1 b2).B ≤ N → N ≤ s'.heap.objs.size → StD (K5 w s₀ b1 b2) (leM q tx tk st (.l vl) (xx + 1) (left - 1) rs (some xx) ++ vlD vl vs ++ L) [] s' → Y.H s' ⟨denF (cLC w.params q), cLC w.params q, p', fsLC w.params A k6 x q⟩) : Y.H s ⟨denF (cLC w.params q), cLC w.params q, p, fsLC w.params A k6 x q⟩ :=
  Y.seg (t' := fun τ N T G => denF (cLC w.params q)) (c' := fun N T G => cLC w.params q) (fs' := fun N T G => fsLC w.params A k6 x q) (d' := fun N T G => leM q tx tk st (.l vl) (xx + 1) (left - 1) rs (some xx) ++ vlD vl vs) (gm' := fun N T G => []) S (by decide) (LT_miss_l_sp w s₀ b1 b2 A tx tk k6 x q st xx left rs fo sg vl vs) (LT_miss_l_r w s₀ b1 b2 A tx tk k6 x q st xx left rs fo sg vl vs  p) (fun τ ν N T G => .cons (ok1 rfl rfl rfl (sok_rnext _ _ _ _ h0)) (.cons (okv (sok_sget _ _ _ _ _ h1)) (.cons (ok_has _ _ _ _ _ _ _ h2) (AllOk.nil)))) next

end Mine
end

section
set_option linter.unusedVariables false
set_option linter.unusedSimpArgs false
set_option maxRecDepth 100000
set_option maxHeartbeats 0
namespace Mine
open PySem PySem.W PySem.W.X

noncomputable def oLM (P : Params) (q : Nat) : Out := run (V0 P (0)) 66 (denF (cLC P q)) (cLC P q) default ((oLE P q).fs) (memOf P (fun _ _ => 0) (fun _ => 0) 0 ([((q + 0), .dict c_frame [([115, 116, 97, 114, 116], .int 1)]), ((q + 1), .cell (some (.raw (.str ⟨⟨[97, 98]⟩⟩ 7)))), ((q + 2), .cell (some (.none))), ((q + 4), .fields c_rangeit [.raw (.int 2 0), .raw (.int 0 0), .raw (.int 1 0)]), ((q + 5), .arr c_list #[]), ((q + 6), .dict c_dict [([97, 116], .int 1)])])) 0 0 [] 0 [.o 3, .o 3, .o 3, .o 3, .o 3, .o 0, .o 7, .o 7, .o 7, .b, .b, .o 3, .o 7, .o 0, .o 7, .o 7, .o 0, .o 7, .o 0, .o 0, .o 0, .o 0, .o 0] []

noncomputable def cMin (it S : Addr) : Code := .builtin "min.loop" ⟨[.ref it, .none, .ref S], []⟩
noncomputable def fsM (P : Params) (A : LA) (k6 : Result → Sem Fin) (x : RF) (q : Nat) : List Frame := (oLM P q).fs ++ fsL P A k6 x
theorem chk_LM (P : Params) : ((oLM P 100).fs.length, match (oLM P 100).c with | .builtin _ ⟨[a, b, c], _⟩ => b | _ => .bool true) = (1, .none) := by kernel_rfl
noncomputable def minS : Option Int → List VD
  | none => []
  | some m => [.int m, .int m]
noncomputable def minM (it l S : Addr) (k : Nat) (xs : Array Value) (sv : Option Int) : DM := [(it, .fields c_listit [.ref l, .raw (.int (k : Int) 0)]), (l, .arr c_list xs), (S, .seq c_list (minS sv))]

noncomputable def LE1n_h : List Hint := [.o 3, .o 3, .o 3, .o 3, .o 3, .o 0, .o 7, .b, .b, .o 3, .s 0 0, .o 7, .o 0, .o 7, .s 1 0, .o 0, .o 0, .o 0, .o 0]
noncomputable def LE1n_sp (w : World) (s₀ : Shared) (b1 b2 : Bool) (A : LA) (tx : Str) (tk : Tok) (k6 : Result → Sem Fin) (x : RF) (q : Addr) (st xx : Int) (va : SV) (rs : Array Value) (τ : Nat → Nat → Tok) (ν : Nat → Nat) (N T G : Nat) : List Spec := [spLen ((.str tx tk)) ((tx).length : Int),
  spLAdd (q + 5) (N + 2) 7 0 rs (ν 4) (#[.int (((tx).length : Int)) (T + 1)] : Array Value) 0]
theorem LE1n_r (w : World) (s₀ : Shared) (b1 b2 : Bool) (A : LA) (tx : Str) (tk : Tok) (k6 : Result → Sem Fin) (x : RF) (q : Addr) (st xx : Int) (va : SV) (rs : Array Value)  (p : Pos) (τ : Nat → Nat → Tok) (ν : Nat → Nat) (N T G : Nat) :
  EndsQ w.params (run ((K5 w s₀ b1 b2).V [] N T G (LE1n_sp w s₀ b1 b2 A tx tk k6 x q st xx va rs τ ν N T G)) 47 (denF (cLC w.params q)) (cLC w.params q) p (fsLC w.params A k6 x q) (memOf w.params τ ν 0 (leM q tx tk st va xx 0 rs none)) 0 0 [] 0 LE1n_h []) [1, 2, 0]
    (denF (cMin (N + 4) (N + 5))) (cMin (N + 4) (N + 5)) (fsM w.params A k6 x q) (minM (N + 4) (N + 3) (N + 5) 0 (rs ++ (#[.int (((tx).length : Int)) (T + 1)] : Array Value)) none) [] := by
  cases b1 <;> cases va <;> (unfold EndsQ; kernel_rfl)
theorem LE1n (w : World) (s₀ : Shared) (b1 b2 : Bool) (Y : Sys (K5 w s₀ b1 b2)) (A : LA) (tx : Str) (tk : Tok) (k6 : Result → Sem Fin) (x : RF) (q : Addr) (st xx : Int) (va : SV) (rs : Array Value)  (h0 : ((tx).length : Int) < 2 ^ 63) (h1 : rs.size + 1 ≤ sizeLine) {L : DM} {s : Shared} {p : Pos} (S : StD (K5 w s₀ b1 b2) (leM q tx tk st va xx 0 rs none ++ L) [] s)
    (next : ∀ (τ : Nat → Nat → Tok) (N T G : Nat) (s' : Shared) (p' : Pos), (K5 w s₀ b1 b2).B ≤ N → N ≤ s'.heap.objs.size → StD (K5 w s₀ b1 b2) (minM (N + 4) (N + 3) (N + 5) 0 (rs ++ (#[.int (((tx).length : Int)) (T + 1)] : Array Value)) none ++ L) [] s' → Y.H s' ⟨denF (cMin (N + 4) (N + 5)), cMin (N + 4) (N + 5), p', fsM w.params A k6 x q⟩) : Y.H s ⟨denF (cLC w.params q), cLC w.params q, p, fsLC w.params A k6 x q⟩ :=
  Y.seg (t' := fun τ N T G => denF (cMin (N + 4) (N + 5))) (c' := fun N T G => cMin (N + 4) (N + 5)) (fs' := fun N T G => fsM w.params A k6 x q) (d' := fun N T G => minM (N + 4) (N + 3) (N + 5) 0 (rs ++ (#[.int (((tx).length : Int)) (T + 1)] : Array Value)) none) (gm' := fun N T G => []) S (by decide) (LE1n_sp w s₀ b1 b2 A tx tk k6 x q st xx va rs) (LE1n_r w s₀ b1 b2 A tx tk k6 x q st xx va rs  p) (fun τ ν N T G => .cons (ok_len_str _ _ h0) (.cons (ok_ladd _ _ _ _ _ _ _ _ h1) (AllOk.nil))) next

noncomputable def LE1s_h : List Hint := [.o 3, .o 3, .o 3, .o 3, .o 3, .o 0, .o 7, .o 7, .o 7, .b, .b, .o 3, .s 0 0, .o 7, .o 0, .o 7, .s 1 0, .o 0, .o 0, .o 0, .o 0]
noncomputable def LE1s_sp (w : World) (s₀ : Shared) (b1 b2 : Bool) (A : LA) (tx : Str) (tk : Tok) (k6 : Result → Sem Fin) (x : RF) (q : Addr) (st xx : Int) (va : SV) (rs : Array Value) (fo : Int) (τ : Nat → Nat → Tok) (ν : Nat → Nat) (N T G : Nat) : List Spec := [spLen ((.str tx tk)) ((tx).length : Int),
  spLAdd (q + 5) (N + 2) 7 0 rs (ν 4) (#[.int (((tx).length : Int)) (T + 1)] : Array Value) 0]
theorem LE1s_r (w : World) (s₀ : Shared) (b1 b2 : Bool) (A : LA) (tx : Str) (tk : Tok) (k6 : Result → Sem Fin) (x : RF) (q : Addr) (st xx : Int) (va : SV) (rs : Array Value) (fo : Int)  (p : Pos) (τ : Nat → Nat → Tok) (ν : Nat → Nat) (N T G : Nat) :
  EndsQ w.params (run ((K5 w s₀ b1 b2).V [] N T G (LE1s_sp w s₀ b1 b2 A tx tk k6 x q st xx va rs fo τ ν N T G)) 51 (denF (cLC w.params q)) (cLC w.params q) p (fsLC w.params A k6 x q) (memOf w.params τ ν 0 (leM q tx tk st va xx 0 rs (some fo))) 0 0 [] 0 LE1s_h []) [1, 2, 0]
    (denF (cMin (N + 4) (N + 5))) (cMin (N + 4) (N + 5)) (fsM w.params A k6 x q) (minM (N + 4) (N + 3) (N + 5) 0 (rs ++ (#[.int (((tx).length : Int)) (T + 1)] : Array Value)) none) [] := by
  cases b1 <;> cases va <;> (unfold EndsQ; kernel_rfl)
theorem LE1s (w : World) (s₀ : Shared) (b1 b2 : Bool) (Y : Sys (K5 w s₀ b1 b2)) (A : LA) (tx : Str) (tk : Tok) (k6 : Result → Sem Fin) (x : RF) (q : Addr) (st xx : Int) (va : SV) (rs : Array Value) (fo : Int)  (h0 : ((tx).length : Int) < 2 ^ 63) (h1 : rs.size + 1 ≤ sizeLine) {L : DM} {s : Shared} {p : Pos} (S : StD (K5 w s₀ b1 b2) (leM q tx tk st va xx 0 rs (some fo) ++ L) [] s)
    (next : ∀ (τ : Nat → Nat → Tok) (N T G : Nat) (s' : Shared) (p' : Pos), (K5 w s₀ b1 b2).B ≤ N → N ≤ s'.heap.objs.size → StD (K5 w s₀ b1 b2) (minM (N + 4) (N + 3) (N + 5) 0 (rs ++ (#[.int (((tx).length : Int)) (T + 1)] : Array Value)) none ++ L) [] s' → Y.H s' ⟨denF (cMin (N + 4) (N + 5)), cMin (N + 4) (N + 5), p', fsM w.params A k6 x q⟩) : Y.H s ⟨denF (cLC w.params q), cLC w.params q, p, fsLC w.params A k6 x q⟩ :=
  Y.seg (t' := fun τ N T G => denF (cMin (N + 4) (N + 5))) (c' := fun N T G => cMin (N + 4) (N + 5)) (fs' := fun N T G => fsM w.params A k6 x q) (d' := fun N T G => minM (N + 4) (N + 3) (N + 5) 0 (rs ++ (#[.int (((tx).length : Int)) (T + 1)] : Array Value)) none) (gm' := fun N T G => []) S (by decide) (LE1s_sp w s₀ b1 b2 A tx tk k6 x q st xx va rs fo) (LE1s_r w s₀ b1 b2 A tx tk k6 x q st xx va rs fo  p) (fun τ ν N T G => .cons (ok_len_str _ _ h0) (.cons (ok_ladd _ _ _ _ _ _ _ _ h1) (AllOk.nil))) next

noncomputable def M_first_h : List Hint := [.o 2, .o 0, .s 0 0, .o 2, .o 2, .o 2]
noncomputable def M_first_sp (w : World) (s₀ : Shared) (b1 b2 : Bool) (A : LA) (k6 : Result → Sem Fin) (x : RF) (q it l sa : Addr) (k : Nat) (xs : Array Value) (c : Int) (tc : Tok) (τ : Nat → Nat → Tok) (ν : Nat → Nat) (N T G : Nat) : List Spec := [spNext it l 0 1 xs (ν 1) (k : Nat) ((.int c tc))]
theorem M_first_r (w : World) (s₀ : Shared) (b1 b2 : Bool) (A : LA) (k6 : Result → Sem Fin) (x : RF) (q it l sa : Addr) (k : Nat) (xs : Array Value) (c : Int) (tc : Tok)  (p : Pos) (τ : Nat → Nat → Tok) (ν : Nat → Nat) (N T G : Nat) :
  EndsQ w.params (run ((K5 w s₀ b1 b2).V [] N T G (M_first_sp w s₀ b1 b2 A k6 x q it l sa k xs c tc τ ν N T G)) 7 (denF (cMin it sa)) (cMin it sa) p (fsM w.params A k6 x q) (memOf w.params τ ν 0 (minM it l sa k xs none)) 0 0 [] 0 M_first_h []) [0, 1, 2]
    (denF (cMin it sa)) (cMin it sa) (fsM w.params A k6 x q) (minM it l sa (k + 1) xs (some c)) [] := by
  cases b1 <;> (unfold EndsQ; kernel_rfl)
theorem M_first (w : World) (s₀ : Shared) (b1 b2 : Bool) (Y : Sys (K5 w s₀ b1 b2)) (A : LA) (k6 : Result → Sem Fin) (x : RF) (q it l sa : Addr) (k : Nat) (xs : Array Value) (c : Int) (tc : Tok)  (h0 : xs[k]? = some ((.int c tc))) {L : DM} {s : Shared} {p : Pos} (S : StD (K5 w s₀ b1 b2) (minM it l sa k xs none ++ L) [] s)
    (next : ∀ (τ : Nat → Nat → Tok) (N T G : Nat) (s' : Shared) (p' : Pos), (K5 w s₀ b1 b2).B ≤ N → N ≤ s'.heap.objs.size → StD (K5 w s₀ b1 b2) (minM it l sa (k + 1) xs (some c) ++ L) [] s' → Y.H s' ⟨denF (cMin it sa), cMin it sa, p', fsM w.params A k6 x q⟩) : Y.H s ⟨denF (cMin it sa), cMin it sa, p, fsM w.params A k6 x q⟩ :=
  Y.seg (t' := fun τ N T G => denF (cMin it sa)) (c' := fun N T G => cMin it sa) (fs' := fun N T G => fsM w.params A k6 x q) (d' := fun N T G => minM it l sa (k + 1) xs (some c)) (gm' := fun N T G => []) S (by decide) (M_first_sp w s₀ b1 b2 A k6 x q it l sa k xs c tc) (M_first_r w s₀ b1 b2 A k6 x q it l sa k xs c tc  p) (fun τ ν N T G => .cons (ok1 rfl rfl rfl (sok_next _ _ _ _ _ _ _ _ h0)) (AllOk.nil)) next

noncomputable def M_ge_h : List Hint := [.o 2, .o 0, .s 0 0, .s 1 0]
noncomputable def M_ge_sp (w : World) (s₀ : Shared) (b1 b2 : Bool) (A : LA) (k6 : Result → Sem Fin) (x : RF) (q it l sa : Addr) (k : Nat) (xs : Array Value) (m : Int) (c : Int) (tc : Tok) (τ : Nat → Nat → Tok) (ν : Nat → Nat) (N T G : Nat) : List Spec := [spNext it l 0 1 xs (ν 1) (k : Nat) ((.int c tc)),
  spV (II "int.__lt__" (c) tc (m) (τ 2 1)) (.bool false) 0]
theorem M_ge_r (w : World) (s₀ : Shared) (b1 b2 : Bool) (A : LA) (k6 : Result → Sem Fin) (x : RF) (q it l sa : Addr) (k : Nat) (xs : Array Value) (m : Int) (c : Int) (tc : Tok)  (p : Pos) (τ : Nat → Nat → Tok) (ν : Nat → Nat) (N T G : Nat) :
  EndsQ w.params (run ((K5 w s₀ b1 b2).V [] N T G (M_ge_sp w s₀ b1 b2 A k6 x q it l sa k xs m c tc τ ν N T G)) 9 (denF (cMin it sa)) (cMin it sa) p (fsM w.params A k6 x q) (memOf w.params τ ν 0 (minM it l sa k xs (some m))) 0 0 [] 0 M_ge_h []) [0, 1, 2]
    (denF (cMin it sa)) (cMin it sa) (fsM w.params A k6 x q) (minM it l sa (k + 1) xs (some m)) [] := by
  cases b1 <;> (unfold EndsQ; kernel_rfl)
theorem M_ge (w : World) (s₀ : Shared) (b1 b2 : Bool) (Y : Sys (K5 w s₀ b1 b2)) (A : LA) (k6 : Result → Sem Fin) (x : RF) (q it l sa : Addr) (k : Nat) (xs : Array Value) (m : Int) (c : Int) (tc : Tok)  (h0 : xs[k]? = some ((.int c tc))) (h1 : decide ((c) < (m)) = false) {L : DM} {s : Shared} {p : Pos} (S : StD (K5 w s₀ b1 b2) (minM it l sa k xs (some m) ++ L) [] s)
    (next : ∀ (τ : Nat → Nat → Tok) (N T G : Nat) (s' : Shared) (p' : Pos), (K5 w s₀ b1 b2).B ≤ N → N ≤ s'.heap.objs.size → StD (K5 w s₀ b1 b2) (minM it l sa (k + 1) xs (some m) ++ L) [] s' → Y.H s' ⟨denF (cMin it sa), cMin it sa, p', fsM w.params A k6 x q⟩) : Y.H s ⟨denF (cMin it sa), cMin it sa, p, fsM w.params A k6 x q⟩ :=
  Y.seg (t' := fun τ N T G => denF (cMin it sa)) (c' := fun N T G => cMin it sa) (fs' := fun N T G => fsM w.params A k6 x q) (d' := fun N T G => minM it l sa (k + 1) xs (some m)) (gm' := fun N T G => []) S (by decide) (M_ge_sp w s₀ b1 b2 A k6 x q it l sa k xs m c tc) (M_ge_r w s₀ b1 b2 A k6 x q it l sa k xs m c tc  p) (fun τ ν N T G => .cons (ok1 rfl rfl rfl (sok_next _ _ _ _ _ _ _ _ h0)) (.cons (okv (h1 ▸ sok_lt _ _ _ _)) (AllOk.nil))) next

noncomputable def M_end_h : List Hint := [.o 2, .o 0, .s 0 0, .o 0, .o 4, .o 4, .o 4]
noncomputable def M_end_sp (w : World) (s₀ : Shared) (b1 b2 : Bool) (A : LA) (k6 : Result → Sem Fin) (x : RF) (q it l sa : Addr) (k : Nat) (xs : Array Value) (m : Int) (τ : Nat → Nat → Tok) (ν : Nat → Nat) (N T G : Nat) : List Spec := [spEnd it l 0 1 xs (ν 1) (k : Nat)]
theorem M_end_r (w : World) (s₀ : Shared) (b1 b2 : Bool) (A : LA) (k6 : Result → Sem Fin) (x : RF) (q it l sa : Addr) (k : Nat) (xs : Array Value) (m : Int)  (p : Pos) (τ : Nat → Nat → Tok) (ν : Nat → Nat) (N T G : Nat) :
  EndsQ w.params (run ((K5 w s₀ b1 b2).V [] N T G (M_end_sp w s₀ b1 b2 A k6 x q it l sa k xs m τ ν N T G)) 11 (denF (cMin it sa)) (cMin it sa) p (fsM w.params A k6 x q) (memOf w.params τ ν 0 (minM it l sa k xs (some m))) 0 0 [] 0 M_end_h []) []
    ((x.k (.ok (.ret (.int m (τ 2 0)))) : Sem Fin)) (cDue w.params A) (fsD w.params A k6) (([] : DM)) [] := by
  (unfold EndsQ; kernel_rfl)
theorem M_end (w : World) (s₀ : Shared) (b1 b2 : Bool) (Y : Sys (K5 w s₀ b1 b2)) (A : LA) (k6 : Result → Sem Fin) (x : RF) (q it l sa : Addr) (k : Nat) (xs : Array Value) (m : Int)  (h0 : xs[k]? = none) {L : DM} {s : Shared} {p : Pos} (S : StD (K5 w s₀ b1 b2) (minM it l sa k xs (some m) ++ L) [] s)
    (next : ∀ (τ : Nat → Nat → Tok) (N T G : Nat) (s' : Shared) (p' : Pos), (K5 w s₀ b1 b2).B ≤ N → N ≤ s'.heap.objs.size → StD (K5 w s₀ b1 b2) (([] : DM) ++ L) [] s' → Y.H s' ⟨(x.k (.ok (.ret (.int m (τ 2 0)))) : Sem Fin), cDue w.params A, p', fsD w.params A k6⟩) : Y.H s ⟨denF (cMin it sa), cMin it sa, p, fsM w.params A k6 x q⟩ :=
  Y.seg (t' := fun τ N T G => (x.k (.ok (.ret (.int m (τ 2 0)))) : Sem Fin)) (c' := fun N T G => cDue w.params A) (fs' := fun N T G => fsD w.params A k6) (d' := fun N T G => ([] : DM)) (gm' := fun N T G => []) S (by decide) (M_end_sp w s₀ b1 b2 A k6 x q it l sa k xs m) (M_end_r w s₀ b1 b2 A k6 x q it l sa k xs m  p) (fun τ ν N T G => .cons (ok_end _ _ _ _ _ _ _ h0) (AllOk.nil)) next

end Mine
end

section
set_option linter.unusedVariables false
set_option linter.unusedSimpArgs false
set_option maxRecDepth 100000
set_option maxHeartbeats 0
namespace Mine
open PySem PySem.W PySem.W.X

noncomputable def oDO (P : Params) (A : LA) (tx : Str) (tk : Tok) (e1 : Int) (te : Tok) : Out := run (V0 P (0)) 6 ((rI P A tx tk).k (.ok (.ret (.int e1 te)))) (cDue P A) default ([]) (memOf P (fun _ _ => 0) (fun _ => 0) 0 ([(A.L0, .dict c_frame [([115, 99, 114, 105, 112, 116], .none), ([110, 117, 109, 98, 101, 114, 115], .none), ([115, 105, 122, 101], .none), ([112, 108, 97, 99, 101], .none), ([110], .none), ([109, 97, 115, 107], .none), ([104, 101, 97, 100, 115], .none), ([114, 117, 110], .none), ([116, 97, 105, 108], .none), ([112, 108, 97, 99, 101, 115], .none), ([99, 104, 97, 114, 115], .none), ([115, 105, 103, 110], .none), ([102, 105, 108, 101], .none), ([99, 111, 108], .none), ([114, 111, 119], .none), ([103, 111, 116], .ref A.acc), ([100, 117, 101], .ref 0), ([107, 105, 110, 100], .none), ([100, 114, 111, 112, 112, 101, 100], .none)]), (A.cat, .cell (some (.int 0))), (A.ctx, .cell (some (.raw (.str tx tk))))])) 0 0 [] 0 [.o 0, .b] []

noncomputable def rO (P : Params) (A : LA) (tx : Str) (tk : Tok) : RF := rfOf (oDO P A tx tk 0 0).fs
theorem chk_DO (P : Params) (A : LA) (tx : Str) (tk : Tok) : ((oDO P A tx tk 0 0).fs.length, match (oDO P A tx tk 0 0).c with | .call f ⟨l, _⟩ => (f, l.length) | _ => (.none, 0)) = (1, .ref 258, 3) := by kernel_rfl
theorem fs_O (P : Params) (A : LA) (k6 : Result → Sem Fin) (tx : Str) (tk : Tok) : (oDO P A tx tk 0 0).fs ++ fsD P A k6 = fsL P A k6 (rO P A tx tk) := by kernel_rfl

noncomputable def D2_h : List Hint := [.o 0, .b]
noncomputable def D2_sp (w : World) (s₀ : Shared) (b1 b2 : Bool) (A : LA) (v : LV) (r tl : SV) (du : Addr) (tx : Str) (tk : Tok) (ks : Array Value) (k6 : Result → Sem Fin) (x : XD) (at_ : Int) (nm : Str) (dv : Bool) (e1 : Int) (te : Tok) (τ : Nat → Nat → Tok) (ν : Nat → Nat) (N T G : Nat) : List Spec := []
theorem D2_r (w : World) (s₀ : Shared) (b1 b2 : Bool) (A : LA) (v : LV) (r tl : SV) (du : Addr) (tx : Str) (tk : Tok) (ks : Array Value) (k6 : Result → Sem Fin) (x : XD) (at_ : Int) (nm : Str) (dv : Bool) (e1 : Int) (te : Tok)  (p : Pos) (τ : Nat → Nat → Tok) (ν : Nat → Nat) (N T G : Nat) :
  EndsQ w.params (run ((K5 w s₀ b1 b2).V [] N T G (D2_sp w s₀ b1 b2 A v r tl du tx tk ks k6 x at_ nm dv e1 te τ ν N T G)) 6 (((rI w.params A tx tk).k (.ok (.ret (.int e1 te))) : Sem Fin)) (cDue w.params A) p (fsD w.params A k6) (memOf w.params τ ν 0 (dD A v r tl du (x.next nm dv) at_ tx tk ks)) 0 0 [] 0 D2_h []) [0, 1, 2, 3, 4]
    (denF (cLE tx tk e1 te tl)) (cLE tx tk e1 te tl) ((oDO w.params A tx tk 0 0).fs ++ fsD w.params A k6) (dD A v r tl du (x.next nm dv) at_ tx tk ks) [] := by
  cases r <;> cases tl <;> cases x <;> (unfold EndsQ; kernel_rfl)
theorem D2 (w : World) (s₀ : Shared) (b1 b2 : Bool) (Y : Sys (K5 w s₀ b1 b2)) (A : LA) (v : LV) (r tl : SV) (du : Addr) (tx : Str) (tk : Tok) (ks : Array Value) (k6 : Result → Sem Fin) (x : XD) (at_ : Int) (nm : Str) (dv : Bool) (e1 : Int) (te : Tok)   {L : DM} {s : Shared} {p : Pos} (S : StD (K5 w s₀ b1 b2) (dD A v r tl du (x.next nm dv) at_ tx tk ks ++ L) [] s)
    (next : ∀ (τ : Nat → Nat → Tok) (N T G : Nat) (s' : Shared) (p' : Pos), (K5 w s₀ b1 b2).B ≤ N → N ≤ s'.heap.objs.size → StD (K5 w s₀ b1 b2) (dD A v r tl du (x.next nm dv) at_ tx tk ks ++ L) [] s' → Y.H s' ⟨denF (cLE tx tk e1 te tl), cLE tx tk e1 te tl, p', (oDO w.params A tx tk 0 0).fs ++ fsD w.params A k6⟩) : Y.H s ⟨((rI w.params A tx tk).k (.ok (.ret (.int e1 te))) : Sem Fin), cDue w.params A, p, fsD w.params A k6⟩ :=
  Y.seg (t' := fun τ N T G => denF (cLE tx tk e1 te tl)) (c' := fun N T G => cLE tx tk e1 te tl) (fs' := fun N T G => (oDO w.params A tx tk 0 0).fs ++ fsD w.params A k6) (d' := fun N T G => dD A v r tl du (x.next nm dv) at_ tx tk ks) (gm' := fun N T G => []) S (by decide) (D2_sp w s₀ b1 b2 A v r tl du tx tk ks k6 x at_ nm dv e1 te) (D2_r w s₀ b1 b2 A v r tl du tx tk ks k6 x at_ nm dv e1 te  p) (fun τ ν N T G => AllOk.nil) next

noncomputable def D3d_h : List Hint := [.o 0, .o 0, .o 0, .o 0, .o 1, .o 1]
noncomputable def D3d_sp (w : World) (s₀ : Shared) (b1 b2 : Bool) (A : LA) (v : LV) (r tl : SV) (du : Addr) (tx : Str) (tk : Tok) (ks : Array Value) (k6 : Result → Sem Fin) (x : XD) (at_ : Int) (nm : Str) (e2 : Int) (te : Tok) (τ : Nat → Nat → Tok) (ν : Nat → Nat) (N T G : Nat) : List Spec := []
theorem D3d_r (w : World) (s₀ : Shared) (b1 b2 : Bool) (A : LA) (v : LV) (r tl : SV) (du : Addr) (tx : Str) (tk : Tok) (ks : Array Value) (k6 : Result → Sem Fin) (x : XD) (at_ : Int) (nm : Str) (e2 : Int) (te : Tok)  (p : Pos) (τ : Nat → Nat → Tok) (ν : Nat → Nat) (N T G : Nat) :
  EndsQ w.params (run ((K5 w s₀ b1 b2).V [] N T G (D3d_sp w s₀ b1 b2 A v r tl du tx tk ks k6 x at_ nm e2 te τ ν N T G)) 21 (((rO w.params A tx tk).k (.ok (.ret (.int e2 te))) : Sem Fin)) (cDue w.params A) p (fsD w.params A k6) (memOf w.params τ ν 0 (dD A v r tl du (x.next nm true) at_ tx tk ks)) 0 0 [] 0 D3d_h []) [0, 1, 2, 3, 4]
    (denF (cDue w.params A)) (cDue w.params A) (fsD w.params A k6) (dD A v r tl du ((x.next nm true).fin e2) e2 tx tk ks) [] := by
  cases r <;> cases tl <;> cases x <;> (unfold EndsQ; kernel_rfl)
theorem D3d (w : World) (s₀ : Shared) (b1 b2 : Bool) (Y : Sys (K5 w s₀ b1 b2)) (A : LA) (v : LV) (r tl : SV) (du : Addr) (tx : Str) (tk : Tok) (ks : Array Value) (k6 : Result → Sem Fin) (x : XD) (at_ : Int) (nm : Str) (e2 : Int) (te : Tok)   {L : DM} {s : Shared} {p : Pos} (S : StD (K5 w s₀ b1 b2) (dD A v r tl du (x.next nm true) at_ tx tk ks ++ L) [] s)
    (next : ∀ (τ : Nat → Nat → Tok) (N T G : Nat) (s' : Shared) (p' : Pos), (K5 w s₀ b1 b2).B ≤ N → N ≤ s'.heap.objs.size → StD (K5 w s₀ b1 b2) (dD A v r tl du ((x.next nm true).fin e2) e2 tx tk ks ++ L) [] s' → Y.H s' ⟨denF (cDue w.params A), cDue w.params A, p', fsD w.params A k6⟩) : Y.H s ⟨((rO w.params A tx tk).k (.ok (.ret (.int e2 te))) : Sem Fin), cDue w.params A, p, fsD w.params A k6⟩ :=
  Y.seg (t' := fun τ N T G => denF (cDue w.params A)) (c' := fun N T G => cDue w.params A) (fs' := fun N T G => fsD w.params A k6) (d' := fun N T G => dD A v r tl du ((x.next nm true).fin e2) e2 tx tk ks) (gm' := fun N T G => []) S (by decide) (D3d_sp w s₀ b1 b2 A v r tl du tx tk ks k6 x at_ nm e2 te) (D3d_r w s₀ b1 b2 A v r tl du tx tk ks k6 x at_ nm e2 te  p) (fun τ ν N T G => AllOk.nil) next

noncomputable def D3k_h : List Hint := [.o 0, .o 0, .o 0, .o 0, .o 5, .o 5, .o 5, .o 5, .o 0, .o 2, .o 1, .o 0, .s 0 0, .o 2, .o 3, .o 8, .o 8, .o 8, .s 1 0, .o 0, .o 9, .o 0, .o 0, .o 9, .o 0, .o 9, .s 2 0, .o 3, .o 4, .o 4]
noncomputable def D3k_sp (w : World) (s₀ : Shared) (b1 b2 : Bool) (A : LA) (v : LV) (r tl : SV) (du : Addr) (tx : Str) (tk : Tok) (ks : Array Value) (k6 : Result → Sem Fin) (x : XD) (at_ : Int) (nm : Str) (e2 : Int) (te : Tok) (ds ps : Array Value) (pl : Addr) (row col : Int) (file y : Str) (wh : Bool) (τ : Nat → Nat → Tok) (ν : Nat → Nat) (N T G : Nat) : List Spec := [spSSlice (tx) tk (N + 0) 0 (.int (at_) (τ 1 0)) ((.int e2 te)) y wh,
  spItem v.pls 8 ps (ν 6) (at_) (τ 1 0) (.ref pl),
  spPush du 8 ds (ν 5) (.ref (N + 2))]
theorem D3k_r (w : World) (s₀ : Shared) (b1 b2 : Bool) (A : LA) (v : LV) (r tl : SV) (du : Addr) (tx : Str) (tk : Tok) (ks : Array Value) (k6 : Result → Sem Fin) (x : XD) (at_ : Int) (nm : Str) (e2 : Int) (te : Tok) (ds ps : Array Value) (pl : Addr) (row col : Int) (file y : Str) (wh : Bool)  (p : Pos) (τ : Nat → Nat → Tok) (ν : Nat → Nat) (N T G : Nat) :
  EndsQ w.params (run ((K5 w s₀ b1 b2).V [] N T G (D3k_sp w s₀ b1 b2 A v r tl du tx tk ks k6 x at_ nm e2 te ds ps pl row col file y wh τ ν N T G)) 69 (((rO w.params A tx tk).k (.ok (.ret (.int e2 te))) : Sem Fin)) (cDue w.params A) p (fsD w.params A k6) (memOf w.params τ ν 0 (dD A v r tl du (x.next nm false) at_ tx tk ks ++ ([(du, .arr c_list ds), (v.pls, .arr c_list ps), (pl, .seq c_tuple [.int row, .int col, .str file])] : DM))) 0 0 [] 0 D3k_h []) [3, 4, 5, 6, 7, 8, 9, 10, 0]
    (denF (cDue w.params A)) (cDue w.params A) (fsD w.params A k6) (dD A v r tl du ((x.next nm false).fin e2) e2 tx tk ks ++ ([(du, .arr c_list (ds.push (.ref (N + 2)))), (v.pls, .arr c_list ps), (pl, .seq c_tuple [.int row, .int col, .str file]), (N + 2, rowD ⟨nm, y, row, col, file⟩)] : DM)) [] := by
  cases r <;> cases tl <;> cases x <;> (unfold EndsQ; kernel_rfl)
theorem D3k (w : World) (s₀ : Shared) (b1 b2 : Bool) (Y : Sys (K5 w s₀ b1 b2)) (A : LA) (v : LV) (r tl : SV) (du : Addr) (tx : Str) (tk : Tok) (ks : Array Value) (k6 : Result → Sem Fin) (x : XD) (at_ : Int) (nm : Str) (e2 : Int) (te : Tok) (ds ps : Array Value) (pl : Addr) (row col : Int) (file y : Str) (wh : Bool)  (h0 : SSliceL (tx) (some (at_)) (some (e2)) y wh) (h1 : ItemAt ps (at_) (.ref pl)) (h2 : ds.size ≤ sizeLine) {L : DM} {s : Shared} {p : Pos} (S : StD (K5 w s₀ b1 b2) (dD A v r tl du (x.next nm false) at_ tx tk ks ++ ([(du, .arr c_list ds), (v.pls, .arr c_list ps), (pl, .seq c_tuple [.int row, .int col, .str file])] : DM) ++ L) [] s)
    (next : ∀ (τ : Nat → Nat → Tok) (N T G : Nat) (s' : Shared) (p' : Pos), (K5 w s₀ b1 b2).B ≤ N → N ≤ s'.heap.objs.size → StD (K5 w s₀ b1 b2) (dD A v r tl du ((x.next nm false).fin e2) e2 tx tk ks ++ ([(du, .arr c_list (ds.push (.ref (N + 2)))), (v.pls, .arr c_list ps), (pl, .seq c_tuple [.int row, .int col, .str file]), (N + 2, rowD ⟨nm, y, row, col, file⟩)] : DM) ++ L) [] s' → Y.H s' ⟨denF (cDue w.params A), cDue w.params A, p', fsD w.params A k6⟩) : Y.H s ⟨((rO w.params A tx tk).k (.ok (.ret (.int e2 te))) : Sem Fin), cDue w.params A, p, fsD w.params A k6⟩ :=
  Y.seg (t' := fun τ N T G => denF (cDue w.params A)) (c' := fun N T G => cDue w.params A) (fs' := fun N T G => fsD w.params A k6) (d' := fun N T G => dD A v r tl du ((x.next nm false).fin e2) e2 tx tk ks ++ ([(du, .arr c_list (ds.push (.ref (N + 2)))), (v.pls, .arr c_list ps), (pl, .seq c_tuple [.int row, .int col, .str file]), (N + 2, rowD ⟨nm, y, row, col, file⟩)] : DM)) (gm' := fun N T G => []) S (by decide) (D3k_sp w s₀ b1 b2 A v r tl du tx tk ks k6 x at_ nm e2 te ds ps pl row col file y wh) (D3k_r w s₀ b1 b2 A v r tl du tx tk ks k6 x at_ nm e2 te ds ps pl row col file y wh  p) (fun τ ν N T G => .cons (ok_ssliceL _ _ _ _ _ _ _ _ (by rfl) (by rfl) h0) (.cons (ok_item _ _ _ _ _ _ _ h1) (.cons (ok1 rfl rfl rfl (sok_push _ _ _ _ _ h2)) (AllOk.nil)))) next

noncomputable def oDE (P : Params) (A : LA) (du : Addr) : Out := run (V0 P (0)) 22 (denF (cDue P A)) (cDue P A) default ((oDue P A).fs) (memOf P (fun _ _ => 0) (fun _ => 0) 0 ([(A.L0, .dict c_frame [([115, 99, 114, 105, 112, 116], .none), ([110, 117, 109, 98, 101, 114, 115], .none), ([115, 105, 122, 101], .int 1), ([112, 108, 97, 99, 101], .none), ([110], .none), ([109, 97, 115, 107], .none), ([104, 101, 97, 100, 115], .none), ([114, 117, 110], .none), ([116, 97, 105, 108], .none), ([112, 108, 97, 99, 101, 115], .none), ([99, 104, 97, 114, 115], .none), ([115, 105, 103, 110], .none), ([102, 105, 108, 101], .none), ([99, 111, 108], .none), ([114, 111, 119], .none), ([103, 111, 116], .ref A.acc), ([100, 117, 101], .ref du), ([107, 105, 110, 100], .none), ([100, 114, 111, 112, 112, 101, 100], .none), ([101, 110, 100], .none)]), (A.cat, .cell (some (.int 1))), (A.acc, .arr c_list #[]), (du, .arr c_list #[])])) 0 0 [] 0 [.o 1, .o 0, .o 0, .o 0, .o 2, .o 3, .o 2] []

noncomputable def rE (P : Params) (A : LA) (du : Addr) : RF := rfOf (oDE P A du).fs
noncomputable def cLaw (P : Params) (A : LA) : Code := .func (lawB P) (lawEnv P A)
theorem chk_DE (P : Params) (A : LA) (du : Addr) : ((oDE P A du).fs.length, match (oDE P A du).c with | .call f ⟨l, _⟩ => (f, l) | _ => (.none, [])) = (1, .builtin "list.__eq__", [.ref A.acc, .ref du]) := by kernel_rfl
theorem fs_E (P : Params) (A : LA) (k6 : Result → Sem Fin) (du : Addr) : (oDE P A du).fs ++ [fCall k6] = [(rE P A du).fr (cLaw P A), fCall k6] := by kernel_rfl
theorem units_E (P : Params) (A : LA) (k6 : Result → Sem Fin) (du : Addr) : Nat.blt (unitsOf ([(rE P A du).fr (cLaw P A), fCall k6].map Frame.where_)) 5000 = true := by kernel_rfl

noncomputable def D4_h : List Hint := [.o 1, .o 0, .s 0 0, .o 0, .o 0, .o 5, .o 6, .o 5]
noncomputable def D4_sp (w : World) (s₀ : Shared) (b1 b2 : Bool) (A : LA) (v : LV) (r tl : SV) (du : Addr) (tx : Str) (tk : Tok) (ks : Array Value) (k6 : Result → Sem Fin) (x : XD) (at_ : Int) (got ds : Array Value) (τ : Nat → Nat → Tok) (ν : Nat → Nat) (N T G : Nat) : List Spec := [spV (II "int.__lt__" (at_) (τ 1 0) (v.size) (τ 0 5)) (.bool false) 0]
theorem D4_r (w : World) (s₀ : Shared) (b1 b2 : Bool) (A : LA) (v : LV) (r tl : SV) (du : Addr) (tx : Str) (tk : Tok) (ks : Array Value) (k6 : Result → Sem Fin) (x : XD) (at_ : Int) (got ds : Array Value)  (p : Pos) (τ : Nat → Nat → Tok) (ν : Nat → Nat) (N T G : Nat) :
  EndsQ w.params (run ((K5 w s₀ b1 b2).V [] N T G (D4_sp w s₀ b1 b2 A v r tl du tx tk ks k6 x at_ got ds τ ν N T G)) 20 (denF (cDue w.params A)) (cDue w.params A) p (fsD w.params A k6) (memOf w.params τ ν 0 (dD A v r tl du x at_ tx tk ks ++ ([(A.acc, .arr c_list got), (du, .arr c_list ds)] : DM))) 0 0 [] 0 D4_h []) [0, 1, 2, 3, 4, 5, 6]
    (denF (callB "list.__eq__" [.ref A.acc, .ref du])) (callB "list.__eq__" [.ref A.acc, .ref du]) ((oDE w.params A du).fs ++ [fCall k6]) (dD A v r tl du x at_ tx tk ks ++ ([(A.acc, .arr c_list got), (du, .arr c_list ds)] : DM)) [] := by
  cases b1 <;> cases r <;> cases tl <;> cases x <;> (unfold EndsQ; kernel_rfl)
theorem D4 (w : World) (s₀ : Shared) (b1 b2 : Bool) (Y : Sys (K5 w s₀ b1 b2)) (A : LA) (v : LV) (r tl : SV) (du : Addr) (tx : Str) (tk : Tok) (ks : Array Value) (k6 : Result → Sem Fin) (x : XD) (at_ : Int) (got ds : Array Value)  (h0 : decide ((at_) < (v.size)) = false) {L : DM} {s : Shared} {p : Pos} (S : StD (K5 w s₀ b1 b2) (dD A v r tl du x at_ tx tk ks ++ ([(A.acc, .arr c_list got), (du, .arr c_list ds)] : DM) ++ L) [] s)
    (next : ∀ (τ : Nat → Nat → Tok) (N T G : Nat) (s' : Shared) (p' : Pos), (K5 w s₀ b1 b2).B ≤ N → N ≤ s'.heap.objs.size → StD (K5 w s₀ b1 b2) (dD A v r tl du x at_ tx tk ks ++ ([(A.acc, .arr c_list got), (du, .arr c_list ds)] : DM) ++ L) [] s' → Y.H s' ⟨denF (callB "list.__eq__" [.ref A.acc, .ref du]), callB "list.__eq__" [.ref A.acc, .ref du], p', (oDE w.params A du).fs ++ [fCall k6]⟩) : Y.H s ⟨denF (cDue w.params A), cDue w.params A, p, fsD w.params A k6⟩ :=
  Y.seg (t' := fun τ N T G => denF (callB "list.__eq__" [.ref A.acc, .ref du])) (c' := fun N T G => callB "list.__eq__" [.ref A.acc, .ref du]) (fs' := fun N T G => (oDE w.params A du).fs ++ [fCall k6]) (d' := fun N T G => dD A v r tl du x at_ tx tk ks ++ ([(A.acc, .arr c_list got), (du, .arr c_list ds)] : DM)) (gm' := fun N T G => []) S (by decide) (D4_sp w s₀ b1 b2 A v r tl du tx tk ks k6 x at_ got ds) (D4_r w s₀ b1 b2 A v r tl du tx tk ks k6 x at_ got ds  p) (fun τ ν N T G => .cons (okv (h0 ▸ sok_lt _ _ _ _)) (AllOk.nil)) next

noncomputable def D5_h : List Hint := []
noncomputable def D5_sp (w : World) (s₀ : Shared) (b1 b2 : Bool) (A : LA) (k6 : Result → Sem Fin) (du : Addr) (τ : Nat → Nat → Tok) (ν : Nat → Nat) (N T G : Nat) : List Spec := []
theorem D5_r (w : World) (s₀ : Shared) (b1 b2 : Bool) (A : LA) (k6 : Result → Sem Fin) (du : Addr)  (p : Pos) (τ : Nat → Nat → Tok) (ν : Nat → Nat) (N T G : Nat) :
  EndsQ w.params (run ((K5 w s₀ b1 b2).V [] N T G (D5_sp w s₀ b1 b2 A k6 du τ ν N T G)) 2 (((rE w.params A du).k (.ok (.ret (.bool true))) : Sem Fin)) (cLaw w.params A) p ([fCall k6]) (memOf w.params τ ν 0 (([] : DM))) 0 0 [] 0 D5_h []) []
    ((k6 (.ok (.ret (.bool true))) : Sem Fin)) (.builtin b_caller {}) ([]) (([] : DM)) [] := by
  (unfold EndsQ; kernel_rfl)
theorem D5 (w : World) (s₀ : Shared) (b1 b2 : Bool) (Y : Sys (K5 w s₀ b1 b2)) (A : LA) (k6 : Result → Sem Fin) (du : Addr)   {L : DM} {s : Shared} {p : Pos} (S : StD (K5 w s₀ b1 b2) (([] : DM) ++ L) [] s)
    (next : ∀ (τ : Nat → Nat → Tok) (N T G : Nat) (s' : Shared) (p' : Pos), (K5 w s₀ b1 b2).B ≤ N → N ≤ s'.heap.objs.size → StD (K5 w s₀ b1 b2) (([] : DM) ++ L) [] s' → Y.H s' ⟨(k6 (.ok (.ret (.bool true))) : Sem Fin), .builtin b_caller {}, p', []⟩) : Y.H s ⟨((rE w.params A du).k (.ok (.ret (.bool true))) : Sem Fin), cLaw w.params A, p, [fCall k6]⟩ :=
  Y.seg (t' := fun τ N T G => (k6 (.ok (.ret (.bool true))) : Sem Fin)) (c' := fun N T G => .builtin b_caller {}) (fs' := fun N T G => []) (d' := fun N T G => ([] : DM)) (gm' := fun N T G => []) S (by decide) (D5_sp w s₀ b1 b2 A k6 du) (D5_r w s₀ b1 b2 A k6 du  p) (fun τ ν N T G => AllOk.nil) next

end Mine
end

section
set_option linter.unusedVariables false
set_option linter.unusedSimpArgs false
set_option maxRecDepth 100000
set_option maxHeartbeats 0
namespace Mine
open PySem PySem.W PySem.W.X

inductive PX where
  | o
  | f (pl nn msk : Int) (hh : Str) (r tl : SV)
noncomputable def pE4 (pl nn msk : Int) (hh : Str) (r tl : SV) : List (List Nat × VD) := [([112, 108, 97, 99, 101], .int pl), ([110], .int nn), ([109, 97, 115, 107], .int msk), ([104, 101, 97, 100, 115], .str hh), ([114, 117, 110], .raw r.val), ([116, 97, 105, 108], .raw tl.val)]
noncomputable def PX.e0 : PX → List (List Nat × VD)
  | .o => []
  | .f pl nn msk hh r tl => pE4 pl nn msk hh r tl
noncomputable def PX.e1 (x : PX) (pl nn msk : Int) : List (List Nat × VD) := match x with
  | .o => [([112, 108, 97, 99, 101], .int pl), ([110], .int nn), ([109, 97, 115, 107], .int msk)]
  | .f _ _ _ hh r tl => pE4 pl nn msk hh r tl
noncomputable def PX.e2 (x : PX) (pl nn msk : Int) (hh : Str) : List (List Nat × VD) := match x with
  | .o => [([112, 108, 97, 99, 101], .int pl), ([110], .int nn), ([109, 97, 115, 107], .int msk), ([104, 101, 97, 100, 115], .str hh)]
  | .f _ _ _ _ r tl => pE4 pl nn msk hh r tl
noncomputable def PX.e3 (x : PX) (pl nn msk : Int) (hh : Str) (r : SV) : List (List Nat × VD) := match x with
  | .o => [([112, 108, 97, 99, 101], .int pl), ([110], .int nn), ([109, 97, 115, 107], .int msk), ([104, 101, 97, 100, 115], .str hh), ([114, 117, 110], .raw r.val)]
  | .f _ _ _ _ _ tl => pE4 pl nn msk hh r tl
def intD : Option Int → VD
  | none => .none
  | some i => .int i
noncomputable def p0D (A : LA) (ns : Array Value) : DM :=
  [(A.L0, .dict c_frame [([115, 99, 114, 105, 112, 116], .ref 264), ([110, 117, 109, 98, 101, 114, 115], .ref A.nb)]), (A.ctx, .cell none), (A.cat, .cell none), (A.ccls, .cell none), (A.ch, .cell none), (A.cst, .cell none), (A.nb, .arr c_list ns)]
noncomputable def p1C (A : LA) (z : Addr) (sz : Int) (es : List (List Nat × VD)) (ns ks cs : Array Value) (j : Nat) : DM :=
  [(A.L0, .dict c_frame ([([115, 99, 114, 105, 112, 116], .ref 264), ([110, 117, 109, 98, 101, 114, 115], .ref A.nb), ([115, 105, 122, 101], .int sz)] ++ es)), (A.ctx, .cell none), (A.cat, .cell none), (A.ccls, .cell (some (.ref A.kl))), (A.ch, .cell none), (A.cst, .cell none), (A.nb, .arr c_list ns), (A.kl, .arr c_list ks), (z + 1, .arr c_list cs),
   (z + 2, .fields c_listit [.ref (z + 1), .raw (.int (j : Int) 0)])]
noncomputable def enD (r l : Addr) (x : VD) (j : Nat) (e : VD) : DM := [(r, .fields c_enum [x, .bool false, .ref l, .raw (.int (j : Int) 0), .none, e])]
noncomputable def p1D (A : LA) (z : Addr) (sz : Int) (es : List (List Nat × VD)) (ns ks cs : Array Value) (j : Nat) (e : Option Int) : DM := enD (z + 3) (z + 2) .none j (intD e) ++ p1C A z sz es ns ks cs j
noncomputable def mskOf (n : Int) (j : Nat) : Int := (n.fdiv 6 + 11 * (j : Int) + 3).fmod 64
noncomputable def cLS (m : Int) (t : Tok) : Code := .call (.ref 253) ⟨[.int m t], []⟩
noncomputable def cLaw0 (P : Params) (A : LA) : Code := .func (lawB P) (lawEnv P A)
noncomputable def restL (T : Nat) : Array Value := #[.int 14 (T + 0), .int 1536 (T + 1), .int 399397 (T + 2), .int 94 (T + 3), .int 98955 (T + 4), .int 30 (T + 5), .int 103 (T + 6), .int 14 (T + 7), .int 180 (T + 8), .int 57 (T + 9), .int 248 (T + 10), .int 2 (T + 11), .int 70 (T + 12), .int 160 (T + 13), .int 19 (T + 14), .int 45 (T + 15), .int 305 (T + 16), .int 10 (T + 17), .int 132 (T + 18), .int 50 (T + 19), .int 79 (T + 20)]

noncomputable def laN (N : Nat) : LA := ⟨N, 0, 0, 0, 0, N + 14⟩

noncomputable def P0_h : List Hint := [.b, .b, .o 5, .o 5, .b, .o 5, .o 7, .o 7, .o 7, .s 0 0, .b, .b, .b, .b, .b, .b, .b, .o 9, .o 11, .o 11, .o 11, .s 1 0, .s 2 0, .o 3, .o 3, .o 3, .s 3 0, .o 6, .o 0, .o 6, .s 4 0, .o 14, .o 14]
noncomputable def P0_sp (w : World) (s₀ : Shared) (b1 b2 : Bool) (k6 : Result → Sem Fin) (xs ys : Array Value) (nn : Nat) (τ : Nat → Nat → Tok) (ν : Nat → Nat) (N T G : Nat) : List Spec := [spSlice 264 (N + 6) 7 0 xs nn (.none) (.int (21) (T + 1)) ys,
  spSlice 264 (N + 10) 11 0 xs nn (.none) (.int (21) (T + 23)) ys,
  spLenL (N + 11) 0 ys 0,
  spSlice (N + 9) (N + 12) 3 0 (restL (T + 2)) 0 (.int ((ys.size : Int)) (T + 25)) (.none) (slicePick (restL (T + 2)) (some (ys.size : Int)) none none),
  spLAdd (N + 7) (N + 13) 6 0 ys 0 (slicePick (restL (T + 2)) (some (ys.size : Int)) none none) 0]
theorem P0_r (w : World) (s₀ : Shared) (b1 b2 : Bool) (k6 : Result → Sem Fin) (xs ys : Array Value) (nn : Nat)  (p : Pos) (τ : Nat → Nat → Tok) (ν : Nat → Nat) (N T G : Nat) :
  EndsQ w.params (run ((K5 w s₀ b1 b2).V [] N T G (P0_sp w s₀ b1 b2 k6 xs ys nn τ ν N T G)) 104 (denF (.call (.ref 263) ⟨[.ref 264], []⟩)) (.call (.ref 263) ⟨[.ref 264], []⟩) p ([fCall k6]) (memOf w.params τ ν 0 (([(264, .raw (listO xs nn))] : DM))) 0 0 [] 0 P0_h []) [14, 13, 12, 11, 10, 9, 0, 15]
    ((tailT (dropS 1 (lawB w.params)) (lawEnv w.params (laN N)))) (cLaw0 w.params (laN N)) ([fCall k6]) (p0D (laN N) (ys ++ (slicePick (restL (T + 2)) (some (ys.size : Int)) none none)) ++ ([(264, .raw (listO xs nn))] : DM)) [] := by
  cases b1 <;> (unfold EndsQ; kernel_rfl)
theorem P0 (w : World) (s₀ : Shared) (b1 b2 : Bool) (Y : Sys (K5 w s₀ b1 b2)) (k6 : Result → Sem Fin) (xs ys : Array Value) (nn : Nat)  (h0 : SliceL xs none (some (21)) ys) (h1 : (ys.size : Int) < 2 ^ 63) (h2 : ys.size ≤ 100) {L : DM} {s : Shared} {p : Pos} (S : StD (K5 w s₀ b1 b2) (([(264, .raw (listO xs nn))] : DM) ++ L) [] s)
    (next : ∀ (τ : Nat → Nat → Tok) (N T G : Nat) (s' : Shared) (p' : Pos), (K5 w s₀ b1 b2).B ≤ N → N ≤ s'.heap.objs.size → StD (K5 w s₀ b1 b2) (p0D (laN N) (ys ++ (slicePick (restL (T + 2)) (some (ys.size : Int)) none none)) ++ ([(264, .raw (listO xs nn))] : DM) ++ L) [] s' → Y.H s' ⟨(tailT (dropS 1 (lawB w.params)) (lawEnv w.params (laN N))), cLaw0 w.params (laN N), p', [fCall k6]⟩) : Y.H s ⟨denF (.call (.ref 263) ⟨[.ref 264], []⟩), .call (.ref 263) ⟨[.ref 264], []⟩, p, [fCall k6]⟩ :=
  Y.seg (t' := fun τ N T G => (tailT (dropS 1 (lawB w.params)) (lawEnv w.params (laN N)))) (c' := fun N T G => cLaw0 w.params (laN N)) (fs' := fun N T G => [fCall k6]) (d' := fun N T G => p0D (laN N) (ys ++ (slicePick (restL (T + 2)) (some (ys.size : Int)) none none)) ++ ([(264, .raw (listO xs nn))] : DM)) (gm' := fun N T G => []) S (by decide) (P0_sp w s₀ b1 b2 k6 xs ys nn) (P0_r w s₀ b1 b2 k6 xs ys nn  p) (fun τ ν N T G => .cons (ok_sliceL _ _ _ _ _ _ _ _ _ (by rfl) (by rfl) h0) (.cons (ok_sliceL _ _ _ _ _ _ _ _ _ (by rfl) (by rfl) h0) (.cons (ok_len_list _ _ _ _ h1) (.cons (ok_sliceC _ _ _ _ _ _ _ _ (by rfl) (by rfl) (Nat.le_of_ble_eq_true rfl)) (.cons (ok_laddC _ _ _ _ _ _ _ _ _ h2 (Nat.le_of_ble_eq_true rfl)) (AllOk.nil)))))) next

noncomputable def oF1 (P : Params) (A : LA) (z : Nat) : Out := run (V0 P (z)) 84 (tailT (dropS 3 (lawB P)) (lawEnv P A)) (cLaw0 P A) default ([]) (memOf P (fun _ _ => 0) (fun _ => 0) 0 ([(A.L0, .dict c_frame [([115, 99, 114, 105, 112, 116], .ref 264), ([110, 117, 109, 98, 101, 114, 115], .ref A.nb), ([115, 105, 122, 101], .int 15)]), (A.nb, .seq c_list [.int 5, .int 77, .int 12345, .int 99, .int 98955, .int 30, .int 103, .int 14, .int 180, .int 57, .int 248, .int 2, .int 70, .int 160, .int 19, .int 45, .int 305, .int 10, .int 132, .int 50, .int 79]), (A.ccls, .cell (some (.ref A.kl)))])) 0 0 [] 0 [.b, .b, .o 0, .o 0, .o 1, .o 1, .o 1, .o 1, .o 1, .o 2, .o 2, .o 2, .o 2, .o 0, .o 0, .o 0, .o 0, .o 0, .o 2, .o 0, .o 0, .o 0, .o 0, .o 0, .o 0, .o 0, .o 0, .o 0, .o 0, .o 0, .o 0] []

noncomputable def cF1 (P : Params) (A : LA) (z : Nat) : Code := (oF1 P A z).c
noncomputable def fsF1 (P : Params) (A : LA) (k6 : Result → Sem Fin) (z : Nat) : List Frame := (oF1 P A z).fs ++ [fCall k6]
theorem chk_F1 (P : Params) (A : LA) : ((oF1 P A 50).fs.length, match cF1 P A 50 with | .forLoop _ it b _ _ => (it, b.length) | _ => (.none, 0)) = (1, .ref 53, 6) := by kernel_rfl

noncomputable def P1_h : List Hint := [.o 0, .o 6, .o 6, .o 6, .s 0 0, .s 1 0, .s 2 0, .s 3 0, .s 4 0, .o 0, .o 0, .o 4, .o 4, .b, .b, .o 1, .o 1, .o 7, .o 7, .o 7, .s 5 0, .s 6 0, .s 7 0, .o 8, .o 8, .o 8, .s 8 0, .o 0, .o 0, .o 0, .o 0, .o 0, .o 0, .o 0, .o 0, .o 0, .o 0, .o 0, .o 0]
noncomputable def P1_sp (w : World) (s₀ : Shared) (b1 b2 : Bool) (A : LA) (k6 : Result → Sem Fin) (ns cs : Array Value) (n0 : Int) (t0 : Tok) (τ : Nat → Nat → Tok) (ν : Nat → Nat) (N T G : Nat) : List Spec := [spItem A.nb 6 ns (ν 6) (0) (T + 1) ((.int n0 t0)),
  spV (II "int.__floordiv__" (n0) t0 (3) (T + 2)) (.int ((n0).fdiv (3))) 1,
  spV (II "int.__mod__" (((n0).fdiv (3))) (T + 3) (4) (T + 4)) (.int ((((n0).fdiv (3))).fmod (4))) 1,
  spV (II "int.__pow__" (((((n0).fdiv (3))).fmod (4))) (T + 5) 2 (T + 6)) (.int ((((((n0).fdiv (3))).fmod (4))) * (((((n0).fdiv (3))).fmod (4))))) 1,
  spV (II "int.__sub__" (16) (T + 0) (((((((n0).fdiv (3))).fmod (4))) * (((((n0).fdiv (3))).fmod (4))))) (T + 7)) (.int ((16) - (((((((n0).fdiv (3))).fmod (4))) * (((((n0).fdiv (3))).fmod (4))))))) 1,
  spItem A.nb 7 ns (ν 6) (0) (T + 12) ((.int n0 t0)),
  spV (II "int.__mod__" (n0) t0 (3) (T + 13)) (.int ((n0).fmod (3))) 1,
  spV (II "int.__add__" (3) (T + 11) (((n0).fmod (3))) (T + 14)) (.int ((3) + (((n0).fmod (3))))) 1,
  spSlice A.nb (N + 1) 8 0 ns (ν 6) (.int (1) (T + 10)) (.int (((3) + (((n0).fmod (3))))) (T + 15)) cs]
theorem P1_r (w : World) (s₀ : Shared) (b1 b2 : Bool) (A : LA) (k6 : Result → Sem Fin) (ns cs : Array Value) (n0 : Int) (t0 : Tok)  (p : Pos) (τ : Nat → Nat → Tok) (ν : Nat → Nat) (N T G : Nat) :
  EndsQ w.params (run ((K5 w s₀ b1 b2).V [] N T G (P1_sp w s₀ b1 b2 A k6 ns cs n0 t0 τ ν N T G)) 100 ((tailT (dropS 1 (lawB w.params)) (lawEnv w.params A))) (cLaw0 w.params A) p ([fCall k6]) (memOf w.params τ ν 0 (p0D A ns)) 0 0 [] 0 P1_h []) [0, 5, 6, 7, 8, 9, 10, 11, 4, 2, 1]
    (denF (cF1 w.params (A.skl N) (N + 1))) (cF1 w.params (A.skl N) (N + 1)) (fsF1 w.params (A.skl N) k6 (N + 1)) (p1D (A.skl N) (N + 1) (16 - (n0.fdiv 3).fmod 4 * (n0.fdiv 3).fmod 4) [] ns #[] cs 0 none) [] := by
  cases b1 <;> (unfold EndsQ; kernel_rfl)
theorem P1 (w : World) (s₀ : Shared) (b1 b2 : Bool) (Y : Sys (K5 w s₀ b1 b2)) (A : LA) (k6 : Result → Sem Fin) (ns cs : Array Value) (n0 : Int) (t0 : Tok)  (h0 : ItemAt ns (0) ((.int n0 t0))) (h1 : 0 ≤ (((((n0).fdiv (3))).fmod (4)))) (h2 : (((((n0).fdiv (3))).fmod (4))) < 4) (h3 : SliceL ns (some (1)) (some (((3) + (((n0).fmod (3)))))) cs) {L : DM} {s : Shared} {p : Pos} (S : StD (K5 w s₀ b1 b2) (p0D A ns ++ L) [] s)
    (next : ∀ (τ : Nat → Nat → Tok) (N T G : Nat) (s' : Shared) (p' : Pos), (K5 w s₀ b1 b2).B ≤ N → N ≤ s'.heap.objs.size → StD (K5 w s₀ b1 b2) (p1D (A.skl N) (N + 1) (16 - (n0.fdiv 3).fmod 4 * (n0.fdiv 3).fmod 4) [] ns #[] cs 0 none ++ L) [] s' → Y.H s' ⟨denF (cF1 w.params (A.skl N) (N + 1)), cF1 w.params (A.skl N) (N + 1), p', fsF1 w.params (A.skl N) k6 (N + 1)⟩) : Y.H s ⟨(tailT (dropS 1 (lawB w.params)) (lawEnv w.params A)), cLaw0 w.params A, p, [fCall k6]⟩ :=
  Y.seg (t' := fun τ N T G => denF (cF1 w.params (A.skl N) (N + 1))) (c' := fun N T G => cF1 w.params (A.skl N) (N + 1)) (fs' := fun N T G => fsF1 w.params (A.skl N) k6 (N + 1)) (d' := fun N T G => p1D (A.skl N) (N + 1) (16 - (n0.fdiv 3).fmod 4 * (n0.fdiv 3).fmod 4) [] ns #[] cs 0 none) (gm' := fun N T G => []) S (by decide) (P1_sp w s₀ b1 b2 A k6 ns cs n0 t0) (P1_r w s₀ b1 b2 A k6 ns cs n0 t0  p) (fun τ ν N T G => .cons (ok_item _ _ _ _ _ _ _ h0) (.cons (okv (sok_div _ _ _ _ (by decide) (div_small _ _ (by decide)))) (.cons (okv (sok_mod _ _ _ _ (by decide))) (.cons (okv (sok_pow2 _ _ _ h1 h2)) (.cons (okv (sok_sub _ _ _ _ )) (.cons (ok_item _ _ _ _ _ _ _ h0) (.cons (okv (sok_mod _ _ _ _ (by decide))) (.cons (okv (sok_add _ _ _ _ )) (.cons (ok_sliceL _ _ _ _ _ _ _ _ _ (by rfl) (by rfl) h3) (AllOk.nil)))))))))) next

end Mine
end

section
set_option linter.unusedVariables false
set_option linter.unusedSimpArgs false
set_option maxRecDepth 100000
set_option maxHeartbeats 0
namespace Mine
open PySem PySem.W PySem.W.X

noncomputable def oS1 (P : Params) (A : LA) (z : Nat) : Out := run (V0 P (0)) 148 (denF (cF1 P A z)) (cF1 P A z) default ([]) (memOf P (fun _ _ => 0) (fun _ => 0) 0 ([(A.L0, .dict c_frame [([115, 99, 114, 105, 112, 116], .ref 264), ([110, 117, 109, 98, 101, 114, 115], .ref A.nb), ([115, 105, 122, 101], .int 15)]), ((z + 1), .seq c_list [.int 77, .int 12345, .int 99, .int 98955]), ((z + 2), .fields c_listit [.ref (z + 1), .raw (.int 0 0)]), ((z + 3), .fields c_enum [.none, .bool false, .ref (z + 2), .raw (.int 0 0), .none, .none])])) 0 0 [] 0 [.o 3, .o 3, .o 3, .o 2, .o 2, .o 2, .o 2, .o 1, .o 2, .o 2, .o 3, .o 3, .o 3, .o 3, .o 3, .o 3, .o 4, .o 4, .o 4, .o 4, .o 4, .o 4, .o 4, .o 4, .o 4, .o 4, .o 4, .o 0, .o 0, .o 0, .o 0, .o 0, .o 0, .o 0, .o 0, .o 0, .o 1, .o 0, .o 0, .o 0, .o 0, .o 0, .o 0, .o 1, .o 0, .o 0, .o 0, .o 0, .o 0, .o 0, .o 1, .o 0, .o 0, .o 0, .o 4, .o 4, .o 4, .o 4, .o 4, .o 4, .o 4, .o 4, .b, .o 4, .b] []

noncomputable def rS1 (P : Params) (A : LA) (z : Nat) : RF := rfOf (oS1 P A z).fs
noncomputable def fsS (P : Params) (A : LA) (k6 : Result → Sem Fin) (z : Nat) (x : RF) : List Frame := x.fr (cF1 P A z) :: fsF1 P A k6 z
theorem fs_S1 (P : Params) (A : LA) (k6 : Result → Sem Fin) (z : Nat) : (oS1 P A z).fs ++ fsF1 P A k6 z = fsS P A k6 z (rS1 P A z) := by kernel_rfl

theorem tup_F1 (P : Params) (A : LA) (z : Nat) : forTup (cF1 P A z) = some (z + 3) := by kernel_rfl

noncomputable def tupD (u : Addr) (vs : List VD) : DM := [(u, .seq c_tuple vs)]

noncomputable def PF1a_h : List Hint := [.o 0, .o 0, .o 0, .o 10, .s 0 0, .o 0, .o 0, .o 0, .o 0, .o 0, .o 0, .o 1, .o 1, .o 1, .o 1, .o 1, .o 1, .o 1, .o 1]
noncomputable def PF1a_sp (w : World) (s₀ : Shared) (b1 b2 : Bool) (A : LA) (z : Addr) (k6 : Result → Sem Fin) (sz : Int) (ns ks cs : Array Value) (j : Nat) (x : PX) (e : Option Int) (n : Int) (tn : Tok) (τ : Nat → Nat → Tok) (ν : Nat → Nat) (N T G : Nat) : List Spec := [spNext (z + 2) (z + 1) 10 9 cs (ν 9) (j : Nat) ((.int n tn))]
theorem PF1a_r (w : World) (s₀ : Shared) (b1 b2 : Bool) (A : LA) (z : Addr) (k6 : Result → Sem Fin) (sz : Int) (ns ks cs : Array Value) (j : Nat) (x : PX) (e : Option Int) (n : Int) (tn : Tok)  (p : Pos) (τ : Nat → Nat → Tok) (ν : Nat → Nat) (N T G : Nat) :
  EndsQ w.params (run ((K5 w s₀ b1 b2).V [] N T G (PF1a_sp w s₀ b1 b2 A z k6 sz ns ks cs j x e n tn τ ν N T G)) 27 (denF (cF1 w.params A z)) (cF1 w.params A z) p (fsF1 w.params A k6 z) (memOf w.params τ ν 0 ((enD (z + 3) (z + 2) .none j (intD e) ++ p1C A z sz x.e0 ns ks cs j))) 0 0 [] 0 PF1a_h []) [1, 2, 3, 4, 5, 6, 7, 8, 9, 10, 11, 0]
    (((rNx (V0 w.params 0) (cF1 w.params A z) (z + 3)).k (.ok (.ret (.ref (N + 0)))) : Sem Fin)) (cF1 w.params A z) (fsF1 w.params A k6 z) ((enD (z + 3) (z + 2) (.raw (.int (((N + 0) : Nat) : Int) 0)) (j + 1) (intD (some n)) ++ p1C A z sz x.e0 ns ks cs (j + 1)) ++ tupD (N + 0) [.int ((j : Nat) : Int), .raw (.int n tn)]) [] := by
  cases b1 <;> cases x <;> cases e <;> (unfold EndsQ; kernel_rfl)
theorem PF1a (w : World) (s₀ : Shared) (b1 b2 : Bool) (Y : Sys (K5 w s₀ b1 b2)) (A : LA) (z : Addr) (k6 : Result → Sem Fin) (sz : Int) (ns ks cs : Array Value) (j : Nat) (x : PX) (e : Option Int) (n : Int) (tn : Tok)  (h0 : cs[j]? = some ((.int n tn))) {L : DM} {s : Shared} {p : Pos} (S : StD (K5 w s₀ b1 b2) ((enD (z + 3) (z + 2) .none j (intD e) ++ p1C A z sz x.e0 ns ks cs j) ++ L) [] s)
    (next : ∀ (τ : Nat → Nat → Tok) (N T G : Nat) (s' : Shared) (p' : Pos), (K5 w s₀ b1 b2).B ≤ N → N ≤ s'.heap.objs.size → StD (K5 w s₀ b1 b2) ((enD (z + 3) (z + 2) (.raw (.int (((N + 0) : Nat) : Int) 0)) (j + 1) (intD (some n)) ++ p1C A z sz x.e0 ns ks cs (j + 1)) ++ tupD (N + 0) [.int ((j : Nat) : Int), .raw (.int n tn)] ++ L) [] s' → Y.H s' ⟨((rNx (V0 w.params 0) (cF1 w.params A z) (z + 3)).k (.ok (.ret (.ref (N + 0)))) : Sem Fin), cF1 w.params A z, p', fsF1 w.params A k6 z⟩) : Y.H s ⟨denF (cF1 w.params A z), cF1 w.params A z, p, fsF1 w.params A k6 z⟩ :=
  Y.seg (t' := fun τ N T G => ((rNx (V0 w.params 0) (cF1 w.params A z) (z + 3)).k (.ok (.ret (.ref (N + 0)))) : Sem Fin)) (c' := fun N T G => cF1 w.params A z) (fs' := fun N T G => fsF1 w.params A k6 z) (d' := fun N T G => (enD (z + 3) (z + 2) (.raw (.int (((N + 0) : Nat) : Int) 0)) (j + 1) (intD (some n)) ++ p1C A z sz x.e0 ns ks cs (j + 1)) ++ tupD (N + 0) [.int ((j : Nat) : Int), .raw (.int n tn)]) (gm' := fun N T G => []) S (by decide) (PF1a_sp w s₀ b1 b2 A z k6 sz ns ks cs j x e n tn) (PF1a_r w s₀ b1 b2 A z k6 sz ns ks cs j x e n tn  p) (fun τ ν N T G => .cons (ok1 rfl rfl rfl (sok_next _ _ _ _ _ _ _ _ h0)) (AllOk.nil)) next

noncomputable def PF1b_h : List Hint := [.o 11, .o 11, .o 11, .o 11, .o 0, .o 0, .o 0, .o 0, .o 0, .o 12, .o 0, .o 0, .o 0, .o 0, .o 0, .o 0, .o 12, .o 0, .o 0, .o 0, .o 0, .o 0, .o 0, .o 12, .o 0, .o 0, .o 0, .o 4, .o 4, .o 4, .o 4, .o 4, .s 0 0, .o 4, .s 1 0, .s 2 0, .s 3 0, .s 4 0, .o 4, .o 4, .b, .o 4, .b]
noncomputable def PF1b_sp (w : World) (s₀ : Shared) (b1 b2 : Bool) (A : LA) (z : Addr) (k6 : Result → Sem Fin) (sz : Int) (ns ks cs : Array Value) (j : Nat) (x : PX) (n : Int) (tn : Tok) (u : Addr) (τ : Nat → Nat → Tok) (ν : Nat → Nat) (N T G : Nat) : List Spec := [spV (II "int.__floordiv__" (n) tn (6) (T + 2)) (.int ((n).fdiv (6))) 1,
  spV (II "int.__mul__" (11) (T + 4) (((j : Nat) : Int)) (τ 11 0)) (.int ((11) * (((j : Nat) : Int)))) 1,
  spV (II "int.__add__" (((n).fdiv (6))) (T + 3) (((11) * (((j : Nat) : Int)))) (T + 5)) (.int ((((n).fdiv (6))) + (((11) * (((j : Nat) : Int)))))) 1,
  spV (II "int.__add__" (((((n).fdiv (6))) + (((11) * (((j : Nat) : Int)))))) (T + 6) (3) (T + 7)) (.int ((((((n).fdiv (6))) + (((11) * (((j : Nat) : Int)))))) + (3))) 1,
  spV (II "int.__mod__" (((((((n).fdiv (6))) + (((11) * (((j : Nat) : Int)))))) + (3))) (T + 8) (64) (T + 9)) (.int ((((((((n).fdiv (6))) + (((11) * (((j : Nat) : Int)))))) + (3))).fmod (64))) 1]
theorem PF1b_r (w : World) (s₀ : Shared) (b1 b2 : Bool) (A : LA) (z : Addr) (k6 : Result → Sem Fin) (sz : Int) (ns ks cs : Array Value) (j : Nat) (x : PX) (n : Int) (tn : Tok) (u : Addr)  (p : Pos) (τ : Nat → Nat → Tok) (ν : Nat → Nat) (N T G : Nat) :
  EndsQ w.params (run ((K5 w s₀ b1 b2).V [] N T G (PF1b_sp w s₀ b1 b2 A z k6 sz ns ks cs j x n tn u τ ν N T G)) 94 (tUx (V0 w.params 0) (cF1 w.params A z) (z + 3) u) (cF1 w.params A z) p (fsF1 w.params A k6 z) (memOf w.params τ ν 0 ((enD (z + 3) (z + 2) .none (j + 1) (intD (some n)) ++ p1C A z sz x.e0 ns ks cs (j + 1)) ++ tupD u [.int ((j : Nat) : Int), .raw (.int n tn)])) 0 0 [] 0 PF1b_h []) [3, 4, 5, 6, 7, 8, 9, 10, 11, 12, 13]
    (denF (cLS (mskOf n j) (T + 10))) (cLS (mskOf n j) (T + 10)) ((oS1 w.params A z).fs ++ fsF1 w.params A k6 z) ((enD (z + 3) (z + 2) .none (j + 1) (intD (some n)) ++ p1C A z sz (x.e1 (j : Int) n (mskOf n j)) ns ks cs (j + 1))) [] := by
  cases b1 <;> cases x <;> (unfold EndsQ; kernel_rfl)
theorem PF1b (w : World) (s₀ : Shared) (b1 b2 : Bool) (Y : Sys (K5 w s₀ b1 b2)) (A : LA) (z : Addr) (k6 : Result → Sem Fin) (sz : Int) (ns ks cs : Array Value) (j : Nat) (x : PX) (n : Int) (tn : Tok) (u : Addr)   {L : DM} {s : Shared} {p : Pos} (S : StD (K5 w s₀ b1 b2) ((enD (z + 3) (z + 2) .none (j + 1) (intD (some n)) ++ p1C A z sz x.e0 ns ks cs (j + 1)) ++ tupD u [.int ((j : Nat) : Int), .raw (.int n tn)] ++ L) [] s)
    (next : ∀ (τ : Nat → Nat → Tok) (N T G : Nat) (s' : Shared) (p' : Pos), (K5 w s₀ b1 b2).B ≤ N → N ≤ s'.heap.objs.size → StD (K5 w s₀ b1 b2) ((enD (z + 3) (z + 2) .none (j + 1) (intD (some n)) ++ p1C A z sz (x.e1 (j : Int) n (mskOf n j)) ns ks cs (j + 1)) ++ L) [] s' → Y.H s' ⟨denF (cLS (mskOf n j) (T + 10)), cLS (mskOf n j) (T + 10), p', (oS1 w.params A z).fs ++ fsF1 w.params A k6 z⟩) : Y.H s ⟨tUx (V0 w.params 0) (cF1 w.params A z) (z + 3) u, cF1 w.params A z, p, fsF1 w.params A k6 z⟩ :=
  Y.seg (t' := fun τ N T G => denF (cLS (mskOf n j) (T + 10))) (c' := fun N T G => cLS (mskOf n j) (T + 10)) (fs' := fun N T G => (oS1 w.params A z).fs ++ fsF1 w.params A k6 z) (d' := fun N T G => (enD (z + 3) (z + 2) .none (j + 1) (intD (some n)) ++ p1C A z sz (x.e1 (j : Int) n (mskOf n j)) ns ks cs (j + 1))) (gm' := fun N T G => []) S (by decide) (PF1b_sp w s₀ b1 b2 A z k6 sz ns ks cs j x n tn u) (PF1b_r w s₀ b1 b2 A z k6 sz ns ks cs j x n tn u  p) (fun τ ν N T G => .cons (okv (sok_div _ _ _ _ (by decide) (div_small _ _ (by decide)))) (.cons (okv (sok_mul _ _ _ _ (IntMulOk.of_left (by decide)))) (.cons (okv (sok_add _ _ _ _ )) (.cons (okv (sok_add _ _ _ _ )) (.cons (okv (sok_mod _ _ _ _ (by decide))) (AllOk.nil)))))) next

noncomputable def V0t (P : Params) (N T : Nat) : V := ⟨PySem.Challenge.pw_rk0005_05, ov P false false, kt P, [180, 260], 264, [], N, T, 0, []⟩

noncomputable def oLS (P : Params) (q tz : Nat) : Out := run (V0t P (q) (tz)) 54 (denF (cLS 0 0)) (cLS 0 0) default ([]) (memOf P (fun _ _ => 0) (fun _ => 0) 0 ([])) 0 0 [] 0 [.b, .b, .o 0, .o 0, .b, .b, .b, .b, .o 0, .o 0, .o 0, .o 0, .o 0, .o 0, .o 0, .o 0, .o 0] []

noncomputable def cLT (P : Params) (q : Nat) : Code := toLoop (oLS P q 0).c
noncomputable def fsLS (P : Params) (A : LA) (k6 : Result → Sem Fin) (z : Nat) (x : RF) (q tz : Nat) : List Frame := (oLS P q tz).fs ++ fsS P A k6 z x
theorem chk_LS (P : Params) : ((oLS P 50 9).fs.length, match cLT P 50 with | .compLoop _ _ it acc _ => (it, acc) | _ => (.none, .none)) = (1, .ref 53, .ref 54) := by kernel_rfl

noncomputable def lsE : Nat → VD
  | 0 => .none
  | 1 => .str ⟨⟨[97]⟩⟩
  | 2 => .str ⟨⟨[98]⟩⟩
  | 3 => .str ⟨⟨[55]⟩⟩
  | 4 => .str ⟨⟨[32]⟩⟩
  | 5 => .str ⟨⟨[46]⟩⟩
  | _ => .str ⟨⟨[10]⟩⟩

noncomputable def lsC (q : Addr) (m : Int) (rs : Array Value) : Nat → DM
  | 0 => [(q, .dict c_frame []), ((q + 1), .cell (some (.int m))), ((q + 2), .fields c_strit [.str ⟨⟨[97, 98, 55, 32, 46, 10]⟩⟩, .raw (.int 0 0)]), ((q + 4), .arr c_list rs), ((q + 5), .dict c_dict [])]
  | 1 => [(q, .dict c_frame []), ((q + 1), .cell (some (.int m))), ((q + 2), .fields c_strit [.str ⟨⟨[97, 98, 55, 32, 46, 10]⟩⟩, .raw (.int 1 0)]), ((q + 4), .arr c_list rs), ((q + 5), .dict c_dict [([97, 116], .int 0), ([115, 105, 103, 110], .str ⟨⟨[97]⟩⟩)])]
  | 2 => [(q, .dict c_frame []), ((q + 1), .cell (some (.int m))), ((q + 2), .fields c_strit [.str ⟨⟨[97, 98, 55, 32, 46, 10]⟩⟩, .raw (.int 2 0)]), ((q + 4), .arr c_list rs), ((q + 5), .dict c_dict [([97, 116], .int 1), ([115, 105, 103, 110], .str ⟨⟨[98]⟩⟩)])]
  | 3 => [(q, .dict c_frame []), ((q + 1), .cell (some (.int m))), ((q + 2), .fields c_strit [.str ⟨⟨[97, 98, 55, 32, 46, 10]⟩⟩, .raw (.int 3 0)]), ((q + 4), .arr c_list rs), ((q + 5), .dict c_dict [([97, 116], .int 2), ([115, 105, 103, 110], .str ⟨⟨[55]⟩⟩)])]
  | 4 => [(q, .dict c_frame []), ((q + 1), .cell (some (.int m))), ((q + 2), .fields c_strit [.str ⟨⟨[97, 98, 55, 32, 46, 10]⟩⟩, .raw (.int 4 0)]), ((q + 4), .arr c_list rs), ((q + 5), .dict c_dict [([97, 116], .int 3), ([115, 105, 103, 110], .str ⟨⟨[32]⟩⟩)])]
  | 5 => [(q, .dict c_frame []), ((q + 1), .cell (some (.int m))), ((q + 2), .fields c_strit [.str ⟨⟨[97, 98, 55, 32, 46, 10]⟩⟩, .raw (.int 5 0)]), ((q + 4), .arr c_list rs), ((q + 5), .dict c_dict [([97, 116], .int 4), ([115, 105, 103, 110], .str ⟨⟨[46]⟩⟩)])]
  | _ => [(q, .dict c_frame []), ((q + 1), .cell (some (.int m))), ((q + 2), .fields c_strit [.str ⟨⟨[97, 98, 55, 32, 46, 10]⟩⟩, .raw (.int 6 0)]), ((q + 4), .arr c_list rs), ((q + 5), .dict c_dict [([97, 116], .int 5), ([115, 105, 103, 110], .str ⟨⟨[10]⟩⟩)])]

noncomputable def lsB (q : Addr) (m : Int) (rs : Array Value) : Nat → DM
  | 0 => [(q, .dict c_frame []), ((q + 1), .cell (some (.int m))), ((q + 2), .fields c_strit [.str ⟨⟨[97, 98, 55, 32, 46, 10]⟩⟩, .raw (.int 1 0)]), ((q + 4), .arr c_list rs), ((q + 5), .dict c_dict [])]
  | 1 => [(q, .dict c_frame []), ((q + 1), .cell (some (.int m))), ((q + 2), .fields c_strit [.str ⟨⟨[97, 98, 55, 32, 46, 10]⟩⟩, .raw (.int 2 0)]), ((q + 4), .arr c_list rs), ((q + 5), .dict c_dict [([97, 116], .int 0), ([115, 105, 103, 110], .str ⟨⟨[97]⟩⟩)])]
  | 2 => [(q, .dict c_frame []), ((q + 1), .cell (some (.int m))), ((q + 2), .fields c_strit [.str ⟨⟨[97, 98, 55, 32, 46, 10]⟩⟩, .raw (.int 3 0)]), ((q + 4), .arr c_list rs), ((q + 5), .dict c_dict [([97, 116], .int 1), ([115, 105, 103, 110], .str ⟨⟨[98]⟩⟩)])]
  | 3 => [(q, .dict c_frame []), ((q + 1), .cell (some (.int m))), ((q + 2), .fields c_strit [.str ⟨⟨[97, 98, 55, 32, 46, 10]⟩⟩, .raw (.int 4 0)]), ((q + 4), .arr c_list rs), ((q + 5), .dict c_dict [([97, 116], .int 2), ([115, 105, 103, 110], .str ⟨⟨[55]⟩⟩)])]
  | 4 => [(q, .dict c_frame []), ((q + 1), .cell (some (.int m))), ((q + 2), .fields c_strit [.str ⟨⟨[97, 98, 55, 32, 46, 10]⟩⟩, .raw (.int 5 0)]), ((q + 4), .arr c_list rs), ((q + 5), .dict c_dict [([97, 116], .int 3), ([115, 105, 103, 110], .str ⟨⟨[32]⟩⟩)])]
  | _ => [(q, .dict c_frame []), ((q + 1), .cell (some (.int m))), ((q + 2), .fields c_strit [.str ⟨⟨[97, 98, 55, 32, 46, 10]⟩⟩, .raw (.int 6 0)]), ((q + 4), .arr c_list rs), ((q + 5), .dict c_dict [([97, 116], .int 4), ([115, 105, 103, 110], .str ⟨⟨[46]⟩⟩)])]

noncomputable def lsM (q : Addr) (m : Int) (rs : Array Value) (k : Nat) : DM := enD (q + 3) (q + 2) .none k (lsE k) ++ lsC q m rs k
theorem tup_LS (P : Params) (q : Nat) : compTup (cLT P q) = some (q + 3) := by kernel_rfl
noncomputable def sgn : Nat → List Nat
  | 0 => [97]
  | 1 => [98]
  | 2 => [55]
  | 3 => [32]
  | 4 => [46]
  | _ => [10]

noncomputable def LS0_h : List Hint := [.b, .b, .o 0, .o 0, .b, .b, .b, .b, .o 0, .o 0, .o 0, .o 0, .o 0, .o 0, .o 0, .o 0, .o 0, .o 2, .o 2, .o 2, .o 2]
noncomputable def LS0_h2 : List Hint := [.b, .b, .o 0, .o 0, .b, .b, .b, .b, .o 0, .o 0, .o 0, .o 0, .o 0, .o 0, .o 0, .o 0, .o 0]
noncomputable def LS0_sp (w : World) (s₀ : Shared) (b1 b2 : Bool) (A : LA) (z : Addr) (k6 : Result → Sem Fin) (x : RF) (m : Int) (tm : Tok) (τ : Nat → Nat → Tok) (ν : Nat → Nat) (N T G : Nat) : List Spec := []
theorem LS0_r (w : World) (s₀ : Shared) (b1 b2 : Bool) (A : LA) (z : Addr) (k6 : Result → Sem Fin) (x : RF) (m : Int) (tm : Tok)  (p : Pos) (τ : Nat → Nat → Tok) (ν : Nat → Nat) (N T G : Nat) :
  EndsQ w.params (run ((K5 w s₀ b1 b2).V [] N T G (LS0_sp w s₀ b1 b2 A z k6 x m tm τ ν N T G)) (cond b2 56 66) (denF (cLS m tm)) (cLS m tm) p (fsS w.params A k6 z x) (memOf w.params τ ν 0 (([] : DM))) 0 0 [] 0 (cond b2 LS0_h2 LS0_h) []) [2, 5, 4, 3, 1, 0]
    (denF (cLT w.params N)) (cLT w.params N) (fsLS w.params A k6 z x N T) (lsM N m #[] 0) [] := by
  cases b1 <;> cases b2 <;> (unfold EndsQ; kernel_rfl)
theorem LS0 (w : World) (s₀ : Shared) (b1 b2 : Bool) (Y : Sys (K5 w s₀ b1 b2)) (A : LA) (z : Addr) (k6 : Result → Sem Fin) (x : RF) (m : Int) (tm : Tok)   {L : DM} {s : Shared} {p : Pos} (S : StD (K5 w s₀ b1 b2) (([] : DM) ++ L) [] s)
    (next : ∀ (τ : Nat → Nat → Tok) (N T G : Nat) (s' : Shared) (p' : Pos), (K5 w s₀ b1 b2).B ≤ N → N ≤ s'.heap.objs.size → StD (K5 w s₀ b1 b2) (lsM N m #[] 0 ++ L) [] s' → Y.H s' ⟨denF (cLT w.params N), cLT w.params N, p', fsLS w.params A k6 z x N T⟩) : Y.H s ⟨denF (cLS m tm), cLS m tm, p, fsS w.params A k6 z x⟩ :=
  Y.seg (t' := fun τ N T G => denF (cLT w.params N)) (c' := fun N T G => cLT w.params N) (fs' := fun N T G => fsLS w.params A k6 z x N T) (d' := fun N T G => lsM N m #[] 0) (gm' := fun N T G => []) S (by decide) (LS0_sp w s₀ b1 b2 A z k6 x m tm) (LS0_r w s₀ b1 b2 A z k6 x m tm  p) (fun τ ν N T G => AllOk.nil) next

noncomputable def LS_0_h : List Hint := [.o 0, .o 0, .o 0, .o 3, .o 3, .o 3, .o 3, .o 3, .o 3, .o 0, .o 0, .o 0, .o 0, .o 0, .o 0, .o 1, .o 1, .o 1, .o 1, .o 1, .o 1, .o 1, .o 1]
noncomputable def LS_0_sp (w : World) (s₀ : Shared) (b1 b2 : Bool) (A : LA) (z : Addr) (k6 : Result → Sem Fin) (x : RF) (m : Int) (q tz : Addr) (rs : Array Value) (τ : Nat → Nat → Tok) (ν : Nat → Nat) (N T G : Nat) : List Spec := []
theorem LS_0_r (w : World) (s₀ : Shared) (b1 b2 : Bool) (A : LA) (z : Addr) (k6 : Result → Sem Fin) (x : RF) (m : Int) (q tz : Addr) (rs : Array Value)  (p : Pos) (τ : Nat → Nat → Tok) (ν : Nat → Nat) (N T G : Nat) :
  EndsQ w.params (run ((K5 w s₀ b1 b2).V [] N T G (LS_0_sp w s₀ b1 b2 A z k6 x m q tz rs τ ν N T G)) 35 (denF (cLT w.params q)) (cLT w.params q) p (fsLS w.params A k6 z x q tz) (memOf w.params τ ν 0 (lsM q m rs 0)) 0 0 [] 0 LS_0_h []) [1, 2, 3, 4, 5, 6, 0]
    (((rNx (V0 w.params 0) (cLT w.params q) (q + 3)).k (.ok (.ret (.ref (N + 0)))) : Sem Fin)) (cLT w.params q) (fsLS w.params A k6 z x q tz) (enD (q + 3) (q + 2) (.raw (.int (((N + 0) : Nat) : Int) 0)) 1 (lsE 1) ++ lsB q m rs 0 ++ tupD (N + 0) [.int 0, .raw (.str ⟨⟨sgn 0⟩⟩ (T + 0))]) [] := by
  (unfold EndsQ; kernel_rfl)
theorem LS_0 (w : World) (s₀ : Shared) (b1 b2 : Bool) (Y : Sys (K5 w s₀ b1 b2)) (A : LA) (z : Addr) (k6 : Result → Sem Fin) (x : RF) (m : Int) (q tz : Addr) (rs : Array Value)   {L : DM} {s : Shared} {p : Pos} (S : StD (K5 w s₀ b1 b2) (lsM q m rs 0 ++ L) [] s)
    (next : ∀ (τ : Nat → Nat → Tok) (N T G : Nat) (s' : Shared) (p' : Pos), (K5 w s₀ b1 b2).B ≤ N → N ≤ s'.heap.objs.size → StD (K5 w s₀ b1 b2) (enD (q + 3) (q + 2) (.raw (.int (((N + 0) : Nat) : Int) 0)) 1 (lsE 1) ++ lsB q m rs 0 ++ tupD (N + 0) [.int 0, .raw (.str ⟨⟨sgn 0⟩⟩ (T + 0))] ++ L) [] s' → Y.H s' ⟨((rNx (V0 w.params 0) (cLT w.params q) (q + 3)).k (.ok (.ret (.ref (N + 0)))) : Sem Fin), cLT w.params q, p', fsLS w.params A k6 z x q tz⟩) : Y.H s ⟨denF (cLT w.params q), cLT w.params q, p, fsLS w.params A k6 z x q tz⟩ :=
  Y.seg (t' := fun τ N T G => ((rNx (V0 w.params 0) (cLT w.params q) (q + 3)).k (.ok (.ret (.ref (N + 0)))) : Sem Fin)) (c' := fun N T G => cLT w.params q) (fs' := fun N T G => fsLS w.params A k6 z x q tz) (d' := fun N T G => enD (q + 3) (q + 2) (.raw (.int (((N + 0) : Nat) : Int) 0)) 1 (lsE 1) ++ lsB q m rs 0 ++ tupD (N + 0) [.int 0, .raw (.str ⟨⟨sgn 0⟩⟩ (T + 0))]) (gm' := fun N T G => []) S (by decide) (LS_0_sp w s₀ b1 b2 A z k6 x m q tz rs) (LS_0_r w s₀ b1 b2 A z k6 x m q tz rs  p) (fun τ ν N T G => AllOk.nil) next

noncomputable def LS_0_1_h : List Hint := [.o 6, .o 6, .o 6, .o 6, .o 0, .o 0, .o 0, .o 0, .o 0, .o 7, .o 0, .o 0, .o 0, .o 0, .o 0, .o 0, .o 7, .o 0, .o 0, .o 0, .o 0, .o 0, .o 0, .o 7, .o 0, .o 0, .o 0, .o 8, .o 8, .o 8, .o 8, .o 5, .o 8, .s 999 0, .s 0 0, .s 1 0, .s 2 0, .o 8, .s 3 0]
noncomputable def LS_0_1_sp (w : World) (s₀ : Shared) (b1 b2 : Bool) (A : LA) (z : Addr) (k6 : Result → Sem Fin) (x : RF) (m : Int) (q tz u : Addr) (ts : Tok) (rs : Array Value) (τ : Nat → Nat → Tok) (ν : Nat → Nat) (N T G : Nat) : List Spec := [spV (II "int.__floordiv__" (m) (τ 2 0) (1) (T + 3)) (.int ((m).fdiv (1))) 1,
  spV (II "int.__mod__" (((m).fdiv (1))) (T + 4) (2) (T + 5)) (.int ((((m).fdiv (1))).fmod (2))) 1,
  spV (II "int.__eq__" (((((m).fdiv (1))).fmod (2))) (T + 6) (1) (T + 7)) (.bool true) 0,
  spPush (q + 4) 7 rs (ν 4) ((.str ⟨⟨sgn 0⟩⟩ ts))]
theorem LS_0_1_r (w : World) (s₀ : Shared) (b1 b2 : Bool) (A : LA) (z : Addr) (k6 : Result → Sem Fin) (x : RF) (m : Int) (q tz u : Addr) (ts : Tok) (rs : Array Value)  (p : Pos) (τ : Nat → Nat → Tok) (ν : Nat → Nat) (N T G : Nat) :
  EndsQ w.params (run ((K5 w s₀ b1 b2).V [] N T G (LS_0_1_sp w s₀ b1 b2 A z k6 x m q tz u ts rs τ ν N T G)) 83 (tUx (V0 w.params 0) (cLT w.params q) (q + 3) u) (cLT w.params q) p (fsLS w.params A k6 z x q tz) (memOf w.params τ ν 0 (enD (q + 3) (q + 2) .none 1 (lsE 1) ++ lsB q m rs 0 ++ tupD u [.int 0, .raw (.str ⟨⟨sgn 0⟩⟩ ts)])) 0 0 [] 0 LS_0_1_h []) [3, 4, 5, 6, 7, 8]
    (denF (cLT w.params q)) (cLT w.params q) (fsLS w.params A k6 z x q tz) (lsM q m (rs.push ((.str ⟨⟨sgn 0⟩⟩ ts))) 1) [] := by
  cases b1 <;> (unfold EndsQ; kernel_rfl)
theorem LS_0_1 (w : World) (s₀ : Shared) (b1 b2 : Bool) (Y : Sys (K5 w s₀ b1 b2)) (A : LA) (z : Addr) (k6 : Result → Sem Fin) (x : RF) (m : Int) (q tz u : Addr) (ts : Tok) (rs : Array Value)  (h0 : ((((((m).fdiv (1))).fmod (2))) == (1)) = true) (h1 : rs.size ≤ sizeLine) {L : DM} {s : Shared} {p : Pos} (S : StD (K5 w s₀ b1 b2) (enD (q + 3) (q + 2) .none 1 (lsE 1) ++ lsB q m rs 0 ++ tupD u [.int 0, .raw (.str ⟨⟨sgn 0⟩⟩ ts)] ++ L) [] s)
    (next : ∀ (τ : Nat → Nat → Tok) (N T G : Nat) (s' : Shared) (p' : Pos), (K5 w s₀ b1 b2).B ≤ N → N ≤ s'.heap.objs.size → StD (K5 w s₀ b1 b2) (lsM q m (rs.push ((.str ⟨⟨sgn 0⟩⟩ ts))) 1 ++ L) [] s' → Y.H s' ⟨denF (cLT w.params q), cLT w.params q, p', fsLS w.params A k6 z x q tz⟩) : Y.H s ⟨tUx (V0 w.params 0) (cLT w.params q) (q + 3) u, cLT w.params q, p, fsLS w.params A k6 z x q tz⟩ :=
  Y.seg (t' := fun τ N T G => denF (cLT w.params q)) (c' := fun N T G => cLT w.params q) (fs' := fun N T G => fsLS w.params A k6 z x q tz) (d' := fun N T G => lsM q m (rs.push ((.str ⟨⟨sgn 0⟩⟩ ts))) 1) (gm' := fun N T G => []) S (by decide) (LS_0_1_sp w s₀ b1 b2 A z k6 x m q tz u ts rs) (LS_0_1_r w s₀ b1 b2 A z k6 x m q tz u ts rs  p) (fun τ ν N T G => .cons (okv (sok_div _ _ _ _ (by decide) (div_small _ _ (by decide)))) (.cons (okv (sok_mod _ _ _ _ (by decide))) (.cons (okv (h0 ▸ sok_eq _ _ _ _)) (.cons (ok1 rfl rfl rfl (sok_push _ _ _ _ _ h1)) (AllOk.nil))))) next

noncomputable def LS_0_0_h : List Hint := [.o 6, .o 6, .o 6, .o 6, .o 0, .o 0, .o 0, .o 0, .o 0, .o 7, .o 0, .o 0, .o 0, .o 0, .o 0, .o 0, .o 7, .o 0, .o 0, .o 0, .o 0, .o 0, .o 0, .o 7, .o 0, .o 0, .o 0, .o 8, .o 8, .o 8, .o 8, .o 5, .o 8, .s 999 0, .s 0 0, .s 1 0, .s 2 0]
noncomputable def LS_0_0_sp (w : World) (s₀ : Shared) (b1 b2 : Bool) (A : LA) (z : Addr) (k6 : Result → Sem Fin) (x : RF) (m : Int) (q tz u : Addr) (ts : Tok) (rs : Array Value) (τ : Nat → Nat → Tok) (ν : Nat → Nat) (N T G : Nat) : List Spec := [spV (II "int.__floordiv__" (m) (τ 2 0) (1) (T + 3)) (.int ((m).fdiv (1))) 1,
  spV (II "int.__mod__" (((m).fdiv (1))) (T + 4) (2) (T + 5)) (.int ((((m).fdiv (1))).fmod (2))) 1,
  spV (II "int.__eq__" (((((m).fdiv (1))).fmod (2))) (T + 6) (1) (T + 7)) (.bool false) 0]
theorem LS_0_0_r (w : World) (s₀ : Shared) (b1 b2 : Bool) (A : LA) (z : Addr) (k6 : Result → Sem Fin) (x : RF) (m : Int) (q tz u : Addr) (ts : Tok) (rs : Array Value)  (p : Pos) (τ : Nat → Nat → Tok) (ν : Nat → Nat) (N T G : Nat) :
  EndsQ w.params (run ((K5 w s₀ b1 b2).V [] N T G (LS_0_0_sp w s₀ b1 b2 A z k6 x m q tz u ts rs τ ν N T G)) 80 (tUx (V0 w.params 0) (cLT w.params q) (q + 3) u) (cLT w.params q) p (fsLS w.params A k6 z x q tz) (memOf w.params τ ν 0 (enD (q + 3) (q + 2) .none 1 (lsE 1) ++ lsB q m rs 0 ++ tupD u [.int 0, .raw (.str ⟨⟨sgn 0⟩⟩ ts)])) 0 0 [] 0 LS_0_0_h []) [3, 4, 5, 6, 7, 8]
    (denF (cLT w.params q)) (cLT w.params q) (fsLS w.params A k6 z x q tz) (lsM q m rs 1) [] := by
  cases b1 <;> (unfold EndsQ; kernel_rfl)
theorem LS_0_0 (w : World) (s₀ : Shared) (b1 b2 : Bool) (Y : Sys (K5 w s₀ b1 b2)) (A : LA) (z : Addr) (k6 : Result → Sem Fin) (x : RF) (m : Int) (q tz u : Addr) (ts : Tok) (rs : Array Value)  (h0 : ((((((m).fdiv (1))).fmod (2))) == (1)) = false) {L : DM} {s : Shared} {p : Pos} (S : StD (K5 w s₀ b1 b2) (enD (q + 3) (q + 2) .none 1 (lsE 1) ++ lsB q m rs 0 ++ tupD u [.int 0, .raw (.str ⟨⟨sgn 0⟩⟩ ts)] ++ L) [] s)
    (next : ∀ (τ : Nat → Nat → Tok) (N T G : Nat) (s' : Shared) (p' : Pos), (K5 w s₀ b1 b2).B ≤ N → N ≤ s'.heap.objs.size → StD (K5 w s₀ b1 b2) (lsM q m rs 1 ++ L) [] s' → Y.H s' ⟨denF (cLT w.params q), cLT w.params q, p', fsLS w.params A k6 z x q tz⟩) : Y.H s ⟨tUx (V0 w.params 0) (cLT w.params q) (q + 3) u, cLT w.params q, p, fsLS w.params A k6 z x q tz⟩ :=
  Y.seg (t' := fun τ N T G => denF (cLT w.params q)) (c' := fun N T G => cLT w.params q) (fs' := fun N T G => fsLS w.params A k6 z x q tz) (d' := fun N T G => lsM q m rs 1) (gm' := fun N T G => []) S (by decide) (LS_0_0_sp w s₀ b1 b2 A z k6 x m q tz u ts rs) (LS_0_0_r w s₀ b1 b2 A z k6 x m q tz u ts rs  p) (fun τ ν N T G => .cons (okv (sok_div _ _ _ _ (by decide) (div_small _ _ (by decide)))) (.cons (okv (sok_mod _ _ _ _ (by decide))) (.cons (okv (h0 ▸ sok_eq _ _ _ _)) (AllOk.nil)))) next

noncomputable def LS_1_h : List Hint := [.o 0, .o 0, .o 0, .o 3, .o 3, .o 3, .o 3, .o 3, .o 3, .o 0, .o 0, .o 0, .o 0, .o 0, .o 0, .o 1, .o 1, .o 1, .o 1, .o 1, .o 1, .o 1, .o 1]
noncomputable def LS_1_sp (w : World) (s₀ : Shared) (b1 b2 : Bool) (A : LA) (z : Addr) (k6 : Result → Sem Fin) (x : RF) (m : Int) (q tz : Addr) (rs : Array Value) (τ : Nat → Nat → Tok) (ν : Nat → Nat) (N T G : Nat) : List Spec := []
theorem LS_1_r (w : World) (s₀ : Shared) (b1 b2 : Bool) (A : LA) (z : Addr) (k6 : Result → Sem Fin) (x : RF) (m : Int) (q tz : Addr) (rs : Array Value)  (p : Pos) (τ : Nat → Nat → Tok) (ν : Nat → Nat) (N T G : Nat) :
  EndsQ w.params (run ((K5 w s₀ b1 b2).V [] N T G (LS_1_sp w s₀ b1 b2 A z k6 x m q tz rs τ ν N T G)) 35 (denF (cLT w.params q)) (cLT w.params q) p (fsLS w.params A k6 z x q tz) (memOf w.params τ ν 0 (lsM q m rs 1)) 0 0 [] 0 LS_1_h []) [1, 2, 3, 4, 5, 6, 0]
    (((rNx (V0 w.params 0) (cLT w.params q) (q + 3)).k (.ok (.ret (.ref (N + 0)))) : Sem Fin)) (cLT w.params q) (fsLS w.params A k6 z x q tz) (enD (q + 3) (q + 2) (.raw (.int (((N + 0) : Nat) : Int) 0)) 2 (lsE 2) ++ lsB q m rs 1 ++ tupD (N + 0) [.int 1, .raw (.str ⟨⟨sgn 1⟩⟩ (T + 0))]) [] := by
  (unfold EndsQ; kernel_rfl)
theorem LS_1 (w : World) (s₀ : Shared) (b1 b2 : Bool) (Y : Sys (K5 w s₀ b1 b2)) (A : LA) (z : Addr) (k6 : Result → Sem Fin) (x : RF) (m : Int) (q tz : Addr) (rs : Array Value)   {L : DM} {s : Shared} {p : Pos} (S : StD (K5 w s₀ b1 b2) (lsM q m rs 1 ++ L) [] s)
    (next : ∀ (τ : Nat → Nat → Tok) (N T G : Nat) (s' : Shared) (p' : Pos), (K5 w s₀ b1 b2).B ≤ N → N ≤ s'.heap.objs.size → StD (K5 w s₀ b1 b2) (enD (q + 3) (q + 2) (.raw (.int (((N + 0) : Nat) : Int) 0)) 2 (lsE 2) ++ lsB q m rs 1 ++ tupD (N + 0) [.int 1, .raw (.str ⟨⟨sgn 1⟩⟩ (T + 0))] ++ L) [] s' → Y.H s' ⟨((rNx (V0 w.params 0) (cLT w.params q) (q + 3)).k (.ok (.ret (.ref (N + 0)))) : Sem Fin), cLT w.params q, p', fsLS w.params A k6 z x q tz⟩) : Y.H s ⟨denF (cLT w.params q), cLT w.params q, p, fsLS w.params A k6 z x q tz⟩ :=
  Y.seg (t' := fun τ N T G => ((rNx (V0 w.params 0) (cLT w.params q) (q + 3)).k (.ok (.ret (.ref (N + 0)))) : Sem Fin)) (c' := fun N T G => cLT w.params q) (fs' := fun N T G => fsLS w.params A k6 z x q tz) (d' := fun N T G => enD (q + 3) (q + 2) (.raw (.int (((N + 0) : Nat) : Int) 0)) 2 (lsE 2) ++ lsB q m rs 1 ++ tupD (N + 0) [.int 1, .raw (.str ⟨⟨sgn 1⟩⟩ (T + 0))]) (gm' := fun N T G => []) S (by decide) (LS_1_sp w s₀ b1 b2 A z k6 x m q tz rs) (LS_1_r w s₀ b1 b2 A z k6 x m q tz rs  p) (fun τ ν N T G => AllOk.nil) next

noncomputable def LS_1_1_h : List Hint := [.o 6, .o 6, .o 6, .o 6, .o 0, .o 0, .o 0, .o 0, .o 0, .o 7, .o 0, .o 0, .o 0, .o 0, .o 0, .o 0, .o 7, .o 0, .o 0, .o 0, .o 0, .o 0, .o 0, .o 7, .o 0, .o 0, .o 0, .o 8, .o 8, .o 8, .o 8, .o 5, .o 8, .s 999 0, .s 0 0, .s 1 0, .s 2 0, .o 8, .s 3 0]
noncomputable def LS_1_1_sp (w : World) (s₀ : Shared) (b1 b2 : Bool) (A : LA) (z : Addr) (k6 : Result → Sem Fin) (x : RF) (m : Int) (q tz u : Addr) (ts : Tok) (rs : Array Value) (τ : Nat → Nat → Tok) (ν : Nat → Nat) (N T G : Nat) : List Spec := [spV (II "int.__floordiv__" (m) (τ 2 0) (2) (T + 3)) (.int ((m).fdiv (2))) 1,
  spV (II "int.__mod__" (((m).fdiv (2))) (T + 4) (2) (T + 5)) (.int ((((m).fdiv (2))).fmod (2))) 1,
  spV (II "int.__eq__" (((((m).fdiv (2))).fmod (2))) (T + 6) (1) (T + 7)) (.bool true) 0,
  spPush (q + 4) 7 rs (ν 4) ((.str ⟨⟨sgn 1⟩⟩ ts))]
theorem LS_1_1_r (w : World) (s₀ : Shared) (b1 b2 : Bool) (A : LA) (z : Addr) (k6 : Result → Sem Fin) (x : RF) (m : Int) (q tz u : Addr) (ts : Tok) (rs : Array Value)  (p : Pos) (τ : Nat → Nat → Tok) (ν : Nat → Nat) (N T G : Nat) :
  EndsQ w.params (run ((K5 w s₀ b1 b2).V [] N T G (LS_1_1_sp w s₀ b1 b2 A z k6 x m q tz u ts rs τ ν N T G)) 83 (tUx (V0 w.params 0) (cLT w.params q) (q + 3) u) (cLT w.params q) p (fsLS w.params A k6 z x q tz) (memOf w.params τ ν 0 (enD (q + 3) (q + 2) .none 2 (lsE 2) ++ lsB q m rs 1 ++ tupD u [.int 1, .raw (.str ⟨⟨sgn 1⟩⟩ ts)])) 0 0 [] 0 LS_1_1_h []) [3, 4, 5, 6, 7, 8]
    (denF (cLT w.params q)) (cLT w.params q) (fsLS w.params A k6 z x q tz) (lsM q m (rs.push ((.str ⟨⟨sgn 1⟩⟩ ts))) 2) [] := by
  cases b1 <;> (unfold EndsQ; kernel_rfl)
theorem LS_1_1 (w : World) (s₀ : Shared) (b1 b2 : Bool) (Y : Sys (K5 w s₀ b1 b2)) (A : LA) (z : Addr) (k6 : Result → Sem Fin) (x : RF) (m : Int) (q tz u : Addr) (ts : Tok) (rs : Array Value)  (h0 : ((((((m).fdiv (2))).fmod (2))) == (1)) = true) (h1 : rs.size ≤ sizeLine) {L : DM} {s : Shared} {p : Pos} (S : StD (K5 w s₀ b1 b2) (enD (q + 3) (q + 2) .none 2 (lsE 2) ++ lsB q m rs 1 ++ tupD u [.int 1, .raw (.str ⟨⟨sgn 1⟩⟩ ts)] ++ L) [] s)
    (next : ∀ (τ : Nat → Nat → Tok) (N T G : Nat) (s' : Shared) (p' : Pos), (K5 w s₀ b1 b2).B ≤ N → N ≤ s'.heap.objs.size → StD (K5 w s₀ b1 b2) (lsM q m (rs.push ((.str ⟨⟨sgn 1⟩⟩ ts))) 2 ++ L) [] s' → Y.H s' ⟨denF (cLT w.params q), cLT w.params q, p', fsLS w.params A k6 z x q tz⟩) : Y.H s ⟨tUx (V0 w.params 0) (cLT w.params q) (q + 3) u, cLT w.params q, p, fsLS w.params A k6 z x q tz⟩ :=
  Y.seg (t' := fun τ N T G => denF (cLT w.params q)) (c' := fun N T G => cLT w.params q) (fs' := fun N T G => fsLS w.params A k6 z x q tz) (d' := fun N T G => lsM q m (rs.push ((.str ⟨⟨sgn 1⟩⟩ ts))) 2) (gm' := fun N T G => []) S (by decide) (LS_1_1_sp w s₀ b1 b2 A z k6 x m q tz u ts rs) (LS_1_1_r w s₀ b1 b2 A z k6 x m q tz u ts rs  p) (fun τ ν N T G => .cons (okv (sok_div _ _ _ _ (by decide) (div_small _ _ (by decide)))) (.cons (okv (sok_mod _ _ _ _ (by decide))) (.cons (okv (h0 ▸ sok_eq _ _ _ _)) (.cons (ok1 rfl rfl rfl (sok_push _ _ _ _ _ h1)) (AllOk.nil))))) next

noncomputable def LS_1_0_h : List Hint := [.o 6, .o 6, .o 6, .o 6, .o 0, .o 0, .o 0, .o 0, .o 0, .o 7, .o 0, .o 0, .o 0, .o 0, .o 0, .o 0, .o 7, .o 0, .o 0, .o 0, .o 0, .o 0, .o 0, .o 7, .o 0, .o 0, .o 0, .o 8, .o 8, .o 8, .o 8, .o 5, .o 8, .s 999 0, .s 0 0, .s 1 0, .s 2 0]
noncomputable def LS_1_0_sp (w : World) (s₀ : Shared) (b1 b2 : Bool) (A : LA) (z : Addr) (k6 : Result → Sem Fin) (x : RF) (m : Int) (q tz u : Addr) (ts : Tok) (rs : Array Value) (τ : Nat → Nat → Tok) (ν : Nat → Nat) (N T G : Nat) : List Spec := [spV (II "int.__floordiv__" (m) (τ 2 0) (2) (T + 3)) (.int ((m).fdiv (2))) 1,
  spV (II "int.__mod__" (((m).fdiv (2))) (T + 4) (2) (T + 5)) (.int ((((m).fdiv (2))).fmod (2))) 1,
  spV (II "int.__eq__" (((((m).fdiv (2))).fmod (2))) (T + 6) (1) (T + 7)) (.bool false) 0]
theorem LS_1_0_r (w : World) (s₀ : Shared) (b1 b2 : Bool) (A : LA) (z : Addr) (k6 : Result → Sem Fin) (x : RF) (m : Int) (q tz u : Addr) (ts : Tok) (rs : Array Value)  (p : Pos) (τ : Nat → Nat → Tok) (ν : Nat → Nat) (N T G : Nat) :
  EndsQ w.params (run ((K5 w s₀ b1 b2).V [] N T G (LS_1_0_sp w s₀ b1 b2 A z k6 x m q tz u ts rs τ ν N T G)) 80 (tUx (V0 w.params 0) (cLT w.params q) (q + 3) u) (cLT w.params q) p (fsLS w.params A k6 z x q tz) (memOf w.params τ ν 0 (enD (q + 3) (q + 2) .none 2 (lsE 2) ++ lsB q m rs 1 ++ tupD u [.int 1, .raw (.str ⟨⟨sgn 1⟩⟩ ts)])) 0 0 [] 0 LS_1_0_h []) [3, 4, 5, 6, 7, 8]
    (denF (cLT w.params q)) (cLT w.params q) (fsLS w.params A k6 z x q tz) (lsM q m rs 2) [] := by
  cases b1 <;> (unfold EndsQ; kernel_rfl)
theorem LS_1_0 (w : World) (s₀ : Shared) (b1 b2 : Bool) (Y : Sys (K5 w s₀ b1 b2)) (A : LA) (z : Addr) (k6 : Result → Sem Fin) (x : RF) (m : Int) (q tz u : Addr) (ts : Tok) (rs : Array Value)  (h0 : ((((((m).fdiv (2))).fmod (2))) == (1)) = false) {L : DM} {s : Shared} {p : Pos} (S : StD (K5 w s₀ b1 b2) (enD (q + 3) (q + 2) .none 2 (lsE 2) ++ lsB q m rs 1 ++ tupD u [.int 1, .raw (.str ⟨⟨sgn 1⟩⟩ ts)] ++ L) [] s)
    (next : ∀ (τ : Nat → Nat → Tok) (N T G : Nat) (s' : Shared) (p' : Pos), (K5 w s₀ b1 b2).B ≤ N → N ≤ s'.heap.objs.size → StD (K5 w s₀ b1 b2) (lsM q m rs 2 ++ L) [] s' → Y.H s' ⟨denF (cLT w.params q), cLT w.params q, p', fsLS w.params A k6 z x q tz⟩) : Y.H s ⟨tUx (V0 w.params 0) (cLT w.params q) (q + 3) u, cLT w.params q, p, fsLS w.params A k6 z x q tz⟩ :=
  Y.seg (t' := fun τ N T G => denF (cLT w.params q)) (c' := fun N T G => cLT w.params q) (fs' := fun N T G => fsLS w.params A k6 z x q tz) (d' := fun N T G => lsM q m rs 2) (gm' := fun N T G => []) S (by decide) (LS_1_0_sp w s₀ b1 b2 A z k6 x m q tz u ts rs) (LS_1_0_r w s₀ b1 b2 A z k6 x m q tz u ts rs  p) (fun τ ν N T G => .cons (okv (sok_div _ _ _ _ (by decide) (div_small _ _ (by decide)))) (.cons (okv (sok_mod _ _ _ _ (by decide))) (.cons (okv (h0 ▸ sok_eq _ _ _ _)) (AllOk.nil)))) next

noncomputable def LS_2_h : List Hint := [.o 0, .o 0, .o 0, .o 3, .o 3, .o 3, .o 3, .o 3, .o 3, .o 0, .o 0, .o 0, .o 0, .o 0, .o 0, .o 1, .o 1, .o 1, .o 1, .o 1, .o 1, .o 1, .o 1]
noncomputable def LS_2_sp (w : World) (s₀ : Shared) (b1 b2 : Bool) (A : LA) (z : Addr) (k6 : Result → Sem Fin) (x : RF) (m : Int) (q tz : Addr) (rs : Array Value) (τ : Nat → Nat → Tok) (ν : Nat → Nat) (N T G : Nat) : List Spec := []
theorem LS_2_r (w : World) (s₀ : Shared) (b1 b2 : Bool) (A : LA) (z : Addr) (k6 : Result → Sem Fin) (x : RF) (m : Int) (q tz : Addr) (rs : Array Value)  (p : Pos) (τ : Nat → Nat → Tok) (ν : Nat → Nat) (N T G : Nat) :
  EndsQ w.params (run ((K5 w s₀ b1 b2).V [] N T G (LS_2_sp w s₀ b1 b2 A z k6 x m q tz rs τ ν N T G)) 35 (denF (cLT w.params q)) (cLT w.params q) p (fsLS w.params A k6 z x q tz) (memOf w.params τ ν 0 (lsM q m rs 2)) 0 0 [] 0 LS_2_h []) [1, 2, 3, 4, 5, 6, 0]
    (((rNx (V0 w.params 0) (cLT w.params q) (q + 3)).k (.ok (.ret (.ref (N + 0)))) : Sem Fin)) (cLT w.params q) (fsLS w.params A k6 z x q tz) (enD (q + 3) (q + 2) (.raw (.int (((N + 0) : Nat) : Int) 0)) 3 (lsE 3) ++ lsB q m rs 2 ++ tupD (N + 0) [.int 2, .raw (.str ⟨⟨sgn 2⟩⟩ (T + 0))]) [] := by
  (unfold EndsQ; kernel_rfl)
theorem LS_2 (w : World) (s₀ : Shared) (b1 b2 : Bool) (Y : Sys (K5 w s₀ b1 b2)) (A : LA) (z : Addr) (k6 : Result → Sem Fin) (x : RF) (m : Int) (q tz : Addr) (rs : Array Value)   {L : DM} {s : Shared} {p : Pos} (S : StD (K5 w s₀ b1 b2) (lsM q m rs 2 ++ L) [] s)
    (next : ∀ (τ : Nat → Nat → Tok) (N T G : Nat) (s' : Shared) (p' : Pos), (K5 w s₀ b1 b2).B ≤ N → N ≤ s'.heap.objs.size → StD (K5 w s₀ b1 b2) (enD (q + 3) (q + 2) (.raw (.int (((N + 0) : Nat) : Int) 0)) 3 (lsE 3) ++ lsB q m rs 2 ++ tupD (N + 0) [.int 2, .raw (.str ⟨⟨sgn 2⟩⟩ (T + 0))] ++ L) [] s' → Y.H s' ⟨((rNx (V0 w.params 0) (cLT w.params q) (q + 3)).k (.ok (.ret (.ref (N + 0)))) : Sem Fin), cLT w.params q, p', fsLS w.params A k6 z x q tz⟩) : Y.H s ⟨denF (cLT w.params q), cLT w.params q, p, fsLS w.params A k6 z x q tz⟩ :=
  Y.seg (t' := fun τ N T G => ((rNx (V0 w.params 0) (cLT w.params q) (q + 3)).k (.ok (.ret (.ref (N + 0)))) : Sem Fin)) (c' := fun N T G => cLT w.params q) (fs' := fun N T G => fsLS w.params A k6 z x q tz) (d' := fun N T G => enD (q + 3) (q + 2) (.raw (.int (((N + 0) : Nat) : Int) 0)) 3 (lsE 3) ++ lsB q m rs 2 ++ tupD (N + 0) [.int 2, .raw (.str ⟨⟨sgn 2⟩⟩ (T + 0))]) (gm' := fun N T G => []) S (by decide) (LS_2_sp w s₀ b1 b2 A z k6 x m q tz rs) (LS_2_r w s₀ b1 b2 A z k6 x m q tz rs  p) (fun τ ν N T G => AllOk.nil) next

noncomputable def LS_2_1_h : List Hint := [.o 6, .o 6, .o 6, .o 6, .o 0, .o 0, .o 0, .o 0, .o 0, .o 7, .o 0, .o 0, .o 0, .o 0, .o 0, .o 0, .o 7, .o 0, .o 0, .o 0, .o 0, .o 0, .o 0, .o 7, .o 0, .o 0, .o 0, .o 8, .o 8, .o 8, .o 8, .o 5, .o 8, .s 999 0, .s 0 0, .s 1 0, .s 2 0, .o 8, .s 3 0]
noncomputable def LS_2_1_sp (w : World) (s₀ : Shared) (b1 b2 : Bool) (A : LA) (z : Addr) (k6 : Result → Sem Fin) (x : RF) (m : Int) (q tz u : Addr) (ts : Tok) (rs : Array Value) (τ : Nat → Nat → Tok) (ν : Nat → Nat) (N T G : Nat) : List Spec := [spV (II "int.__floordiv__" (m) (τ 2 0) (4) (T + 3)) (.int ((m).fdiv (4))) 1,
  spV (II "int.__mod__" (((m).fdiv (4))) (T + 4) (2) (T + 5)) (.int ((((m).fdiv (4))).fmod (2))) 1,
  spV (II "int.__eq__" (((((m).fdiv (4))).fmod (2))) (T + 6) (1) (T + 7)) (.bool true) 0,
  spPush (q + 4) 7 rs (ν 4) ((.str ⟨⟨sgn 2⟩⟩ ts))]
theorem LS_2_1_r (w : World) (s₀ : Shared) (b1 b2 : Bool) (A : LA) (z : Addr) (k6 : Result → Sem Fin) (x : RF) (m : Int) (q tz u : Addr) (ts : Tok) (rs : Array Value)  (p : Pos) (τ : Nat → Nat → Tok) (ν : Nat → Nat) (N T G : Nat) :
  EndsQ w.params (run ((K5 w s₀ b1 b2).V [] N T G (LS_2_1_sp w s₀ b1 b2 A z k6 x m q tz u ts rs τ ν N T G)) 83 (tUx (V0 w.params 0) (cLT w.params q) (q + 3) u) (cLT w.params q) p (fsLS w.params A k6 z x q tz) (memOf w.params τ ν 0 (enD (q + 3) (q + 2) .none 3 (lsE 3) ++ lsB q m rs 2 ++ tupD u [.int 2, .raw (.str ⟨⟨sgn 2⟩⟩ ts)])) 0 0 [] 0 LS_2_1_h []) [3, 4, 5, 6, 7, 8]
    (denF (cLT w.params q)) (cLT w.params q) (fsLS w.params A k6 z x q tz) (lsM q m (rs.push ((.str ⟨⟨sgn 2⟩⟩ ts))) 3) [] := by
  cases b1 <;> (unfold EndsQ; kernel_rfl)
theorem LS_2_1 (w : World) (s₀ : Shared) (b1 b2 : Bool) (Y : Sys (K5 w s₀ b1 b2)) (A : LA) (z : Addr) (k6 : Result → Sem Fin) (x : RF) (m : Int) (q tz u : Addr) (ts : Tok) (rs : Array Value)  (h0 : ((((((m).fdiv (4))).fmod (2))) == (1)) = true) (h1 : rs.size ≤ sizeLine) {L : DM} {s : Shared} {p : Pos} (S : StD (K5 w s₀ b1 b2) (enD (q + 3) (q + 2) .none 3 (lsE 3) ++ lsB q m rs 2 ++ tupD u [.int 2, .raw (.str ⟨⟨sgn 2⟩⟩ ts)] ++ L) [] s)
    (next : ∀ (τ : Nat → Nat → Tok) (N T G : Nat) (s' : Shared) (p' : Pos), (K5 w s₀ b1 b2).B ≤ N → N ≤ s'.heap.objs.size → StD (K5 w s₀ b1 b2) (lsM q m (rs.push ((.str ⟨⟨sgn 2⟩⟩ ts))) 3 ++ L) [] s' → Y.H s' ⟨denF (cLT w.params q), cLT w.params q, p', fsLS w.params A k6 z x q tz⟩) : Y.H s ⟨tUx (V0 w.params 0) (cLT w.params q) (q + 3) u, cLT w.params q, p, fsLS w.params A k6 z x q tz⟩ :=
  Y.seg (t' := fun τ N T G => denF (cLT w.params q)) (c' := fun N T G => cLT w.params q) (fs' := fun N T G => fsLS w.params A k6 z x q tz) (d' := fun N T G => lsM q m (rs.push ((.str ⟨⟨sgn 2⟩⟩ ts))) 3) (gm' := fun N T G => []) S (by decide) (LS_2_1_sp w s₀ b1 b2 A z k6 x m q tz u ts rs) (LS_2_1_r w s₀ b1 b2 A z k6 x m q tz u ts rs  p) (fun τ ν N T G => .cons (okv (sok_div _ _ _ _ (by decide) (div_small _ _ (by decide)))) (.cons (okv (sok_mod _ _ _ _ (by decide))) (.cons (okv (h0 ▸ sok_eq _ _ _ _)) (.cons (ok1 rfl rfl rfl (sok_push _ _ _ _ _ h1)) (AllOk.nil))))) next

noncomputable def LS_2_0_h : List Hint := [.o 6, .o 6, .o 6, .o 6, .o 0, .o 0, .o 0, .o 0, .o 0, .o 7, .o 0, .o 0, .o 0, .o 0, .o 0, .o 0, .o 7, .o 0, .o 0, .o 0, .o 0, .o 0, .o 0, .o 7, .o 0, .o 0, .o 0, .o 8, .o 8, .o 8, .o 8, .o 5, .o 8, .s 999 0, .s 0 0, .s 1 0, .s 2 0]
noncomputable def LS_2_0_sp (w : World) (s₀ : Shared) (b1 b2 : Bool) (A : LA) (z : Addr) (k6 : Result → Sem Fin) (x : RF) (m : Int) (q tz u : Addr) (ts : Tok) (rs : Array Value) (τ : Nat → Nat → Tok) (ν : Nat → Nat) (N T G : Nat) : List Spec := [spV (II "int.__floordiv__" (m) (τ 2 0) (4) (T + 3)) (.int ((m).fdiv (4))) 1,
  spV (II "int.__mod__" (((m).fdiv (4))) (T + 4) (2) (T + 5)) (.int ((((m).fdiv (4))).fmod (2))) 1,
  spV (II "int.__eq__" (((((m).fdiv (4))).fmod (2))) (T + 6) (1) (T + 7)) (.bool false) 0]
theorem LS_2_0_r (w : World) (s₀ : Shared) (b1 b2 : Bool) (A : LA) (z : Addr) (k6 : Result → Sem Fin) (x : RF) (m : Int) (q tz u : Addr) (ts : Tok) (rs : Array Value)  (p : Pos) (τ : Nat → Nat → Tok) (ν : Nat → Nat) (N T G : Nat) :
  EndsQ w.params (run ((K5 w s₀ b1 b2).V [] N T G (LS_2_0_sp w s₀ b1 b2 A z k6 x m q tz u ts rs τ ν N T G)) 80 (tUx (V0 w.params 0) (cLT w.params q) (q + 3) u) (cLT w.params q) p (fsLS w.params A k6 z x q tz) (memOf w.params τ ν 0 (enD (q + 3) (q + 2) .none 3 (lsE 3) ++ lsB q m rs 2 ++ tupD u [.int 2, .raw (.str ⟨⟨sgn 2⟩⟩ ts)])) 0 0 [] 0 LS_2_0_h []) [3, 4, 5, 6, 7, 8]
    (denF (cLT w.params q)) (cLT w.params q) (fsLS w.params A k6 z x q tz) (lsM q m rs 3) [] := by
  cases b1 <;> (unfold EndsQ; kernel_rfl)
theorem LS_2_0 (w : World) (s₀ : Shared) (b1 b2 : Bool) (Y : Sys (K5 w s₀ b1 b2)) (A : LA) (z : Addr) (k6 : Result → Sem Fin) (x : RF) (m : Int) (q tz u : Addr) (ts : Tok) (rs : Array Value)  (h0 : ((((((m).fdiv (4))).fmod (2))) == (1)) = false) {L : DM} {s : Shared} {p : Pos} (S : StD (K5 w s₀ b1 b2) (enD (q + 3) (q + 2) .none 3 (lsE 3) ++ lsB q m rs 2 ++ tupD u [.int 2, .raw (.str ⟨⟨sgn 2⟩⟩ ts)] ++ L) [] s)
    (next : ∀ (τ : Nat → Nat → Tok) (N T G : Nat) (s' : Shared) (p' : Pos), (K5 w s₀ b1 b2).B ≤ N → N ≤ s'.heap.objs.size → StD (K5 w s₀ b1 b2) (lsM q m rs 3 ++ L) [] s' → Y.H s' ⟨denF (cLT w.params q), cLT w.params q, p', fsLS w.params A k6 z x q tz⟩) : Y.H s ⟨tUx (V0 w.params 0) (cLT w.params q) (q + 3) u, cLT w.params q, p, fsLS w.params A k6 z x q tz⟩ :=
  Y.seg (t' := fun τ N T G => denF (cLT w.params q)) (c' := fun N T G => cLT w.params q) (fs' := fun N T G => fsLS w.params A k6 z x q tz) (d' := fun N T G => lsM q m rs 3) (gm' := fun N T G => []) S (by decide) (LS_2_0_sp w s₀ b1 b2 A z k6 x m q tz u ts rs) (LS_2_0_r w s₀ b1 b2 A z k6 x m q tz u ts rs  p) (fun τ ν N T G => .cons (okv (sok_div _ _ _ _ (by decide) (div_small _ _ (by decide)))) (.cons (okv (sok_mod _ _ _ _ (by decide))) (.cons (okv (h0 ▸ sok_eq _ _ _ _)) (AllOk.nil)))) next

noncomputable def LS_3_h : List Hint := [.o 0, .o 0, .o 0, .o 3, .o 3, .o 3, .o 3, .o 3, .o 3, .o 0, .o 0, .o 0, .o 0, .o 0, .o 0, .o 1, .o 1, .o 1, .o 1, .o 1, .o 1, .o 1, .o 1]
noncomputable def LS_3_sp (w : World) (s₀ : Shared) (b1 b2 : Bool) (A : LA) (z : Addr) (k6 : Result → Sem Fin) (x : RF) (m : Int) (q tz : Addr) (rs : Array Value) (τ : Nat → Nat → Tok) (ν : Nat → Nat) (N T G : Nat) : List Spec := []
theorem LS_3_r (w : World) (s₀ : Shared) (b1 b2 : Bool) (A : LA) (z : Addr) (k6 : Result → Sem Fin) (x : RF) (m : Int) (q tz : Addr) (rs : Array Value)  (p : Pos) (τ : Nat → Nat → Tok) (ν : Nat → Nat) (N T G : Nat) :
  EndsQ w.params (run ((K5 w s₀ b1 b2).V [] N T G (LS_3_sp w s₀ b1 b2 A z k6 x m q tz rs τ ν N T G)) 35 (denF (cLT w.params q)) (cLT w.params q) p (fsLS w.params A k6 z x q tz) (memOf w.params τ ν 0 (lsM q m rs 3)) 0 0 [] 0 LS_3_h []) [1, 2, 3, 4, 5, 6, 0]
    (((rNx (V0 w.params 0) (cLT w.params q) (q + 3)).k (.ok (.ret (.ref (N + 0)))) : Sem Fin)) (cLT w.params q) (fsLS w.params A k6 z x q tz) (enD (q + 3) (q + 2) (.raw (.int (((N + 0) : Nat) : Int) 0)) 4 (lsE 4) ++ lsB q m rs 3 ++ tupD (N + 0) [.int 3, .raw (.str ⟨⟨sgn 3⟩⟩ (T + 0))]) [] := by
  (unfold EndsQ; kernel_rfl)
theorem LS_3 (w : World) (s₀ : Shared) (b1 b2 : Bool) (Y : Sys (K5 w s₀ b1 b2)) (A : LA) (z : Addr) (k6 : Result → Sem Fin) (x : RF) (m : Int) (q tz : Addr) (rs : Array Value)   {L : DM} {s : Shared} {p : Pos} (S : StD (K5 w s₀ b1 b2) (lsM q m rs 3 ++ L) [] s)
    (next : ∀ (τ : Nat → Nat → Tok) (N T G : Nat) (s' : Shared) (p' : Pos), (K5 w s₀ b1 b2).B ≤ N → N ≤ s'.heap.objs.size → StD (K5 w s₀ b1 b2) (enD (q + 3) (q + 2) (.raw (.int (((N + 0) : Nat) : Int) 0)) 4 (lsE 4) ++ lsB q m rs 3 ++ tupD (N + 0) [.int 3, .raw (.str ⟨⟨sgn 3⟩⟩ (T + 0))] ++ L) [] s' → Y.H s' ⟨((rNx (V0 w.params 0) (cLT w.params q) (q + 3)).k (.ok (.ret (.ref (N + 0)))) : Sem Fin), cLT w.params q, p', fsLS w.params A k6 z x q tz⟩) : Y.H s ⟨denF (cLT w.params q), cLT w.params q, p, fsLS w.params A k6 z x q tz⟩ :=
  Y.seg (t' := fun τ N T G => ((rNx (V0 w.params 0) (cLT w.params q) (q + 3)).k (.ok (.ret (.ref (N + 0)))) : Sem Fin)) (c' := fun N T G => cLT w.params q) (fs' := fun N T G => fsLS w.params A k6 z x q tz) (d' := fun N T G => enD (q + 3) (q + 2) (.raw (.int (((N + 0) : Nat) : Int) 0)) 4 (lsE 4) ++ lsB q m rs 3 ++ tupD (N + 0) [.int 3, .raw (.str ⟨⟨sgn 3⟩⟩ (T + 0))]) (gm' := fun N T G => []) S (by decide) (LS_3_sp w s₀ b1 b2 A z k6 x m q tz rs) (LS_3_r w s₀ b1 b2 A z k6 x m q tz rs  p) (fun τ ν N T G => AllOk.nil) next

noncomputable def LS_3_1_h : List Hint := [.o 6, .o 6, .o 6, .o 6, .o 0, .o 0, .o 0, .o 0, .o 0, .o 7, .o 0, .o 0, .o 0, .o 0, .o 0, .o 0, .o 7, .o 0, .o 0, .o 0, .o 0, .o 0, .o 0, .o 7, .o 0, .o 0, .o 0, .o 8, .o 8, .o 8, .o 8, .o 5, .o 8, .s 999 0, .s 0 0, .s 1 0, .s 2 0, .o 8, .s 3 0]
noncomputable def LS_3_1_sp (w : World) (s₀ : Shared) (b1 b2 : Bool) (A : LA) (z : Addr) (k6 : Result → Sem Fin) (x : RF) (m : Int) (q tz u : Addr) (ts : Tok) (rs : Array Value) (τ : Nat → Nat → Tok) (ν : Nat → Nat) (N T G : Nat) : List Spec := [spV (II "int.__floordiv__" (m) (τ 2 0) (8) (T + 3)) (.int ((m).fdiv (8))) 1,
  spV (II "int.__mod__" (((m).fdiv (8))) (T + 4) (2) (T + 5)) (.int ((((m).fdiv (8))).fmod (2))) 1,
  spV (II "int.__eq__" (((((m).fdiv (8))).fmod (2))) (T + 6) (1) (T + 7)) (.bool true) 0,
  spPush (q + 4) 7 rs (ν 4) ((.str ⟨⟨sgn 3⟩⟩ ts))]
theorem LS_3_1_r (w : World) (s₀ : Shared) (b1 b2 : Bool) (A : LA) (z : Addr) (k6 : Result → Sem Fin) (x : RF) (m : Int) (q tz u : Addr) (ts : Tok) (rs : Array Value)  (p : Pos) (τ : Nat → Nat → Tok) (ν : Nat → Nat) (N T G : Nat) :
  EndsQ w.params (run ((K5 w s₀ b1 b2).V [] N T G (LS_3_1_sp w s₀ b1 b2 A z k6 x m q tz u ts rs τ ν N T G)) 83 (tUx (V0 w.params 0) (cLT w.params q) (q + 3) u) (cLT w.params q) p (fsLS w.params A k6 z x q tz) (memOf w.params τ ν 0 (enD (q + 3) (q + 2) .none 4 (lsE 4) ++ lsB q m rs 3 ++ tupD u [.int 3, .raw (.str ⟨⟨sgn 3⟩⟩ ts)])) 0 0 [] 0 LS_3_1_h []) [3, 4, 5, 6, 7, 8]
    (denF (cLT w.params q)) (cLT w.params q) (fsLS w.params A k6 z x q tz) (lsM q m (rs.push ((.str ⟨⟨sgn 3⟩⟩ ts))) 4) [] := by
  cases b1 <;> (unfold EndsQ; kernel_rfl)
theorem LS_3_1 (w : World) (s₀ : Shared) (b1 b2 : Bool) (Y : Sys (K5 w s₀ b1 b2)) (A : LA) (z : Addr) (k6 : Result → Sem Fin) (x : RF) (m : Int) (q tz u : Addr) (ts : Tok) (rs : Array Value)  (h0 : ((((((m).fdiv (8))).fmod (2))) == (1)) = true) (h1 : rs.size ≤ sizeLine) {L : DM} {s : Shared} {p : Pos} (S : StD (K5 w s₀ b1 b2) (enD (q + 3) (q + 2) .none 4 (lsE 4) ++ lsB q m rs 3 ++ tupD u [.int 3, .raw (.str ⟨⟨sgn 3⟩⟩ ts)] ++ L) [] s)
    (next : ∀ (τ : Nat → Nat → Tok) (N T G : Nat) (s' : Shared) (p' : Pos), (K5 w s₀ b1 b2).B ≤ N → N ≤ s'.heap.objs.size → StD (K5 w s₀ b1 b2) (lsM q m (rs.push ((.str ⟨⟨sgn 3⟩⟩ ts))) 4 ++ L) [] s' → Y.H s' ⟨denF (cLT w.params q), cLT w.params q, p', fsLS w.params A k6 z x q tz⟩) : Y.H s ⟨tUx (V0 w.params 0) (cLT w.params q) (q + 3) u, cLT w.params q, p, fsLS w.params A k6 z x q tz⟩ :=
  Y.seg (t' := fun τ N T G => denF (cLT w.params q)) (c' := fun N T G => cLT w.params q) (fs' := fun N T G => fsLS w.params A k6 z x q tz) (d' := fun N T G => lsM q m (rs.push ((.str ⟨⟨sgn 3⟩⟩ ts))) 4) (gm' := fun N T G => []) S (by decide) (LS_3_1_sp w s₀ b1 b2 A z k6 x m q tz u ts rs) (LS_3_1_r w s₀ b1 b2 A z k6 x m q tz u ts rs  p) (fun τ ν N T G => .cons (okv (sok_div _ _ _ _ (by decide) (div_small _ _ (by decide)))) (.cons (okv (sok_mod _ _ _ _ (by decide))) (.cons (okv (h0 ▸ sok_eq _ _ _ _)) (.cons (ok1 rfl rfl rfl (sok_push _ _ _ _ _ h1)) (AllOk.nil))))) next

noncomputable def LS_3_0_h : List Hint := [.o 6, .o 6, .o 6, .o 6, .o 0, .o 0, .o 0, .o 0, .o 0, .o 7, .o 0, .o 0, .o 0, .o 0, .o 0, .o 0, .o 7, .o 0, .o 0, .o 0, .o 0, .o 0, .o 0, .o 7, .o 0, .o 0, .o 0, .o 8, .o 8, .o 8, .o 8, .o 5, .o 8, .s 999 0, .s 0 0, .s 1 0, .s 2 0]
noncomputable def LS_3_0_sp (w : World) (s₀ : Shared) (b1 b2 : Bool) (A : LA) (z : Addr) (k6 : Result → Sem Fin) (x : RF) (m : Int) (q tz u : Addr) (ts : Tok) (rs : Array Value) (τ : Nat → Nat → Tok) (ν : Nat → Nat) (N T G : Nat) : List Spec := [spV (II "int.__floordiv__" (m) (τ 2 0) (8) (T + 3)) (.int ((m).fdiv (8))) 1,
  spV (II "int.__mod__" (((m).fdiv (8))) (T + 4) (2) (T + 5)) (.int ((((m).fdiv (8))).fmod (2))) 1,
  spV (II "int.__eq__" (((((m).fdiv (8))).fmod (2))) (T + 6) (1) (T + 7)) (.bool false) 0]
theorem LS_3_0_r (w : World) (s₀ : Shared) (b1 b2 : Bool) (A : LA) (z : Addr) (k6 : Result → Sem Fin) (x : RF) (m : Int) (q tz u : Addr) (ts : Tok) (rs : Array Value)  (p : Pos) (τ : Nat → Nat → Tok) (ν : Nat → Nat) (N T G : Nat) :
  EndsQ w.params (run ((K5 w s₀ b1 b2).V [] N T G (LS_3_0_sp w s₀ b1 b2 A z k6 x m q tz u ts rs τ ν N T G)) 80 (tUx (V0 w.params 0) (cLT w.params q) (q + 3) u) (cLT w.params q) p (fsLS w.params A k6 z x q tz) (memOf w.params τ ν 0 (enD (q + 3) (q + 2) .none 4 (lsE 4) ++ lsB q m rs 3 ++ tupD u [.int 3, .raw (.str ⟨⟨sgn 3⟩⟩ ts)])) 0 0 [] 0 LS_3_0_h []) [3, 4, 5, 6, 7, 8]
    (denF (cLT w.params q)) (cLT w.params q) (fsLS w.params A k6 z x q tz) (lsM q m rs 4) [] := by
  cases b1 <;> (unfold EndsQ; kernel_rfl)
theorem LS_3_0 (w : World) (s₀ : Shared) (b1 b2 : Bool) (Y : Sys (K5 w s₀ b1 b2)) (A : LA) (z : Addr) (k6 : Result → Sem Fin) (x : RF) (m : Int) (q tz u : Addr) (ts : Tok) (rs : Array Value)  (h0 : ((((((m).fdiv (8))).fmod (2))) == (1)) = false) {L : DM} {s : Shared} {p : Pos} (S : StD (K5 w s₀ b1 b2) (enD (q + 3) (q + 2) .none 4 (lsE 4) ++ lsB q m rs 3 ++ tupD u [.int 3, .raw (.str ⟨⟨sgn 3⟩⟩ ts)] ++ L) [] s)
    (next : ∀ (τ : Nat → Nat → Tok) (N T G : Nat) (s' : Shared) (p' : Pos), (K5 w s₀ b1 b2).B ≤ N → N ≤ s'.heap.objs.size → StD (K5 w s₀ b1 b2) (lsM q m rs 4 ++ L) [] s' → Y.H s' ⟨denF (cLT w.params q), cLT w.params q, p', fsLS w.params A k6 z x q tz⟩) : Y.H s ⟨tUx (V0 w.params 0) (cLT w.params q) (q + 3) u, cLT w.params q, p, fsLS w.params A k6 z x q tz⟩ :=
  Y.seg (t' := fun τ N T G => denF (cLT w.params q)) (c' := fun N T G => cLT w.params q) (fs' := fun N T G => fsLS w.params A k6 z x q tz) (d' := fun N T G => lsM q m rs 4) (gm' := fun N T G => []) S (by decide) (LS_3_0_sp w s₀ b1 b2 A z k6 x m q tz u ts rs) (LS_3_0_r w s₀ b1 b2 A z k6 x m q tz u ts rs  p) (fun τ ν N T G => .cons (okv (sok_div _ _ _ _ (by decide) (div_small _ _ (by decide)))) (.cons (okv (sok_mod _ _ _ _ (by decide))) (.cons (okv (h0 ▸ sok_eq _ _ _ _)) (AllOk.nil)))) next

noncomputable def LS_4_h : List Hint := [.o 0, .o 0, .o 0, .o 3, .o 3, .o 3, .o 3, .o 3, .o 3, .o 0, .o 0, .o 0, .o 0, .o 0, .o 0, .o 1, .o 1, .o 1, .o 1, .o 1, .o 1, .o 1, .o 1]
noncomputable def LS_4_sp (w : World) (s₀ : Shared) (b1 b2 : Bool) (A : LA) (z : Addr) (k6 : Result → Sem Fin) (x : RF) (m : Int) (q tz : Addr) (rs : Array Value) (τ : Nat → Nat → Tok) (ν : Nat → Nat) (N T G : Nat) : List Spec := []
theorem LS_4_r (w : World) (s₀ : Shared) (b1 b2 : Bool) (A : LA) (z : Addr) (k6 : Result → Sem Fin) (x : RF) (m : Int) (q tz : Addr) (rs : Array Value)  (p : Pos) (τ : Nat → Nat → Tok) (ν : Nat → Nat) (N T G : Nat) :
  EndsQ w.params (run ((K5 w s₀ b1 b2).V [] N T G (LS_4_sp w s₀ b1 b2 A z k6 x m q tz rs τ ν N T G)) 35 (denF (cLT w.params q)) (cLT w.params q) p (fsLS w.params A k6 z x q tz) (memOf w.params τ ν 0 (lsM q m rs 4)) 0 0 [] 0 LS_4_h []) [1, 2, 3, 4, 5, 6, 0]
    (((rNx (V0 w.params 0) (cLT w.params q) (q + 3)).k (.ok (.ret (.ref (N + 0)))) : Sem Fin)) (cLT w.params q) (fsLS w.params A k6 z x q tz) (enD (q + 3) (q + 2) (.raw (.int (((N + 0) : Nat) : Int) 0)) 5 (lsE 5) ++ lsB q m rs 4 ++ tupD (N + 0) [.int 4, .raw (.str ⟨⟨sgn 4⟩⟩ (T + 0))]) [] := by
  (unfold EndsQ; kernel_rfl)
theorem LS_4 (w : World) (s₀ : Shared) (b1 b2 : Bool) (Y : Sys (K5 w s₀ b1 b2)) (A : LA) (z : Addr) (k6 : Result → Sem Fin) (x : RF) (m : Int) (q tz : Addr) (rs : Array Value)   {L : DM} {s : Shared} {p : Pos} (S : StD (K5 w s₀ b1 b2) (lsM q m rs 4 ++ L) [] s)
    (next : ∀ (τ : Nat → Nat → Tok) (N T G : Nat) (s' : Shared) (p' : Pos), (K5 w s₀ b1 b2).B ≤ N → N ≤ s'.heap.objs.size → StD (K5 w s₀ b1 b2) (enD (q + 3) (q + 2) (.raw (.int (((N + 0) : Nat) : Int) 0)) 5 (lsE 5) ++ lsB q m rs 4 ++ tupD (N + 0) [.int 4, .raw (.str ⟨⟨sgn 4⟩⟩ (T + 0))] ++ L) [] s' → Y.H s' ⟨((rNx (V0 w.params 0) (cLT w.params q) (q + 3)).k (.ok (.ret (.ref (N + 0)))) : Sem Fin), cLT w.params q, p', fsLS w.params A k6 z x q tz⟩) : Y.H s ⟨denF (cLT w.params q), cLT w.params q, p, fsLS w.params A k6 z x q tz⟩ :=
  Y.seg (t' := fun τ N T G => ((rNx (V0 w.params 0) (cLT w.params q) (q + 3)).k (.ok (.ret (.ref (N + 0)))) : Sem Fin)) (c' := fun N T G => cLT w.params q) (fs' := fun N T G => fsLS w.params A k6 z x q tz) (d' := fun N T G => enD (q + 3) (q + 2) (.raw (.int (((N + 0) : Nat) : Int) 0)) 5 (lsE 5) ++ lsB q m rs 4 ++ tupD (N + 0) [.int 4, .raw (.str ⟨⟨sgn 4⟩⟩ (T + 0))]) (gm' := fun N T G => []) S (by decide) (LS_4_sp w s₀ b1 b2 A z k6 x m q tz rs) (LS_4_r w s₀ b1 b2 A z k6 x m q tz rs  p) (fun τ ν N T G => AllOk.nil) next

noncomputable def LS_4_1_h : List Hint := [.o 6, .o 6, .o 6, .o 6, .o 0, .o 0, .o 0, .o 0, .o 0, .o 7, .o 0, .o 0, .o 0, .o 0, .o 0, .o 0, .o 7, .o 0, .o 0, .o 0, .o 0, .o 0, .o 0, .o 7, .o 0, .o 0, .o 0, .o 8, .o 8, .o 8, .o 8, .o 5, .o 8, .s 999 0, .s 0 0, .s 1 0, .s 2 0, .o 8, .s 3 0]
noncomputable def LS_4_1_sp (w : World) (s₀ : Shared) (b1 b2 : Bool) (A : LA) (z : Addr) (k6 : Result → Sem Fin) (x : RF) (m : Int) (q tz u : Addr) (ts : Tok) (rs : Array Value) (τ : Nat → Nat → Tok) (ν : Nat → Nat) (N T G : Nat) : List Spec := [spV (II "int.__floordiv__" (m) (τ 2 0) (16) (T + 3)) (.int ((m).fdiv (16))) 1,
  spV (II "int.__mod__" (((m).fdiv (16))) (T + 4) (2) (T + 5)) (.int ((((m).fdiv (16))).fmod (2))) 1,
  spV (II "int.__eq__" (((((m).fdiv (16))).fmod (2))) (T + 6) (1) (T + 7)) (.bool true) 0,
  spPush (q + 4) 7 rs (ν 4) ((.str ⟨⟨sgn 4⟩⟩ ts))]
theorem LS_4_1_r (w : World) (s₀ : Shared) (b1 b2 : Bool) (A : LA) (z : Addr) (k6 : Result → Sem Fin) (x : RF) (m : Int) (q tz u : Addr) (ts : Tok) (rs : Array Value)  (p : Pos) (τ : Nat → Nat → Tok) (ν : Nat → Nat) (N T G : Nat) :
  EndsQ w.params (run ((K5 w s₀ b1 b2).V [] N T G (LS_4_1_sp w s₀ b1 b2 A z k6 x m q tz u ts rs τ ν N T G)) 83 (tUx (V0 w.params 0) (cLT w.params q) (q + 3) u) (cLT w.params q) p (fsLS w.params A k6 z x q tz) (memOf w.params τ ν 0 (enD (q + 3) (q + 2) .none 5 (lsE 5) ++ lsB q m rs 4 ++ tupD u [.int 4, .raw (.str ⟨⟨sgn 4⟩⟩ ts)])) 0 0 [] 0 LS_4_1_h []) [3, 4, 5, 6, 7, 8]
    (denF (cLT w.params q)) (cLT w.params q) (fsLS w.params A k6 z x q tz) (lsM q m (rs.push ((.str ⟨⟨sgn 4⟩⟩ ts))) 5) [] := by
  cases b1 <;> (unfold EndsQ; kernel_rfl)
theorem LS_4_1 (w : World) (s₀ : Shared) (b1 b2 : Bool) (Y : Sys (K5 w s₀ b1 b2)) (A : LA) (z : Addr) (k6 : Result → Sem Fin) (x : RF) (m : Int) (q tz u : Addr) (ts : Tok) (rs : Array Value)  (h0 : ((((((m).fdiv (16))).fmod (2))) == (1)) = true) (h1 : rs.size ≤ sizeLine) {L : DM} {s : Shared} {p : Pos} (S : StD (K5 w s₀ b1 b2) (enD (q + 3) (q + 2) .none 5 (lsE 5) ++ lsB q m rs 4 ++ tupD u [.int 4, .raw (.str ⟨⟨sgn 4⟩⟩ ts)] ++ L) [] s)
    (next : ∀ (τ : Nat → Nat → Tok) (N T G : Nat) (s' : Shared) (p' : Pos), (K5 w s₀ b1 b2).B ≤ N → N ≤ s'.heap.objs.size → StD (K5 w s₀ b1 b2) (lsM q m (rs.push ((.str ⟨⟨sgn 4⟩⟩ ts))) 5 ++ L) [] s' → Y.H s' ⟨denF (cLT w.params q), cLT w.params q, p', fsLS w.params A k6 z x q tz⟩) : Y.H s ⟨tUx (V0 w.params 0) (cLT w.params q) (q + 3) u, cLT w.params q, p, fsLS w.params A k6 z x q tz⟩ :=
  Y.seg (t' := fun τ N T G => denF (cLT w.params q)) (c' := fun N T G => cLT w.params q) (fs' := fun N T G => fsLS w.params A k6 z x q tz) (d' := fun N T G => lsM q m (rs.push ((.str ⟨⟨sgn 4⟩⟩ ts))) 5) (gm' := fun N T G => []) S (by decide) (LS_4_1_sp w s₀ b1 b2 A z k6 x m q tz u ts rs) (LS_4_1_r w s₀ b1 b2 A z k6 x m q tz u ts rs  p) (fun τ ν N T G => .cons (okv (sok_div _ _ _ _ (by decide) (div_small _ _ (by decide)))) (.cons (okv (sok_mod _ _ _ _ (by decide))) (.cons (okv (h0 ▸ sok_eq _ _ _ _)) (.cons (ok1 rfl rfl rfl (sok_push _ _ _ _ _ h1)) (AllOk.nil))))) next

noncomputable def LS_4_0_h : List Hint := [.o 6, .o 6, .o 6, .o 6, .o 0, .o 0, .o 0, .o 0, .o 0, .o 7, .o 0, .o 0, .o 0, .o 0, .o 0, .o 0, .o 7, .o 0, .o 0, .o 0, .o 0, .o 0, .o 0, .o 7, .o 0, .o 0, .o 0, .o 8, .o 8, .o 8, .o 8, .o 5, .o 8, .s 999 0, .s 0 0, .s 1 0, .s 2 0]
noncomputable def LS_4_0_sp (w : World) (s₀ : Shared) (b1 b2 : Bool) (A : LA) (z : Addr) (k6 : Result → Sem Fin) (x : RF) (m : Int) (q tz u : Addr) (ts : Tok) (rs : Array Value) (τ : Nat → Nat → Tok) (ν : Nat → Nat) (N T G : Nat) : List Spec := [spV (II "int.__floordiv__" (m) (τ 2 0) (16) (T + 3)) (.int ((m).fdiv (16))) 1,
  spV (II "int.__mod__" (((m).fdiv (16))) (T + 4) (2) (T + 5)) (.int ((((m).fdiv (16))).fmod (2))) 1,
  spV (II "int.__eq__" (((((m).fdiv (16))).fmod (2))) (T + 6) (1) (T + 7)) (.bool false) 0]
theorem LS_4_0_r (w : World) (s₀ : Shared) (b1 b2 : Bool) (A : LA) (z : Addr) (k6 : Result → Sem Fin) (x : RF) (m : Int) (q tz u : Addr) (ts : Tok) (rs : Array Value)  (p : Pos) (τ : Nat → Nat → Tok) (ν : Nat → Nat) (N T G : Nat) :
  EndsQ w.params (run ((K5 w s₀ b1 b2).V [] N T G (LS_4_0_sp w s₀ b1 b2 A z k6 x m q tz u ts rs τ ν N T G)) 80 (tUx (V0 w.params 0) (cLT w.params q) (q + 3) u) (cLT w.params q) p (fsLS w.params A k6 z x q tz) (memOf w.params τ ν 0 (enD (q + 3) (q + 2) .none 5 (lsE 5) ++ lsB q m rs 4 ++ tupD u [.int 4, .raw (.str ⟨⟨sgn 4⟩⟩ ts)])) 0 0 [] 0 LS_4_0_h []) [3, 4, 5, 6, 7, 8]
    (denF (cLT w.params q)) (cLT w.params q) (fsLS w.params A k6 z x q tz) (lsM q m rs 5) [] := by
  cases b1 <;> (unfold EndsQ; kernel_rfl)
theorem LS_4_0 (w : World) (s₀ : Shared) (b1 b2 : Bool) (Y : Sys (K5 w s₀ b1 b2)) (A : LA) (z : Addr) (k6 : Result → Sem Fin) (x : RF) (m : Int) (q tz u : Addr) (ts : Tok) (rs : Array Value)  (h0 : ((((((m).fdiv (16))).fmod (2))) == (1)) = false) {L : DM} {s : Shared} {p : Pos} (S : StD (K5 w s₀ b1 b2) (enD (q + 3) (q + 2) .none 5 (lsE 5) ++ lsB q m rs 4 ++ tupD u [.int 4, .raw (.str ⟨⟨sgn 4⟩⟩ ts)] ++ L) [] s)
    (next : ∀ (τ : Nat → Nat → Tok) (N T G : Nat) (s' : Shared) (p' : Pos), (K5 w s₀ b1 b2).B ≤ N → N ≤ s'.heap.objs.size → StD (K5 w s₀ b1 b2) (lsM q m rs 5 ++ L) [] s' → Y.H s' ⟨denF (cLT w.params q), cLT w.params q, p', fsLS w.params A k6 z x q tz⟩) : Y.H s ⟨tUx (V0 w.params 0) (cLT w.params q) (q + 3) u, cLT w.params q, p, fsLS w.params A k6 z x q tz⟩ :=
  Y.seg (t' := fun τ N T G => denF (cLT w.params q)) (c' := fun N T G => cLT w.params q) (fs' := fun N T G => fsLS w.params A k6 z x q tz) (d' := fun N T G => lsM q m rs 5) (gm' := fun N T G => []) S (by decide) (LS_4_0_sp w s₀ b1 b2 A z k6 x m q tz u ts rs) (LS_4_0_r w s₀ b1 b2 A z k6 x m q tz u ts rs  p) (fun τ ν N T G => .cons (okv (sok_div _ _ _ _ (by decide) (div_small _ _ (by decide)))) (.cons (okv (sok_mod _ _ _ _ (by decide))) (.cons (okv (h0 ▸ sok_eq _ _ _ _)) (AllOk.nil)))) next

noncomputable def LS_5_h : List Hint := [.o 0, .o 0, .o 0, .o 3, .o 3, .o 3, .o 3, .o 3, .o 3, .o 0, .o 0, .o 0, .o 0, .o 0, .o 0, .o 1, .o 1, .o 1, .o 1, .o 1, .o 1, .o 1, .o 1]
noncomputable def LS_5_sp (w : World) (s₀ : Shared) (b1 b2 : Bool) (A : LA) (z : Addr) (k6 : Result → Sem Fin) (x : RF) (m : Int) (q tz : Addr) (rs : Array Value) (τ : Nat → Nat → Tok) (ν : Nat → Nat) (N T G : Nat) : List Spec := []
theorem LS_5_r (w : World) (s₀ : Shared) (b1 b2 : Bool) (A : LA) (z : Addr) (k6 : Result → Sem Fin) (x : RF) (m : Int) (q tz : Addr) (rs : Array Value)  (p : Pos) (τ : Nat → Nat → Tok) (ν : Nat → Nat) (N T G : Nat) :
  EndsQ w.params (run ((K5 w s₀ b1 b2).V [] N T G (LS_5_sp w s₀ b1 b2 A z k6 x m q tz rs τ ν N T G)) 35 (denF (cLT w.params q)) (cLT w.params q) p (fsLS w.params A k6 z x q tz) (memOf w.params τ ν 0 (lsM q m rs 5)) 0 0 [] 0 LS_5_h []) [1, 2, 3, 4, 5, 6, 0]
    (((rNx (V0 w.params 0) (cLT w.params q) (q + 3)).k (.ok (.ret (.ref (N + 0)))) : Sem Fin)) (cLT w.params q) (fsLS w.params A k6 z x q tz) (enD (q + 3) (q + 2) (.raw (.int (((N + 0) : Nat) : Int) 0)) 6 (lsE 6) ++ lsB q m rs 5 ++ tupD (N + 0) [.int 5, .raw (.str ⟨⟨sgn 5⟩⟩ (T + 0))]) [] := by
  (unfold EndsQ; kernel_rfl)
theorem LS_5 (w : World) (s₀ : Shared) (b1 b2 : Bool) (Y : Sys (K5 w s₀ b1 b2)) (A : LA) (z : Addr) (k6 : Result → Sem Fin) (x : RF) (m : Int) (q tz : Addr) (rs : Array Value)   {L : DM} {s : Shared} {p : Pos} (S : StD (K5 w s₀ b1 b2) (lsM q m rs 5 ++ L) [] s)
    (next : ∀ (τ : Nat → Nat → Tok) (N T G : Nat) (s' : Shared) (p' : Pos), (K5 w s₀ b1 b2).B ≤ N → N ≤ s'.heap.objs.size → StD (K5 w s₀ b1 b2) (enD (q + 3) (q + 2) (.raw (.int (((N + 0) : Nat) : Int) 0)) 6 (lsE 6) ++ lsB q m rs 5 ++ tupD (N + 0) [.int 5, .raw (.str ⟨⟨sgn 5⟩⟩ (T + 0))] ++ L) [] s' → Y.H s' ⟨((rNx (V0 w.params 0) (cLT w.params q) (q + 3)).k (.ok (.ret (.ref (N + 0)))) : Sem Fin), cLT w.params q, p', fsLS w.params A k6 z x q tz⟩) : Y.H s ⟨denF (cLT w.params q), cLT w.params q, p, fsLS w.params A k6 z x q tz⟩ :=
  Y.seg (t' := fun τ N T G => ((rNx (V0 w.params 0) (cLT w.params q) (q + 3)).k (.ok (.ret (.ref (N + 0)))) : Sem Fin)) (c' := fun N T G => cLT w.params q) (fs' := fun N T G => fsLS w.params A k6 z x q tz) (d' := fun N T G => enD (q + 3) (q + 2) (.raw (.int (((N + 0) : Nat) : Int) 0)) 6 (lsE 6) ++ lsB q m rs 5 ++ tupD (N + 0) [.int 5, .raw (.str ⟨⟨sgn 5⟩⟩ (T + 0))]) (gm' := fun N T G => []) S (by decide) (LS_5_sp w s₀ b1 b2 A z k6 x m q tz rs) (LS_5_r w s₀ b1 b2 A z k6 x m q tz rs  p) (fun τ ν N T G => AllOk.nil) next

noncomputable def LS_5_1_h : List Hint := [.o 6, .o 6, .o 6, .o 6, .o 0, .o 0, .o 0, .o 0, .o 0, .o 7, .o 0, .o 0, .o 0, .o 0, .o 0, .o 0, .o 7, .o 0, .o 0, .o 0, .o 0, .o 0, .o 0, .o 7, .o 0, .o 0, .o 0, .o 8, .o 8, .o 8, .o 8, .o 5, .o 8, .s 999 0, .s 0 0, .s 1 0, .s 2 0, .o 8, .s 3 0]
noncomputable def LS_5_1_sp (w : World) (s₀ : Shared) (b1 b2 : Bool) (A : LA) (z : Addr) (k6 : Result → Sem Fin) (x : RF) (m : Int) (q tz u : Addr) (ts : Tok) (rs : Array Value) (τ : Nat → Nat → Tok) (ν : Nat → Nat) (N T G : Nat) : List Spec := [spV (II "int.__floordiv__" (m) (τ 2 0) (32) (T + 3)) (.int ((m).fdiv (32))) 1,
  spV (II "int.__mod__" (((m).fdiv (32))) (T + 4) (2) (T + 5)) (.int ((((m).fdiv (32))).fmod (2))) 1,
  spV (II "int.__eq__" (((((m).fdiv (32))).fmod (2))) (T + 6) (1) (T + 7)) (.bool true) 0,
  spPush (q + 4) 7 rs (ν 4) ((.str ⟨⟨sgn 5⟩⟩ ts))]
theorem LS_5_1_r (w : World) (s₀ : Shared) (b1 b2 : Bool) (A : LA) (z : Addr) (k6 : Result → Sem Fin) (x : RF) (m : Int) (q tz u : Addr) (ts : Tok) (rs : Array Value)  (p : Pos) (τ : Nat → Nat → Tok) (ν : Nat → Nat) (N T G : Nat) :
  EndsQ w.params (run ((K5 w s₀ b1 b2).V [] N T G (LS_5_1_sp w s₀ b1 b2 A z k6 x m q tz u ts rs τ ν N T G)) 83 (tUx (V0 w.params 0) (cLT w.params q) (q + 3) u) (cLT w.params q) p (fsLS w.params A k6 z x q tz) (memOf w.params τ ν 0 (enD (q + 3) (q + 2) .none 6 (lsE 6) ++ lsB q m rs 5 ++ tupD u [.int 5, .raw (.str ⟨⟨sgn 5⟩⟩ ts)])) 0 0 [] 0 LS_5_1_h []) [3, 4, 5, 6, 7, 8]
    (denF (cLT w.params q)) (cLT w.params q) (fsLS w.params A k6 z x q tz) (lsM q m (rs.push ((.str ⟨⟨sgn 5⟩⟩ ts))) 6) [] := by
  cases b1 <;> (unfold EndsQ; kernel_rfl)
theorem LS_5_1 (w : World) (s₀ : Shared) (b1 b2 : Bool) (Y : Sys (K5 w s₀ b1 b2)) (A : LA) (z : Addr) (k6 : Result → Sem Fin) (x : RF) (m : Int) (q tz u : Addr) (ts : Tok) (rs : Array Value)  (h0 : ((((((m).fdiv (32))).fmod (2))) == (1)) = true) (h1 : rs.size ≤ sizeLine) {L : DM} {s : Shared} {p : Pos} (S : StD (K5 w s₀ b1 b2) (enD (q + 3) (q + 2) .none 6 (lsE 6) ++ lsB q m rs 5 ++ tupD u [.int 5, .raw (.str ⟨⟨sgn 5⟩⟩ ts)] ++ L) [] s)
    (next : ∀ (τ : Nat → Nat → Tok) (N T G : Nat) (s' : Shared) (p' : Pos), (K5 w s₀ b1 b2).B ≤ N → N ≤ s'.heap.objs.size → StD (K5 w s₀ b1 b2) (lsM q m (rs.push ((.str ⟨⟨sgn 5⟩⟩ ts))) 6 ++ L) [] s' → Y.H s' ⟨denF (cLT w.params q), cLT w.params q, p', fsLS w.params A k6 z x q tz⟩) : Y.H s ⟨tUx (V0 w.params 0) (cLT w.params q) (q + 3) u, cLT w.params q, p, fsLS w.params A k6 z x q tz⟩ :=
  Y.seg (t' := fun τ N T G => denF (cLT w.params q)) (c' := fun N T G => cLT w.params q) (fs' := fun N T G => fsLS w.params A k6 z x q tz) (d' := fun N T G => lsM q m (rs.push ((.str ⟨⟨sgn 5⟩⟩ ts))) 6) (gm' := fun N T G => []) S (by decide) (LS_5_1_sp w s₀ b1 b2 A z k6 x m q tz u ts rs) (LS_5_1_r w s₀ b1 b2 A z k6 x m q tz u ts rs  p) (fun τ ν N T G => .cons (okv (sok_div _ _ _ _ (by decide) (div_small _ _ (by decide)))) (.cons (okv (sok_mod _ _ _ _ (by decide))) (.cons (okv (h0 ▸ sok_eq _ _ _ _)) (.cons (ok1 rfl rfl rfl (sok_push _ _ _ _ _ h1)) (AllOk.nil))))) next

noncomputable def LS_5_0_h : List Hint := [.o 6, .o 6, .o 6, .o 6, .o 0, .o 0, .o 0, .o 0, .o 0, .o 7, .o 0, .o 0, .o 0, .o 0, .o 0, .o 0, .o 7, .o 0, .o 0, .o 0, .o 0, .o 0, .o 0, .o 7, .o 0, .o 0, .o 0, .o 8, .o 8, .o 8, .o 8, .o 5, .o 8, .s 999 0, .s 0 0, .s 1 0, .s 2 0]
noncomputable def LS_5_0_sp (w : World) (s₀ : Shared) (b1 b2 : Bool) (A : LA) (z : Addr) (k6 : Result → Sem Fin) (x : RF) (m : Int) (q tz u : Addr) (ts : Tok) (rs : Array Value) (τ : Nat → Nat → Tok) (ν : Nat → Nat) (N T G : Nat) : List Spec := [spV (II "int.__floordiv__" (m) (τ 2 0) (32) (T + 3)) (.int ((m).fdiv (32))) 1,
  spV (II "int.__mod__" (((m).fdiv (32))) (T + 4) (2) (T + 5)) (.int ((((m).fdiv (32))).fmod (2))) 1,
  spV (II "int.__eq__" (((((m).fdiv (32))).fmod (2))) (T + 6) (1) (T + 7)) (.bool false) 0]
theorem LS_5_0_r (w : World) (s₀ : Shared) (b1 b2 : Bool) (A : LA) (z : Addr) (k6 : Result → Sem Fin) (x : RF) (m : Int) (q tz u : Addr) (ts : Tok) (rs : Array Value)  (p : Pos) (τ : Nat → Nat → Tok) (ν : Nat → Nat) (N T G : Nat) :
  EndsQ w.params (run ((K5 w s₀ b1 b2).V [] N T G (LS_5_0_sp w s₀ b1 b2 A z k6 x m q tz u ts rs τ ν N T G)) 80 (tUx (V0 w.params 0) (cLT w.params q) (q + 3) u) (cLT w.params q) p (fsLS w.params A k6 z x q tz) (memOf w.params τ ν 0 (enD (q + 3) (q + 2) .none 6 (lsE 6) ++ lsB q m rs 5 ++ tupD u [.int 5, .raw (.str ⟨⟨sgn 5⟩⟩ ts)])) 0 0 [] 0 LS_5_0_h []) [3, 4, 5, 6, 7, 8]
    (denF (cLT w.params q)) (cLT w.params q) (fsLS w.params A k6 z x q tz) (lsM q m rs 6) [] := by
  cases b1 <;> (unfold EndsQ; kernel_rfl)
theorem LS_5_0 (w : World) (s₀ : Shared) (b1 b2 : Bool) (Y : Sys (K5 w s₀ b1 b2)) (A : LA) (z : Addr) (k6 : Result → Sem Fin) (x : RF) (m : Int) (q tz u : Addr) (ts : Tok) (rs : Array Value)  (h0 : ((((((m).fdiv (32))).fmod (2))) == (1)) = false) {L : DM} {s : Shared} {p : Pos} (S : StD (K5 w s₀ b1 b2) (enD (q + 3) (q + 2) .none 6 (lsE 6) ++ lsB q m rs 5 ++ tupD u [.int 5, .raw (.str ⟨⟨sgn 5⟩⟩ ts)] ++ L) [] s)
    (next : ∀ (τ : Nat → Nat → Tok) (N T G : Nat) (s' : Shared) (p' : Pos), (K5 w s₀ b1 b2).B ≤ N → N ≤ s'.heap.objs.size → StD (K5 w s₀ b1 b2) (lsM q m rs 6 ++ L) [] s' → Y.H s' ⟨denF (cLT w.params q), cLT w.params q, p', fsLS w.params A k6 z x q tz⟩) : Y.H s ⟨tUx (V0 w.params 0) (cLT w.params q) (q + 3) u, cLT w.params q, p, fsLS w.params A k6 z x q tz⟩ :=
  Y.seg (t' := fun τ N T G => denF (cLT w.params q)) (c' := fun N T G => cLT w.params q) (fs' := fun N T G => fsLS w.params A k6 z x q tz) (d' := fun N T G => lsM q m rs 6) (gm' := fun N T G => []) S (by decide) (LS_5_0_sp w s₀ b1 b2 A z k6 x m q tz u ts rs) (LS_5_0_r w s₀ b1 b2 A z k6 x m q tz u ts rs  p) (fun τ ν N T G => .cons (okv (sok_div _ _ _ _ (by decide) (div_small _ _ (by decide)))) (.cons (okv (sok_mod _ _ _ _ (by decide))) (.cons (okv (h0 ▸ sok_eq _ _ _ _)) (AllOk.nil)))) next

noncomputable def LS_end_h : List Hint := [.o 0, .o 0, .o 0, .o 3, .o 3, .o 3, .o 3, .o 3, .o 3, .o 0, .o 7, .o 7, .o 7, .o 7, .o 7, .o 7, .s 0 0]
noncomputable def LS_end_sp (w : World) (s₀ : Shared) (b1 b2 : Bool) (A : LA) (z : Addr) (k6 : Result → Sem Fin) (x : RF) (m : Int) (q tz : Addr) (vs : List (Str × Tok)) (τ : Nat → Nat → Tok) (ν : Nat → Nat) (N T G : Nat) : List Spec := [spJoin (tz + 0) (q + 4) 6 vs (ν 4)]
theorem LS_end_r (w : World) (s₀ : Shared) (b1 b2 : Bool) (A : LA) (z : Addr) (k6 : Result → Sem Fin) (x : RF) (m : Int) (q tz : Addr) (vs : List (Str × Tok))  (p : Pos) (τ : Nat → Nat → Tok) (ν : Nat → Nat) (N T G : Nat) :
  EndsQ w.params (run ((K5 w s₀ b1 b2).V [] N T G (LS_end_sp w s₀ b1 b2 A z k6 x m q tz vs τ ν N T G)) 37 (denF (cLT w.params q)) (cLT w.params q) p (fsLS w.params A k6 z x q tz) (memOf w.params τ ν 0 (lsM q m (strValues vs).toArray 6)) 0 0 [] 0 LS_end_h []) []
    ((x.k (.ok (.ret (.str (glue0 vs) (jtok vs (T + 0))))) : Sem Fin)) (cF1 w.params A z) (fsF1 w.params A k6 z) (([] : DM)) [] := by
  (unfold EndsQ; kernel_rfl)
theorem LS_end (w : World) (s₀ : Shared) (b1 b2 : Bool) (Y : Sys (K5 w s₀ b1 b2)) (A : LA) (z : Addr) (k6 : Result → Sem Fin) (x : RF) (m : Int) (q tz : Addr) (vs : List (Str × Tok))  (h0 : JoinOk vs) {L : DM} {s : Shared} {p : Pos} (S : StD (K5 w s₀ b1 b2) (lsM q m (strValues vs).toArray 6 ++ L) [] s)
    (next : ∀ (τ : Nat → Nat → Tok) (N T G : Nat) (s' : Shared) (p' : Pos), (K5 w s₀ b1 b2).B ≤ N → N ≤ s'.heap.objs.size → StD (K5 w s₀ b1 b2) (([] : DM) ++ L) [] s' → Y.H s' ⟨(x.k (.ok (.ret (.str (glue0 vs) (jtok vs (T + 0))))) : Sem Fin), cF1 w.params A z, p', fsF1 w.params A k6 z⟩) : Y.H s ⟨denF (cLT w.params q), cLT w.params q, p, fsLS w.params A k6 z x q tz⟩ :=
  Y.seg (t' := fun τ N T G => (x.k (.ok (.ret (.str (glue0 vs) (jtok vs (T + 0))))) : Sem Fin)) (c' := fun N T G => cF1 w.params A z) (fs' := fun N T G => fsF1 w.params A k6 z) (d' := fun N T G => ([] : DM)) (gm' := fun N T G => []) S (by decide) (LS_end_sp w s₀ b1 b2 A z k6 x m q tz vs) (LS_end_r w s₀ b1 b2 A z k6 x m q tz vs  p) (fun τ ν N T G => .cons (ok_join _ _ _ _ _ h0) (AllOk.nil)) next

end Mine
end

section
set_option linter.unusedVariables false
set_option linter.unusedSimpArgs false
set_option maxRecDepth 100000
set_option maxHeartbeats 0
namespace Mine
open PySem PySem.W PySem.W.X

noncomputable def rMask (msk n : Int) : Int := Builtin.bitXor msk ((n.fdiv 384).fmod 64)
noncomputable def tMask (n : Int) : Int := (n.fdiv 24576).fmod 64
noncomputable def cList (x : Str) (t : Tok) : Code := .call (.type c_list) ⟨[.str x t], []⟩
def kName (j : Nat) : Str := (⟨⟨[75]⟩⟩ : Str) ++ (⟨⟨[48 + j]⟩⟩ : Str)

noncomputable def oS2 (P : Params) (A : LA) (z : Nat) : Out := run (V0 P (0)) 35 ((rS1 P A z).k (.ok (.ret (.str ⟨⟨[97]⟩⟩ 5)))) (cF1 P A z) default ([]) (memOf P (fun _ _ => 0) (fun _ => 0) 0 ([(A.L0, .dict c_frame [([115, 99, 114, 105, 112, 116], .ref 264), ([110, 117, 109, 98, 101, 114, 115], .ref A.nb), ([115, 105, 122, 101], .int 15), ([112, 108, 97, 99, 101], .int 0), ([110], .int 77), ([109, 97, 115, 107], .int 15)]), ((z + 3), .fields c_enum [.none, .bool false, .ref (z + 2), .raw (.int 1 0), .none, .int 77])])) 0 0 [] 0 [.o 0, .o 0, .b, .o 0, .o 0, .b] []

noncomputable def rS2 (P : Params) (A : LA) (z : Nat) : RF := rfOf (oS2 P A z).fs
theorem fs_S2 (P : Params) (A : LA) (k6 : Result → Sem Fin) (z : Nat) : (oS2 P A z).fs ++ fsF1 P A k6 z = fsS P A k6 z (rS2 P A z) := by kernel_rfl

noncomputable def PF2_h : List Hint := [.o 1, .o 1, .b, .o 1, .o 1, .s 0 0, .s 1 0, .s 2 0, .b]
noncomputable def PF2_sp (w : World) (s₀ : Shared) (b1 b2 : Bool) (A : LA) (z : Addr) (k6 : Result → Sem Fin) (sz : Int) (ns ks cs : Array Value) (j : Nat) (x : PX) (n msk : Int) (h : Str) (th : Tok) (τ : Nat → Nat → Tok) (ν : Nat → Nat) (N T G : Nat) : List Spec := [spV (II "int.__floordiv__" (n) (τ 1 9) (384) (T + 1)) (.int ((n).fdiv (384))) 1,
  spV (II "int.__mod__" (((n).fdiv (384))) (T + 2) (64) (T + 3)) (.int ((((n).fdiv (384))).fmod (64))) 1,
  spV (II "int.__xor__" (msk) (τ 1 11) (((((n).fdiv (384))).fmod (64))) (T + 4)) (.int (Builtin.bitXor (msk) (((((n).fdiv (384))).fmod (64))))) 1]
theorem PF2_r (w : World) (s₀ : Shared) (b1 b2 : Bool) (A : LA) (z : Addr) (k6 : Result → Sem Fin) (sz : Int) (ns ks cs : Array Value) (j : Nat) (x : PX) (n msk : Int) (h : Str) (th : Tok)  (p : Pos) (τ : Nat → Nat → Tok) (ν : Nat → Nat) (N T G : Nat) :
  EndsQ w.params (run ((K5 w s₀ b1 b2).V [] N T G (PF2_sp w s₀ b1 b2 A z k6 sz ns ks cs j x n msk h th τ ν N T G)) 26 (((rS1 w.params A z).k (.ok (.ret (.str h th))) : Sem Fin)) (cF1 w.params A z) p (fsF1 w.params A k6 z) (memOf w.params τ ν 0 ((enD (z + 3) (z + 2) .none (j + 1) (intD (some n)) ++ p1C A z sz (x.e1 (j : Int) n msk) ns ks cs (j + 1)))) 0 0 [] 0 PF2_h []) [0, 1, 2, 3, 4, 5, 6, 7, 8, 9, 10]
    (denF (cLS (rMask msk n) (T + 5))) (cLS (rMask msk n) (T + 5)) ((oS2 w.params A z).fs ++ fsF1 w.params A k6 z) ((enD (z + 3) (z + 2) .none (j + 1) (intD (some n)) ++ p1C A z sz (x.e2 (j : Int) n msk h) ns ks cs (j + 1))) [] := by
  cases b1 <;> cases x <;> (unfold EndsQ; kernel_rfl)
theorem PF2 (w : World) (s₀ : Shared) (b1 b2 : Bool) (Y : Sys (K5 w s₀ b1 b2)) (A : LA) (z : Addr) (k6 : Result → Sem Fin) (sz : Int) (ns ks cs : Array Value) (j : Nat) (x : PX) (n msk : Int) (h : Str) (th : Tok)   {L : DM} {s : Shared} {p : Pos} (S : StD (K5 w s₀ b1 b2) ((enD (z + 3) (z + 2) .none (j + 1) (intD (some n)) ++ p1C A z sz (x.e1 (j : Int) n msk) ns ks cs (j + 1)) ++ L) [] s)
    (next : ∀ (τ : Nat → Nat → Tok) (N T G : Nat) (s' : Shared) (p' : Pos), (K5 w s₀ b1 b2).B ≤ N → N ≤ s'.heap.objs.size → StD (K5 w s₀ b1 b2) ((enD (z + 3) (z + 2) .none (j + 1) (intD (some n)) ++ p1C A z sz (x.e2 (j : Int) n msk h) ns ks cs (j + 1)) ++ L) [] s' → Y.H s' ⟨denF (cLS (rMask msk n) (T + 5)), cLS (rMask msk n) (T + 5), p', (oS2 w.params A z).fs ++ fsF1 w.params A k6 z⟩) : Y.H s ⟨((rS1 w.params A z).k (.ok (.ret (.str h th))) : Sem Fin), cF1 w.params A z, p, fsF1 w.params A k6 z⟩ :=
  Y.seg (t' := fun τ N T G => denF (cLS (rMask msk n) (T + 5))) (c' := fun N T G => cLS (rMask msk n) (T + 5)) (fs' := fun N T G => (oS2 w.params A z).fs ++ fsF1 w.params A k6 z) (d' := fun N T G => (enD (z + 3) (z + 2) .none (j + 1) (intD (some n)) ++ p1C A z sz (x.e2 (j : Int) n msk h) ns ks cs (j + 1))) (gm' := fun N T G => []) S (by decide) (PF2_sp w s₀ b1 b2 A z k6 sz ns ks cs j x n msk h th) (PF2_r w s₀ b1 b2 A z k6 sz ns ks cs j x n msk h th  p) (fun τ ν N T G => .cons (okv (sok_div _ _ _ _ (by decide) (div_small _ _ (by decide)))) (.cons (okv (sok_mod _ _ _ _ (by decide))) (.cons (okv (sok_xor _ _ _ _ )) (AllOk.nil)))) next

noncomputable def oS3 (P : Params) (A : LA) (z : Nat) : Out := run (V0 P (0)) 28 ((rS2 P A z).k (.ok (.ret (.str ⟨⟨[97]⟩⟩ 5)))) (cF1 P A z) default ([]) (memOf P (fun _ _ => 0) (fun _ => 0) 0 ([(A.L0, .dict c_frame [([115, 99, 114, 105, 112, 116], .ref 264), ([110, 117, 109, 98, 101, 114, 115], .ref A.nb), ([115, 105, 122, 101], .int 15), ([112, 108, 97, 99, 101], .int 0), ([110], .int 77), ([109, 97, 115, 107], .int 15), ([104, 101, 97, 100, 115], .str ⟨⟨[97, 98, 55, 32]⟩⟩)]), ((z + 3), .fields c_enum [.none, .bool false, .ref (z + 2), .raw (.int 1 0), .none, .int 77])])) 0 0 [] 0 [.o 0, .o 0, .b, .o 0, .b] []

noncomputable def rS3 (P : Params) (A : LA) (z : Nat) : RF := rfOf (oS3 P A z).fs
theorem fs_S3 (P : Params) (A : LA) (k6 : Result → Sem Fin) (z : Nat) : (oS3 P A z).fs ++ fsF1 P A k6 z = fsS P A k6 z (rS3 P A z) := by kernel_rfl

noncomputable def PF3_h : List Hint := [.o 1, .o 1, .b, .o 1, .s 0 0, .s 1 0, .b]
noncomputable def PF3_sp (w : World) (s₀ : Shared) (b1 b2 : Bool) (A : LA) (z : Addr) (k6 : Result → Sem Fin) (sz : Int) (ns ks cs : Array Value) (j : Nat) (x : PX) (n msk : Int) (h rx : Str) (tr : Tok) (τ : Nat → Nat → Tok) (ν : Nat → Nat) (N T G : Nat) : List Spec := [spV (II "int.__floordiv__" (n) (τ 1 9) (24576) (T + 1)) (.int ((n).fdiv (24576))) 1,
  spV (II "int.__mod__" (((n).fdiv (24576))) (T + 2) (64) (T + 3)) (.int ((((n).fdiv (24576))).fmod (64))) 1]
theorem PF3_r (w : World) (s₀ : Shared) (b1 b2 : Bool) (A : LA) (z : Addr) (k6 : Result → Sem Fin) (sz : Int) (ns ks cs : Array Value) (j : Nat) (x : PX) (n msk : Int) (h rx : Str) (tr : Tok)  (p : Pos) (τ : Nat → Nat → Tok) (ν : Nat → Nat) (N T G : Nat) :
  EndsQ w.params (run ((K5 w s₀ b1 b2).V [] N T G (PF3_sp w s₀ b1 b2 A z k6 sz ns ks cs j x n msk h rx tr τ ν N T G)) 22 (((rS2 w.params A z).k (.ok (.ret (.str rx tr))) : Sem Fin)) (cF1 w.params A z) p (fsF1 w.params A k6 z) (memOf w.params τ ν 0 ((enD (z + 3) (z + 2) .none (j + 1) (intD (some n)) ++ p1C A z sz (x.e2 (j : Int) n msk h) ns ks cs (j + 1)))) 0 0 [] 0 PF3_h []) [0, 1, 2, 3, 4, 5, 6, 7, 8, 9, 10]
    (denF (cLS (tMask n) (T + 4))) (cLS (tMask n) (T + 4)) ((oS3 w.params A z).fs ++ fsF1 w.params A k6 z) ((enD (z + 3) (z + 2) .none (j + 1) (intD (some n)) ++ p1C A z sz (x.e3 (j : Int) n msk h (.s rx tr)) ns ks cs (j + 1))) [] := by
  cases b1 <;> cases x <;> (unfold EndsQ; kernel_rfl)
theorem PF3 (w : World) (s₀ : Shared) (b1 b2 : Bool) (Y : Sys (K5 w s₀ b1 b2)) (A : LA) (z : Addr) (k6 : Result → Sem Fin) (sz : Int) (ns ks cs : Array Value) (j : Nat) (x : PX) (n msk : Int) (h rx : Str) (tr : Tok)   {L : DM} {s : Shared} {p : Pos} (S : StD (K5 w s₀ b1 b2) ((enD (z + 3) (z + 2) .none (j + 1) (intD (some n)) ++ p1C A z sz (x.e2 (j : Int) n msk h) ns ks cs (j + 1)) ++ L) [] s)
    (next : ∀ (τ : Nat → Nat → Tok) (N T G : Nat) (s' : Shared) (p' : Pos), (K5 w s₀ b1 b2).B ≤ N → N ≤ s'.heap.objs.size → StD (K5 w s₀ b1 b2) ((enD (z + 3) (z + 2) .none (j + 1) (intD (some n)) ++ p1C A z sz (x.e3 (j : Int) n msk h (.s rx tr)) ns ks cs (j + 1)) ++ L) [] s' → Y.H s' ⟨denF (cLS (tMask n) (T + 4)), cLS (tMask n) (T + 4), p', (oS3 w.params A z).fs ++ fsF1 w.params A k6 z⟩) : Y.H s ⟨((rS2 w.params A z).k (.ok (.ret (.str rx tr))) : Sem Fin), cF1 w.params A z, p, fsF1 w.params A k6 z⟩ :=
  Y.seg (t' := fun τ N T G => denF (cLS (tMask n) (T + 4))) (c' := fun N T G => cLS (tMask n) (T + 4)) (fs' := fun N T G => (oS3 w.params A z).fs ++ fsF1 w.params A k6 z) (d' := fun N T G => (enD (z + 3) (z + 2) .none (j + 1) (intD (some n)) ++ p1C A z sz (x.e3 (j : Int) n msk h (.s rx tr)) ns ks cs (j + 1))) (gm' := fun N T G => []) S (by decide) (PF3_sp w s₀ b1 b2 A z k6 sz ns ks cs j x n msk h rx tr) (PF3_r w s₀ b1 b2 A z k6 sz ns ks cs j x n msk h rx tr  p) (fun τ ν N T G => .cons (okv (sok_div _ _ _ _ (by decide) (div_small _ _ (by decide)))) (.cons (okv (sok_mod _ _ _ _ (by decide))) (AllOk.nil))) next

noncomputable def PF4e_h : List Hint := [.o 1, .o 1, .o 1, .s 0 0, .s 1 0, .o 4, .o 8, .o 8, .o 8, .o 8, .b, .b, .o 1, .s 999 0, .s 999 0, .s 999 0, .s 2 0, .s 999 0, .s 3 0, .o 1, .o 1, .o 1, .o 1, .s 4 0, .s 5 0, .s 6 0]
noncomputable def PF4e_sp (w : World) (s₀ : Shared) (b1 b2 : Bool) (A : LA) (z : Addr) (k6 : Result → Sem Fin) (sz : Int) (ns ks cs : Array Value) (j : Nat) (x : PX) (n msk : Int) (h rx tx : Str) (tr tt : Tok) (dv : Bool) (τ : Nat → Nat → Tok) (ν : Nat → Nat) (N T G : Nat) : List Spec := [spV (II "int.__mod__" (n) (τ 1 9) (2) (T + 1)) (.int ((n).fmod (2))) 1,
  spV (callB "int.__bool__" [.int (((n).fmod (2))) (T + 2)]) (.bool false) 0,
  spV (callB "int.__repr__" [.int ((((j : Nat) : Int))) (τ 1 7)]) (.str ⟨⟨[48 + j]⟩⟩) 1,
  spV (SS "str.__add__" ((⟨⟨[75]⟩⟩) : Str) (T + 3) (⟨⟨[48 + j]⟩⟩) (T + 4)) (.str (((⟨⟨[75]⟩⟩) : Str) ++ (⟨⟨[48 + j]⟩⟩))) 1,
  spV (II "int.__mod__" (n) (τ 1 9) (6) (T + 6)) (.int ((n).fmod (6))) 1,
  spV (II "int.__gt__" (((n).fmod (6))) (T + 7) (3) (T + 8)) (.bool dv) 0,
  spPush A.kl 9 ks (ν 8) (.ref (N + 0))]
theorem PF4e_r (w : World) (s₀ : Shared) (b1 b2 : Bool) (A : LA) (z : Addr) (k6 : Result → Sem Fin) (sz : Int) (ns ks cs : Array Value) (j : Nat) (x : PX) (n msk : Int) (h rx tx : Str) (tr tt : Tok) (dv : Bool)  (p : Pos) (τ : Nat → Nat → Tok) (ν : Nat → Nat) (N T G : Nat) :
  EndsQ w.params (run ((K5 w s₀ b1 b2).V [] N T G (PF4e_sp w s₀ b1 b2 A z k6 sz ns ks cs j x n msk h rx tx tr tt dv τ ν N T G)) 71 (((rS3 w.params A z).k (.ok (.ret (.str tx tt))) : Sem Fin)) (cF1 w.params A z) p (fsF1 w.params A k6 z) (memOf w.params τ ν 0 ((enD (z + 3) (z + 2) .none (j + 1) (intD (some n)) ++ p1C A z sz (x.e3 (j : Int) n msk h (.s rx tr)) ns ks cs (j + 1)))) 0 0 [] 0 PF4e_h []) [1, 2, 3, 4, 5, 6, 7, 8, 9, 10, 11, 0]
    (denF (cF1 w.params A z)) (cF1 w.params A z) (fsF1 w.params A k6 z) ((enD (z + 3) (z + 2) .none (j + 1) (intD (some n)) ++ p1C A z sz (pE4 (j : Int) n msk h (.s rx tr) (.s tx tt)) ns (ks.push (.ref (N + 0))) cs (j + 1)) ++ kD (N + 0) (kName j) h (.s rx tr) (.s tx tt) dv) [] := by
  cases b1 <;> cases x <;> (unfold EndsQ; kernel_rfl)
theorem PF4e (w : World) (s₀ : Shared) (b1 b2 : Bool) (Y : Sys (K5 w s₀ b1 b2)) (A : LA) (z : Addr) (k6 : Result → Sem Fin) (sz : Int) (ns ks cs : Array Value) (j : Nat) (x : PX) (n msk : Int) (h rx tx : Str) (tr tt : Tok) (dv : Bool)  (h0 : ((((n).fmod (2))) != 0) = false) (h1 : j < 4) (h2 : (((⟨⟨[75]⟩⟩) : Str) ++ (⟨⟨[48 + j]⟩⟩)).length ≤ sizeLine) (h3 : decide ((((n).fmod (6))) > (3)) = dv) (h4 : ks.size ≤ sizeLine) {L : DM} {s : Shared} {p : Pos} (S : StD (K5 w s₀ b1 b2) ((enD (z + 3) (z + 2) .none (j + 1) (intD (some n)) ++ p1C A z sz (x.e3 (j : Int) n msk h (.s rx tr)) ns ks cs (j + 1)) ++ L) [] s)
    (next : ∀ (τ : Nat → Nat → Tok) (N T G : Nat) (s' : Shared) (p' : Pos), (K5 w s₀ b1 b2).B ≤ N → N ≤ s'.heap.objs.size → StD (K5 w s₀ b1 b2) ((enD (z + 3) (z + 2) .none (j + 1) (intD (some n)) ++ p1C A z sz (pE4 (j : Int) n msk h (.s rx tr) (.s tx tt)) ns (ks.push (.ref (N + 0))) cs (j + 1)) ++ kD (N + 0) (kName j) h (.s rx tr) (.s tx tt) dv ++ L) [] s' → Y.H s' ⟨denF (cF1 w.params A z), cF1 w.params A z, p', fsF1 w.params A k6 z⟩) : Y.H s ⟨((rS3 w.params A z).k (.ok (.ret (.str tx tt))) : Sem Fin), cF1 w.params A z, p, fsF1 w.params A k6 z⟩ :=
  Y.seg (t' := fun τ N T G => denF (cF1 w.params A z)) (c' := fun N T G => cF1 w.params A z) (fs' := fun N T G => fsF1 w.params A k6 z) (d' := fun N T G => (enD (z + 3) (z + 2) .none (j + 1) (intD (some n)) ++ p1C A z sz (pE4 (j : Int) n msk h (.s rx tr) (.s tx tt)) ns (ks.push (.ref (N + 0))) cs (j + 1)) ++ kD (N + 0) (kName j) h (.s rx tr) (.s tx tt) dv) (gm' := fun N T G => []) S (by decide) (PF4e_sp w s₀ b1 b2 A z k6 sz ns ks cs j x n msk h rx tx tr tt dv) (PF4e_r w s₀ b1 b2 A z k6 sz ns ks cs j x n msk h rx tx tr tt dv  p) (fun τ ν N T G => .cons (okv (sok_mod _ _ _ _ (by decide))) (.cons (okv (h0 ▸ sok_ibool _ _)) (.cons (okv (sok_repr _ _ h1)) (.cons (okv (sok_sadd _ _ _ _ rfl rfl h2)) (.cons (okv (sok_mod _ _ _ _ (by decide))) (.cons (okv (h3 ▸ sok_gt _ _ _ _)) (.cons (ok1 rfl rfl rfl (sok_push _ _ _ _ _ h4)) (AllOk.nil)))))))) next

theorem one_lt (n : Nat) : n < n + 1 := Nat.lt_succ_self n

noncomputable def oS4 (P : Params) (A : LA) (z : Nat) : Out := run (V0 P (0)) 30 ((rS3 P A z).k (.ok (.ret (.str ⟨⟨[97]⟩⟩ 5)))) (cF1 P A z) default ([]) (memOf P (fun _ _ => 0) (fun _ => 0) 0 ([(A.L0, .dict c_frame [([115, 99, 114, 105, 112, 116], .ref 264), ([110, 117, 109, 98, 101, 114, 115], .ref A.nb), ([115, 105, 122, 101], .int 15), ([112, 108, 97, 99, 101], .int 0), ([110], .int 77), ([109, 97, 115, 107], .int 15), ([104, 101, 97, 100, 115], .str ⟨⟨[97, 98, 55, 32]⟩⟩), ([114, 117, 110], .raw (.str ⟨⟨[97]⟩⟩ 5))]), ((z + 3), .fields c_enum [.none, .bool false, .ref (z + 2), .raw (.int 1 0), .none, .int 77])])) 0 0 [] 0 [.o 0, .o 0, .o 0, .b, .b, .o 0] []

noncomputable def rS4 (P : Params) (A : LA) (z : Nat) : RF := rfOf (oS4 P A z).fs
theorem fs_S4 (P : Params) (A : LA) (k6 : Result → Sem Fin) (z : Nat) : (oS4 P A z).fs ++ fsF1 P A k6 z = fsS P A k6 z (rS4 P A z) := by kernel_rfl

noncomputable def PF4o_h : List Hint := [.o 1, .o 1, .o 1, .s 0 0, .s 1 0, .b, .b, .o 1]
noncomputable def PF4o_sp (w : World) (s₀ : Shared) (b1 b2 : Bool) (A : LA) (z : Addr) (k6 : Result → Sem Fin) (sz : Int) (ns ks cs : Array Value) (j : Nat) (x : PX) (n msk : Int) (h rx tx : Str) (tr tt : Tok) (τ : Nat → Nat → Tok) (ν : Nat → Nat) (N T G : Nat) : List Spec := [spV (II "int.__mod__" (n) (τ 1 9) (2) (T + 1)) (.int ((n).fmod (2))) 1,
  spV (callB "int.__bool__" [.int (((n).fmod (2))) (T + 2)]) (.bool true) 0]
theorem PF4o_r (w : World) (s₀ : Shared) (b1 b2 : Bool) (A : LA) (z : Addr) (k6 : Result → Sem Fin) (sz : Int) (ns ks cs : Array Value) (j : Nat) (x : PX) (n msk : Int) (h rx tx : Str) (tr tt : Tok)  (p : Pos) (τ : Nat → Nat → Tok) (ν : Nat → Nat) (N T G : Nat) :
  EndsQ w.params (run ((K5 w s₀ b1 b2).V [] N T G (PF4o_sp w s₀ b1 b2 A z k6 sz ns ks cs j x n msk h rx tx tr tt τ ν N T G)) 25 (((rS3 w.params A z).k (.ok (.ret (.str tx tt))) : Sem Fin)) (cF1 w.params A z) p (fsF1 w.params A k6 z) (memOf w.params τ ν 0 ((enD (z + 3) (z + 2) .none (j + 1) (intD (some n)) ++ p1C A z sz (x.e3 (j : Int) n msk h (.s rx tr)) ns ks cs (j + 1)))) 0 0 [] 0 PF4o_h []) [0, 1, 2, 3, 4, 5, 6, 7, 8, 9, 10]
    (denF (cList rx tr)) (cList rx tr) ((oS4 w.params A z).fs ++ fsF1 w.params A k6 z) ((enD (z + 3) (z + 2) .none (j + 1) (intD (some n)) ++ p1C A z sz (pE4 (j : Int) n msk h (.s rx tr) (.s tx tt)) ns ks cs (j + 1))) [] := by
  cases b1 <;> cases x <;> (unfold EndsQ; kernel_rfl)
theorem PF4o (w : World) (s₀ : Shared) (b1 b2 : Bool) (Y : Sys (K5 w s₀ b1 b2)) (A : LA) (z : Addr) (k6 : Result → Sem Fin) (sz : Int) (ns ks cs : Array Value) (j : Nat) (x : PX) (n msk : Int) (h rx tx : Str) (tr tt : Tok)  (h0 : ((((n).fmod (2))) != 0) = true) {L : DM} {s : Shared} {p : Pos} (S : StD (K5 w s₀ b1 b2) ((enD (z + 3) (z + 2) .none (j + 1) (intD (some n)) ++ p1C A z sz (x.e3 (j : Int) n msk h (.s rx tr)) ns ks cs (j + 1)) ++ L) [] s)
    (next : ∀ (τ : Nat → Nat → Tok) (N T G : Nat) (s' : Shared) (p' : Pos), (K5 w s₀ b1 b2).B ≤ N → N ≤ s'.heap.objs.size → StD (K5 w s₀ b1 b2) ((enD (z + 3) (z + 2) .none (j + 1) (intD (some n)) ++ p1C A z sz (pE4 (j : Int) n msk h (.s rx tr) (.s tx tt)) ns ks cs (j + 1)) ++ L) [] s' → Y.H s' ⟨denF (cList rx tr), cList rx tr, p', (oS4 w.params A z).fs ++ fsF1 w.params A k6 z⟩) : Y.H s ⟨((rS3 w.params A z).k (.ok (.ret (.str tx tt))) : Sem Fin), cF1 w.params A z, p, fsF1 w.params A k6 z⟩ :=
  Y.seg (t' := fun τ N T G => denF (cList rx tr)) (c' := fun N T G => cList rx tr) (fs' := fun N T G => (oS4 w.params A z).fs ++ fsF1 w.params A k6 z) (d' := fun N T G => (enD (z + 3) (z + 2) .none (j + 1) (intD (some n)) ++ p1C A z sz (pE4 (j : Int) n msk h (.s rx tr) (.s tx tt)) ns ks cs (j + 1))) (gm' := fun N T G => []) S (by decide) (PF4o_sp w s₀ b1 b2 A z k6 sz ns ks cs j x n msk h rx tx tr tt) (PF4o_r w s₀ b1 b2 A z k6 sz ns ks cs j x n msk h rx tx tr tt  p) (fun τ ν N T G => .cons (okv (sok_mod _ _ _ _ (by decide))) (.cons (okv (h0 ▸ sok_ibool _ _)) (AllOk.nil))) next

noncomputable def LL_0_h : List Hint := [.o 0, .o 0, .o 0, .o 0, .o 0, .o 0, .o 0, .s 0 0, .o 0, .o 0, .o 0, .o 0, .o 0, .o 0, .o 0, .o 0]
noncomputable def LL_0_sp (w : World) (s₀ : Shared) (b1 b2 : Bool) (A : LA) (z : Addr) (k6 : Result → Sem Fin) (x : RF) (tx : Tok) (τ : Nat → Nat → Tok) (ν : Nat → Nat) (N T G : Nat) : List Spec := [spSIter ((⟨⟨[]⟩⟩ : Str)) tx]
theorem LL_0_r (w : World) (s₀ : Shared) (b1 b2 : Bool) (A : LA) (z : Addr) (k6 : Result → Sem Fin) (x : RF) (tx : Tok)  (p : Pos) (τ : Nat → Nat → Tok) (ν : Nat → Nat) (N T G : Nat) :
  EndsQ w.params (run ((K5 w s₀ b1 b2).V [] N T G (LL_0_sp w s₀ b1 b2 A z k6 x  tx τ ν N T G)) 36 (denF (cList (⟨⟨[]⟩⟩ : Str) tx)) (cList (⟨⟨[]⟩⟩ : Str) tx) p (fsS w.params A k6 z x) (memOf w.params τ ν 0 (([] : DM))) 0 0 [] 0 LL_0_h []) [3]
    ((x.k (.ok (.ret (.ref (N + 0)))) : Sem Fin)) (cF1 w.params A z) (fsF1 w.params A k6 z) (([((N + 0), .arr c_list (#[] : Array Value))] : DM)) [] := by
  cases b1 <;> (unfold EndsQ; kernel_rfl)
theorem LL_0 (w : World) (s₀ : Shared) (b1 b2 : Bool) (Y : Sys (K5 w s₀ b1 b2)) (A : LA) (z : Addr) (k6 : Result → Sem Fin) (x : RF) (tx : Tok)  (h0 : ((⟨⟨[]⟩⟩ : Str)).cps.all (· < 128) = true) {L : DM} {s : Shared} {p : Pos} (S : StD (K5 w s₀ b1 b2) (([] : DM) ++ L) [] s)
    (next : ∀ (τ : Nat → Nat → Tok) (N T G : Nat) (s' : Shared) (p' : Pos), (K5 w s₀ b1 b2).B ≤ N → N ≤ s'.heap.objs.size → StD (K5 w s₀ b1 b2) (([((N + 0), .arr c_list (#[] : Array Value))] : DM) ++ L) [] s' → Y.H s' ⟨(x.k (.ok (.ret (.ref (N + 0)))) : Sem Fin), cF1 w.params A z, p', fsF1 w.params A k6 z⟩) : Y.H s ⟨denF (cList (⟨⟨[]⟩⟩ : Str) tx), cList (⟨⟨[]⟩⟩ : Str) tx, p, fsS w.params A k6 z x⟩ :=
  Y.seg (t' := fun τ N T G => (x.k (.ok (.ret (.ref (N + 0)))) : Sem Fin)) (c' := fun N T G => cF1 w.params A z) (fs' := fun N T G => fsF1 w.params A k6 z) (d' := fun N T G => ([((N + 0), .arr c_list (#[] : Array Value))] : DM)) (gm' := fun N T G => []) S (by decide) (LL_0_sp w s₀ b1 b2 A z k6 x  tx) (LL_0_r w s₀ b1 b2 A z k6 x  tx  p) (fun τ ν N T G => .cons (ok_siter _ _ h0) (AllOk.nil)) next

noncomputable def LL_1_h : List Hint := [.o 0, .o 0, .o 0, .o 0, .o 0, .o 0, .o 0, .s 0 0, .o 0, .o 0, .o 0, .o 0, .o 0, .o 0, .o 0, .o 1, .o 1, .o 1, .o 0, .o 0, .o 0, .o 0, .o 0, .o 0, .o 0]
noncomputable def LL_1_sp (w : World) (s₀ : Shared) (b1 b2 : Bool) (A : LA) (z : Addr) (k6 : Result → Sem Fin) (x : RF) (c0 : Nat) (tx : Tok) (τ : Nat → Nat → Tok) (ν : Nat → Nat) (N T G : Nat) : List Spec := [spSIter ((⟨⟨[c0]⟩⟩ : Str)) tx]
theorem LL_1_r (w : World) (s₀ : Shared) (b1 b2 : Bool) (A : LA) (z : Addr) (k6 : Result → Sem Fin) (x : RF) (c0 : Nat) (tx : Tok)  (p : Pos) (τ : Nat → Nat → Tok) (ν : Nat → Nat) (N T G : Nat) :
  EndsQ w.params (run ((K5 w s₀ b1 b2).V [] N T G (LL_1_sp w s₀ b1 b2 A z k6 x c0 tx τ ν N T G)) 50 (denF (cList (⟨⟨[c0]⟩⟩ : Str) tx)) (cList (⟨⟨[c0]⟩⟩ : Str) tx) p (fsS w.params A k6 z x) (memOf w.params τ ν 0 (([] : DM))) 0 0 [] 0 LL_1_h []) [3]
    ((x.k (.ok (.ret (.ref (N + 0)))) : Sem Fin)) (cF1 w.params A z) (fsF1 w.params A k6 z) (([((N + 0), .arr c_list (#[.str (⟨⟨[c0]⟩⟩) (T + 0)] : Array Value))] : DM)) [] := by
  cases b1 <;> (unfold EndsQ; kernel_rfl)
theorem LL_1 (w : World) (s₀ : Shared) (b1 b2 : Bool) (Y : Sys (K5 w s₀ b1 b2)) (A : LA) (z : Addr) (k6 : Result → Sem Fin) (x : RF) (c0 : Nat) (tx : Tok)  (h0 : ((⟨⟨[c0]⟩⟩ : Str)).cps.all (· < 128) = true) {L : DM} {s : Shared} {p : Pos} (S : StD (K5 w s₀ b1 b2) (([] : DM) ++ L) [] s)
    (next : ∀ (τ : Nat → Nat → Tok) (N T G : Nat) (s' : Shared) (p' : Pos), (K5 w s₀ b1 b2).B ≤ N → N ≤ s'.heap.objs.size → StD (K5 w s₀ b1 b2) (([((N + 0), .arr c_list (#[.str (⟨⟨[c0]⟩⟩) (T + 0)] : Array Value))] : DM) ++ L) [] s' → Y.H s' ⟨(x.k (.ok (.ret (.ref (N + 0)))) : Sem Fin), cF1 w.params A z, p', fsF1 w.params A k6 z⟩) : Y.H s ⟨denF (cList (⟨⟨[c0]⟩⟩ : Str) tx), cList (⟨⟨[c0]⟩⟩ : Str) tx, p, fsS w.params A k6 z x⟩ :=
  Y.seg (t' := fun τ N T G => (x.k (.ok (.ret (.ref (N + 0)))) : Sem Fin)) (c' := fun N T G => cF1 w.params A z) (fs' := fun N T G => fsF1 w.params A k6 z) (d' := fun N T G => ([((N + 0), .arr c_list (#[.str (⟨⟨[c0]⟩⟩) (T + 0)] : Array Value))] : DM)) (gm' := fun N T G => []) S (by decide) (LL_1_sp w s₀ b1 b2 A z k6 x c0 tx) (LL_1_r w s₀ b1 b2 A z k6 x c0 tx  p) (fun τ ν N T G => .cons (ok_siter _ _ h0) (AllOk.nil)) next

noncomputable def LL_2_h : List Hint := [.o 0, .o 0, .o 0, .o 0, .o 0, .o 0, .o 0, .s 0 0, .o 0, .o 0, .o 0, .o 0, .o 0, .o 0, .o 0, .o 1, .o 1, .o 1, .o 0, .o 0, .o 0, .o 0, .o 0, .o 0, .o 1, .o 1, .o 1, .o 0, .o 0, .o 0, .o 0, .o 0, .o 0, .o 0]
noncomputable def LL_2_sp (w : World) (s₀ : Shared) (b1 b2 : Bool) (A : LA) (z : Addr) (k6 : Result → Sem Fin) (x : RF) (c0 c1 : Nat) (tx : Tok) (τ : Nat → Nat → Tok) (ν : Nat → Nat) (N T G : Nat) : List Spec := [spSIter ((⟨⟨[c0, c1]⟩⟩ : Str)) tx]
theorem LL_2_r (w : World) (s₀ : Shared) (b1 b2 : Bool) (A : LA) (z : Addr) (k6 : Result → Sem Fin) (x : RF) (c0 c1 : Nat) (tx : Tok)  (p : Pos) (τ : Nat → Nat → Tok) (ν : Nat → Nat) (N T G : Nat) :
  EndsQ w.params (run ((K5 w s₀ b1 b2).V [] N T G (LL_2_sp w s₀ b1 b2 A z k6 x c0 c1 tx τ ν N T G)) 64 (denF (cList (⟨⟨[c0, c1]⟩⟩ : Str) tx)) (cList (⟨⟨[c0, c1]⟩⟩ : Str) tx) p (fsS w.params A k6 z x) (memOf w.params τ ν 0 (([] : DM))) 0 0 [] 0 LL_2_h []) [3]
    ((x.k (.ok (.ret (.ref (N + 0)))) : Sem Fin)) (cF1 w.params A z) (fsF1 w.params A k6 z) (([((N + 0), .arr c_list (#[.str (⟨⟨[c0]⟩⟩) (T + 0), .str (⟨⟨[c1]⟩⟩) (T + 1)] : Array Value))] : DM)) [] := by
  cases b1 <;> (unfold EndsQ; kernel_rfl)
theorem LL_2 (w : World) (s₀ : Shared) (b1 b2 : Bool) (Y : Sys (K5 w s₀ b1 b2)) (A : LA) (z : Addr) (k6 : Result → Sem Fin) (x : RF) (c0 c1 : Nat) (tx : Tok)  (h0 : ((⟨⟨[c0, c1]⟩⟩ : Str)).cps.all (· < 128) = true) {L : DM} {s : Shared} {p : Pos} (S : StD (K5 w s₀ b1 b2) (([] : DM) ++ L) [] s)
    (next : ∀ (τ : Nat → Nat → Tok) (N T G : Nat) (s' : Shared) (p' : Pos), (K5 w s₀ b1 b2).B ≤ N → N ≤ s'.heap.objs.size → StD (K5 w s₀ b1 b2) (([((N + 0), .arr c_list (#[.str (⟨⟨[c0]⟩⟩) (T + 0), .str (⟨⟨[c1]⟩⟩) (T + 1)] : Array Value))] : DM) ++ L) [] s' → Y.H s' ⟨(x.k (.ok (.ret (.ref (N + 0)))) : Sem Fin), cF1 w.params A z, p', fsF1 w.params A k6 z⟩) : Y.H s ⟨denF (cList (⟨⟨[c0, c1]⟩⟩ : Str) tx), cList (⟨⟨[c0, c1]⟩⟩ : Str) tx, p, fsS w.params A k6 z x⟩ :=
  Y.seg (t' := fun τ N T G => (x.k (.ok (.ret (.ref (N + 0)))) : Sem Fin)) (c' := fun N T G => cF1 w.params A z) (fs' := fun N T G => fsF1 w.params A k6 z) (d' := fun N T G => ([((N + 0), .arr c_list (#[.str (⟨⟨[c0]⟩⟩) (T + 0), .str (⟨⟨[c1]⟩⟩) (T + 1)] : Array Value))] : DM)) (gm' := fun N T G => []) S (by decide) (LL_2_sp w s₀ b1 b2 A z k6 x c0 c1 tx) (LL_2_r w s₀ b1 b2 A z k6 x c0 c1 tx  p) (fun τ ν N T G => .cons (ok_siter _ _ h0) (AllOk.nil)) next

noncomputable def LL_3_h : List Hint := [.o 0, .o 0, .o 0, .o 0, .o 0, .o 0, .o 0, .s 0 0, .o 0, .o 0, .o 0, .o 0, .o 0, .o 0, .o 0, .o 1, .o 1, .o 1, .o 0, .o 0, .o 0, .o 0, .o 0, .o 0, .o 1, .o 1, .o 1, .o 0, .o 0, .o 0, .o 0, .o 0, .o 0, .o 1, .o 1, .o 1, .o 0, .o 0, .o 0, .o 0, .o 0, .o 0, .o 0]
noncomputable def LL_3_sp (w : World) (s₀ : Shared) (b1 b2 : Bool) (A : LA) (z : Addr) (k6 : Result → Sem Fin) (x : RF) (c0 c1 c2 : Nat) (tx : Tok) (τ : Nat → Nat → Tok) (ν : Nat → Nat) (N T G : Nat) : List Spec := [spSIter ((⟨⟨[c0, c1, c2]⟩⟩ : Str)) tx]
theorem LL_3_r (w : World) (s₀ : Shared) (b1 b2 : Bool) (A : LA) (z : Addr) (k6 : Result → Sem Fin) (x : RF) (c0 c1 c2 : Nat) (tx : Tok)  (p : Pos) (τ : Nat → Nat → Tok) (ν : Nat → Nat) (N T G : Nat) :
  EndsQ w.params (run ((K5 w s₀ b1 b2).V [] N T G (LL_3_sp w s₀ b1 b2 A z k6 x c0 c1 c2 tx τ ν N T G)) 78 (denF (cList (⟨⟨[c0, c1, c2]⟩⟩ : Str) tx)) (cList (⟨⟨[c0, c1, c2]⟩⟩ : Str) tx) p (fsS w.params A k6 z x) (memOf w.params τ ν 0 (([] : DM))) 0 0 [] 0 LL_3_h []) [3]
    ((x.k (.ok (.ret (.ref (N + 0)))) : Sem Fin)) (cF1 w.params A z) (fsF1 w.params A k6 z) (([((N + 0), .arr c_list (#[.str (⟨⟨[c0]⟩⟩) (T + 0), .str (⟨⟨[c1]⟩⟩) (T + 1), .str (⟨⟨[c2]⟩⟩) (T + 2)] : Array Value))] : DM)) [] := by
  cases b1 <;> (unfold EndsQ; kernel_rfl)
theorem LL_3 (w : World) (s₀ : Shared) (b1 b2 : Bool) (Y : Sys (K5 w s₀ b1 b2)) (A : LA) (z : Addr) (k6 : Result → Sem Fin) (x : RF) (c0 c1 c2 : Nat) (tx : Tok)  (h0 : ((⟨⟨[c0, c1, c2]⟩⟩ : Str)).cps.all (· < 128) = true) {L : DM} {s : Shared} {p : Pos} (S : StD (K5 w s₀ b1 b2) (([] : DM) ++ L) [] s)
    (next : ∀ (τ : Nat → Nat → Tok) (N T G : Nat) (s' : Shared) (p' : Pos), (K5 w s₀ b1 b2).B ≤ N → N ≤ s'.heap.objs.size → StD (K5 w s₀ b1 b2) (([((N + 0), .arr c_list (#[.str (⟨⟨[c0]⟩⟩) (T + 0), .str (⟨⟨[c1]⟩⟩) (T + 1), .str (⟨⟨[c2]⟩⟩) (T + 2)] : Array Value))] : DM) ++ L) [] s' → Y.H s' ⟨(x.k (.ok (.ret (.ref (N + 0)))) : Sem Fin), cF1 w.params A z, p', fsF1 w.params A k6 z⟩) : Y.H s ⟨denF (cList (⟨⟨[c0, c1, c2]⟩⟩ : Str) tx), cList (⟨⟨[c0, c1, c2]⟩⟩ : Str) tx, p, fsS w.params A k6 z x⟩ :=
  Y.seg (t' := fun τ N T G => (x.k (.ok (.ret (.ref (N + 0)))) : Sem Fin)) (c' := fun N T G => cF1 w.params A z) (fs' := fun N T G => fsF1 w.params A k6 z) (d' := fun N T G => ([((N + 0), .arr c_list (#[.str (⟨⟨[c0]⟩⟩) (T + 0), .str (⟨⟨[c1]⟩⟩) (T + 1), .str (⟨⟨[c2]⟩⟩) (T + 2)] : Array Value))] : DM)) (gm' := fun N T G => []) S (by decide) (LL_3_sp w s₀ b1 b2 A z k6 x c0 c1 c2 tx) (LL_3_r w s₀ b1 b2 A z k6 x c0 c1 c2 tx  p) (fun τ ν N T G => .cons (ok_siter _ _ h0) (AllOk.nil)) next

noncomputable def LL_4_h : List Hint := [.o 0, .o 0, .o 0, .o 0, .o 0, .o 0, .o 0, .s 0 0, .o 0, .o 0, .o 0, .o 0, .o 0, .o 0, .o 0, .o 1, .o 1, .o 1, .o 0, .o 0, .o 0, .o 0, .o 0, .o 0, .o 1, .o 1, .o 1, .o 0, .o 0, .o 0, .o 0, .o 0, .o 0, .o 1, .o 1, .o 1, .o 0, .o 0, .o 0, .o 0, .o 0, .o 0, .o 1, .o 1, .o 1, .o 0, .o 0, .o 0, .o 0, .o 0, .o 0, .o 0]
noncomputable def LL_4_sp (w : World) (s₀ : Shared) (b1 b2 : Bool) (A : LA) (z : Addr) (k6 : Result → Sem Fin) (x : RF) (c0 c1 c2 c3 : Nat) (tx : Tok) (τ : Nat → Nat → Tok) (ν : Nat → Nat) (N T G : Nat) : List Spec := [spSIter ((⟨⟨[c0, c1, c2, c3]⟩⟩ : Str)) tx]
theorem LL_4_r (w : World) (s₀ : Shared) (b1 b2 : Bool) (A : LA) (z : Addr) (k6 : Result → Sem Fin) (x : RF) (c0 c1 c2 c3 : Nat) (tx : Tok)  (p : Pos) (τ : Nat → Nat → Tok) (ν : Nat → Nat) (N T G : Nat) :
  EndsQ w.params (run ((K5 w s₀ b1 b2).V [] N T G (LL_4_sp w s₀ b1 b2 A z k6 x c0 c1 c2 c3 tx τ ν N T G)) 92 (denF (cList (⟨⟨[c0, c1, c2, c3]⟩⟩ : Str) tx)) (cList (⟨⟨[c0, c1, c2, c3]⟩⟩ : Str) tx) p (fsS w.params A k6 z x) (memOf w.params τ ν 0 (([] : DM))) 0 0 [] 0 LL_4_h []) [3]
    ((x.k (.ok (.ret (.ref (N + 0)))) : Sem Fin)) (cF1 w.params A z) (fsF1 w.params A k6 z) (([((N + 0), .arr c_list (#[.str (⟨⟨[c0]⟩⟩) (T + 0), .str (⟨⟨[c1]⟩⟩) (T + 1), .str (⟨⟨[c2]⟩⟩) (T + 2), .str (⟨⟨[c3]⟩⟩) (T + 3)] : Array Value))] : DM)) [] := by
  cases b1 <;> (unfold EndsQ; kernel_rfl)
theorem LL_4 (w : World) (s₀ : Shared) (b1 b2 : Bool) (Y : Sys (K5 w s₀ b1 b2)) (A : LA) (z : Addr) (k6 : Result → Sem Fin) (x : RF) (c0 c1 c2 c3 : Nat) (tx : Tok)  (h0 : ((⟨⟨[c0, c1, c2, c3]⟩⟩ : Str)).cps.all (· < 128) = true) {L : DM} {s : Shared} {p : Pos} (S : StD (K5 w s₀ b1 b2) (([] : DM) ++ L) [] s)
    (next : ∀ (τ : Nat → Nat → Tok) (N T G : Nat) (s' : Shared) (p' : Pos), (K5 w s₀ b1 b2).B ≤ N → N ≤ s'.heap.objs.size → StD (K5 w s₀ b1 b2) (([((N + 0), .arr c_list (#[.str (⟨⟨[c0]⟩⟩) (T + 0), .str (⟨⟨[c1]⟩⟩) (T + 1), .str (⟨⟨[c2]⟩⟩) (T + 2), .str (⟨⟨[c3]⟩⟩) (T + 3)] : Array Value))] : DM) ++ L) [] s' → Y.H s' ⟨(x.k (.ok (.ret (.ref (N + 0)))) : Sem Fin), cF1 w.params A z, p', fsF1 w.params A k6 z⟩) : Y.H s ⟨denF (cList (⟨⟨[c0, c1, c2, c3]⟩⟩ : Str) tx), cList (⟨⟨[c0, c1, c2, c3]⟩⟩ : Str) tx, p, fsS w.params A k6 z x⟩ :=
  Y.seg (t' := fun τ N T G => (x.k (.ok (.ret (.ref (N + 0)))) : Sem Fin)) (c' := fun N T G => cF1 w.params A z) (fs' := fun N T G => fsF1 w.params A k6 z) (d' := fun N T G => ([((N + 0), .arr c_list (#[.str (⟨⟨[c0]⟩⟩) (T + 0), .str (⟨⟨[c1]⟩⟩) (T + 1), .str (⟨⟨[c2]⟩⟩) (T + 2), .str (⟨⟨[c3]⟩⟩) (T + 3)] : Array Value))] : DM)) (gm' := fun N T G => []) S (by decide) (LL_4_sp w s₀ b1 b2 A z k6 x c0 c1 c2 c3 tx) (LL_4_r w s₀ b1 b2 A z k6 x c0 c1 c2 c3 tx  p) (fun τ ν N T G => .cons (ok_siter _ _ h0) (AllOk.nil)) next

noncomputable def LL_5_h : List Hint := [.o 0, .o 0, .o 0, .o 0, .o 0, .o 0, .o 0, .s 0 0, .o 0, .o 0, .o 0, .o 0, .o 0, .o 0, .o 0, .o 1, .o 1, .o 1, .o 0, .o 0, .o 0, .o 0, .o 0, .o 0, .o 1, .o 1, .o 1, .o 0, .o 0, .o 0, .o 0, .o 0, .o 0, .o 1, .o 1, .o 1, .o 0, .o 0, .o 0, .o 0, .o 0, .o 0, .o 1, .o 1, .o 1, .o 0, .o 0, .o 0, .o 0, .o 0, .o 0, .o 1, .o 1, .o 1, .o 0, .o 0, .o 0, .o 0, .o 0, .o 0, .o 0]
noncomputable def LL_5_sp (w : World) (s₀ : Shared) (b1 b2 : Bool) (A : LA) (z : Addr) (k6 : Result → Sem Fin) (x : RF) (c0 c1 c2 c3 c4 : Nat) (tx : Tok) (τ : Nat → Nat → Tok) (ν : Nat → Nat) (N T G : Nat) : List Spec := [spSIter ((⟨⟨[c0, c1, c2, c3, c4]⟩⟩ : Str)) tx]
theorem LL_5_r (w : World) (s₀ : Shared) (b1 b2 : Bool) (A : LA) (z : Addr) (k6 : Result → Sem Fin) (x : RF) (c0 c1 c2 c3 c4 : Nat) (tx : Tok)  (p : Pos) (τ : Nat → Nat → Tok) (ν : Nat → Nat) (N T G : Nat) :
  EndsQ w.params (run ((K5 w s₀ b1 b2).V [] N T G (LL_5_sp w s₀ b1 b2 A z k6 x c0 c1 c2 c3 c4 tx τ ν N T G)) 106 (denF (cList (⟨⟨[c0, c1, c2, c3, c4]⟩⟩ : Str) tx)) (cList (⟨⟨[c0, c1, c2, c3, c4]⟩⟩ : Str) tx) p (fsS w.params A k6 z x) (memOf w.params τ ν 0 (([] : DM))) 0 0 [] 0 LL_5_h []) [3]
    ((x.k (.ok (.ret (.ref (N + 0)))) : Sem Fin)) (cF1 w.params A z) (fsF1 w.params A k6 z) (([((N + 0), .arr c_list (#[.str (⟨⟨[c0]⟩⟩) (T + 0), .str (⟨⟨[c1]⟩⟩) (T + 1), .str (⟨⟨[c2]⟩⟩) (T + 2), .str (⟨⟨[c3]⟩⟩) (T + 3), .str (⟨⟨[c4]⟩⟩) (T + 4)] : Array Value))] : DM)) [] := by
  cases b1 <;> (unfold EndsQ; kernel_rfl)
theorem LL_5 (w : World) (s₀ : Shared) (b1 b2 : Bool) (Y : Sys (K5 w s₀ b1 b2)) (A : LA) (z : Addr) (k6 : Result → Sem Fin) (x : RF) (c0 c1 c2 c3 c4 : Nat) (tx : Tok)  (h0 : ((⟨⟨[c0, c1, c2, c3, c4]⟩⟩ : Str)).cps.all (· < 128) = true) {L : DM} {s : Shared} {p : Pos} (S : StD (K5 w s₀ b1 b2) (([] : DM) ++ L) [] s)
    (next : ∀ (τ : Nat → Nat → Tok) (N T G : Nat) (s' : Shared) (p' : Pos), (K5 w s₀ b1 b2).B ≤ N → N ≤ s'.heap.objs.size → StD (K5 w s₀ b1 b2) (([((N + 0), .arr c_list (#[.str (⟨⟨[c0]⟩⟩) (T + 0), .str (⟨⟨[c1]⟩⟩) (T + 1), .str (⟨⟨[c2]⟩⟩) (T + 2), .str (⟨⟨[c3]⟩⟩) (T + 3), .str (⟨⟨[c4]⟩⟩) (T + 4)] : Array Value))] : DM) ++ L) [] s' → Y.H s' ⟨(x.k (.ok (.ret (.ref (N + 0)))) : Sem Fin), cF1 w.params A z, p', fsF1 w.params A k6 z⟩) : Y.H s ⟨denF (cList (⟨⟨[c0, c1, c2, c3, c4]⟩⟩ : Str) tx), cList (⟨⟨[c0, c1, c2, c3, c4]⟩⟩ : Str) tx, p, fsS w.params A k6 z x⟩ :=
  Y.seg (t' := fun τ N T G => (x.k (.ok (.ret (.ref (N + 0)))) : Sem Fin)) (c' := fun N T G => cF1 w.params A z) (fs' := fun N T G => fsF1 w.params A k6 z) (d' := fun N T G => ([((N + 0), .arr c_list (#[.str (⟨⟨[c0]⟩⟩) (T + 0), .str (⟨⟨[c1]⟩⟩) (T + 1), .str (⟨⟨[c2]⟩⟩) (T + 2), .str (⟨⟨[c3]⟩⟩) (T + 3), .str (⟨⟨[c4]⟩⟩) (T + 4)] : Array Value))] : DM)) (gm' := fun N T G => []) S (by decide) (LL_5_sp w s₀ b1 b2 A z k6 x c0 c1 c2 c3 c4 tx) (LL_5_r w s₀ b1 b2 A z k6 x c0 c1 c2 c3 c4 tx  p) (fun τ ν N T G => .cons (ok_siter _ _ h0) (AllOk.nil)) next

noncomputable def LL_6_h : List Hint := [.o 0, .o 0, .o 0, .o 0, .o 0, .o 0, .o 0, .s 0 0, .o 0, .o 0, .o 0, .o 0, .o 0, .o 0, .o 0, .o 1, .o 1, .o 1, .o 0, .o 0, .o 0, .o 0, .o 0, .o 0, .o 1, .o 1, .o 1, .o 0, .o 0, .o 0, .o 0, .o 0, .o 0, .o 1, .o 1, .o 1, .o 0, .o 0, .o 0, .o 0, .o 0, .o 0, .o 1, .o 1, .o 1, .o 0, .o 0, .o 0, .o 0, .o 0, .o 0, .o 1, .o 1, .o 1, .o 0, .o 0, .o 0, .o 0, .o 0, .o 0, .o 1, .o 1, .o 1, .o 0, .o 0, .o 0, .o 0, .o 0, .o 0, .o 0]
noncomputable def LL_6_sp (w : World) (s₀ : Shared) (b1 b2 : Bool) (A : LA) (z : Addr) (k6 : Result → Sem Fin) (x : RF) (c0 c1 c2 c3 c4 c5 : Nat) (tx : Tok) (τ : Nat → Nat → Tok) (ν : Nat → Nat) (N T G : Nat) : List Spec := [spSIter ((⟨⟨[c0, c1, c2, c3, c4, c5]⟩⟩ : Str)) tx]
theorem LL_6_r (w : World) (s₀ : Shared) (b1 b2 : Bool) (A : LA) (z : Addr) (k6 : Result → Sem Fin) (x : RF) (c0 c1 c2 c3 c4 c5 : Nat) (tx : Tok)  (p : Pos) (τ : Nat → Nat → Tok) (ν : Nat → Nat) (N T G : Nat) :
  EndsQ w.params (run ((K5 w s₀ b1 b2).V [] N T G (LL_6_sp w s₀ b1 b2 A z k6 x c0 c1 c2 c3 c4 c5 tx τ ν N T G)) 120 (denF (cList (⟨⟨[c0, c1, c2, c3, c4, c5]⟩⟩ : Str) tx)) (cList (⟨⟨[c0, c1, c2, c3, c4, c5]⟩⟩ : Str) tx) p (fsS w.params A k6 z x) (memOf w.params τ ν 0 (([] : DM))) 0 0 [] 0 LL_6_h []) [3]
    ((x.k (.ok (.ret (.ref (N + 0)))) : Sem Fin)) (cF1 w.params A z) (fsF1 w.params A k6 z) (([((N + 0), .arr c_list (#[.str (⟨⟨[c0]⟩⟩) (T + 0), .str (⟨⟨[c1]⟩⟩) (T + 1), .str (⟨⟨[c2]⟩⟩) (T + 2), .str (⟨⟨[c3]⟩⟩) (T + 3), .str (⟨⟨[c4]⟩⟩) (T + 4), .str (⟨⟨[c5]⟩⟩) (T + 5)] : Array Value))] : DM)) [] := by
  cases b1 <;> (unfold EndsQ; kernel_rfl)
theorem LL_6 (w : World) (s₀ : Shared) (b1 b2 : Bool) (Y : Sys (K5 w s₀ b1 b2)) (A : LA) (z : Addr) (k6 : Result → Sem Fin) (x : RF) (c0 c1 c2 c3 c4 c5 : Nat) (tx : Tok)  (h0 : ((⟨⟨[c0, c1, c2, c3, c4, c5]⟩⟩ : Str)).cps.all (· < 128) = true) {L : DM} {s : Shared} {p : Pos} (S : StD (K5 w s₀ b1 b2) (([] : DM) ++ L) [] s)
    (next : ∀ (τ : Nat → Nat → Tok) (N T G : Nat) (s' : Shared) (p' : Pos), (K5 w s₀ b1 b2).B ≤ N → N ≤ s'.heap.objs.size → StD (K5 w s₀ b1 b2) (([((N + 0), .arr c_list (#[.str (⟨⟨[c0]⟩⟩) (T + 0), .str (⟨⟨[c1]⟩⟩) (T + 1), .str (⟨⟨[c2]⟩⟩) (T + 2), .str (⟨⟨[c3]⟩⟩) (T + 3), .str (⟨⟨[c4]⟩⟩) (T + 4), .str (⟨⟨[c5]⟩⟩) (T + 5)] : Array Value))] : DM) ++ L) [] s' → Y.H s' ⟨(x.k (.ok (.ret (.ref (N + 0)))) : Sem Fin), cF1 w.params A z, p', fsF1 w.params A k6 z⟩) : Y.H s ⟨denF (cList (⟨⟨[c0, c1, c2, c3, c4, c5]⟩⟩ : Str) tx), cList (⟨⟨[c0, c1, c2, c3, c4, c5]⟩⟩ : Str) tx, p, fsS w.params A k6 z x⟩ :=
  Y.seg (t' := fun τ N T G => (x.k (.ok (.ret (.ref (N + 0)))) : Sem Fin)) (c' := fun N T G => cF1 w.params A z) (fs' := fun N T G => fsF1 w.params A k6 z) (d' := fun N T G => ([((N + 0), .arr c_list (#[.str (⟨⟨[c0]⟩⟩) (T + 0), .str (⟨⟨[c1]⟩⟩) (T + 1), .str (⟨⟨[c2]⟩⟩) (T + 2), .str (⟨⟨[c3]⟩⟩) (T + 3), .str (⟨⟨[c4]⟩⟩) (T + 4), .str (⟨⟨[c5]⟩⟩) (T + 5)] : Array Value))] : DM)) (gm' := fun N T G => []) S (by decide) (LL_6_sp w s₀ b1 b2 A z k6 x c0 c1 c2 c3 c4 c5 tx) (LL_6_r w s₀ b1 b2 A z k6 x c0 c1 c2 c3 c4 c5 tx  p) (fun τ ν N T G => .cons (ok_siter _ _ h0) (AllOk.nil)) next

noncomputable def oS5 (P : Params) (A : LA) (z l1 : Nat) : Out := run (V0 P (0)) 8 ((rS4 P A z).k (.ok (.ret (.ref l1)))) (cF1 P A z) default ([]) (memOf P (fun _ _ => 0) (fun _ => 0) 0 ([(A.L0, .dict c_frame [([115, 99, 114, 105, 112, 116], .ref 264), ([110, 117, 109, 98, 101, 114, 115], .ref A.nb), ([115, 105, 122, 101], .int 15), ([112, 108, 97, 99, 101], .int 0), ([110], .int 77), ([109, 97, 115, 107], .int 15), ([104, 101, 97, 100, 115], .str ⟨⟨[97, 98, 55, 32]⟩⟩), ([114, 117, 110], .raw (.str ⟨⟨[97]⟩⟩ 5)), ([116, 97, 105, 108], .raw (.str ⟨⟨[97]⟩⟩ 5))]), ((z + 3), .fields c_enum [.none, .bool false, .ref (z + 2), .raw (.int 1 0), .none, .int 77]), (l1, .seq c_list [.str ⟨⟨[97]⟩⟩, .str ⟨⟨[98]⟩⟩, .str ⟨⟨[55]⟩⟩, .str ⟨⟨[32]⟩⟩])])) 0 0 [] 0 [.b, .b, .o 0] []

noncomputable def rS5 (P : Params) (A : LA) (z l1 : Nat) : RF := rfOf (oS5 P A z l1).fs
theorem fs_S5 (P : Params) (A : LA) (k6 : Result → Sem Fin) (z l1 : Nat) : (oS5 P A z l1).fs ++ fsF1 P A k6 z = fsS P A k6 z (rS5 P A z l1) := by kernel_rfl

noncomputable def PF5o_h : List Hint := [.b, .b, .o 1]
noncomputable def PF5o_sp (w : World) (s₀ : Shared) (b1 b2 : Bool) (A : LA) (z : Addr) (k6 : Result → Sem Fin) (sz : Int) (ns ks cs : Array Value) (j : Nat) (n msk : Int) (h rx tx : Str) (tr tt : Tok) (l1 : Addr) (y1 : Array Value) (τ : Nat → Nat → Tok) (ν : Nat → Nat) (N T G : Nat) : List Spec := []
theorem PF5o_r (w : World) (s₀ : Shared) (b1 b2 : Bool) (A : LA) (z : Addr) (k6 : Result → Sem Fin) (sz : Int) (ns ks cs : Array Value) (j : Nat) (n msk : Int) (h rx tx : Str) (tr tt : Tok) (l1 : Addr) (y1 : Array Value)  (p : Pos) (τ : Nat → Nat → Tok) (ν : Nat → Nat) (N T G : Nat) :
  EndsQ w.params (run ((K5 w s₀ b1 b2).V [] N T G (PF5o_sp w s₀ b1 b2 A z k6 sz ns ks cs j n msk h rx tx tr tt l1 y1 τ ν N T G)) 8 (((rS4 w.params A z).k (.ok (.ret (.ref l1))) : Sem Fin)) (cF1 w.params A z) p (fsF1 w.params A k6 z) (memOf w.params τ ν 0 ((enD (z + 3) (z + 2) .none (j + 1) (intD (some n)) ++ p1C A z sz (pE4 (j : Int) n msk h (.s rx tr) (.s tx tt)) ns ks cs (j + 1)) ++ ([(l1, .arr c_list y1)] : DM))) 0 0 [] 0 PF5o_h []) [0, 1, 2, 3, 4, 5, 6, 7, 8, 9, 10, 11]
    (denF (cList tx tt)) (cList tx tt) ((oS5 w.params A z l1).fs ++ fsF1 w.params A k6 z) ((enD (z + 3) (z + 2) .none (j + 1) (intD (some n)) ++ p1C A z sz (pE4 (j : Int) n msk h (.s rx tr) (.s tx tt)) ns ks cs (j + 1)) ++ ([(l1, .arr c_list y1)] : DM)) [] := by
  cases b1 <;> (unfold EndsQ; kernel_rfl)
theorem PF5o (w : World) (s₀ : Shared) (b1 b2 : Bool) (Y : Sys (K5 w s₀ b1 b2)) (A : LA) (z : Addr) (k6 : Result → Sem Fin) (sz : Int) (ns ks cs : Array Value) (j : Nat) (n msk : Int) (h rx tx : Str) (tr tt : Tok) (l1 : Addr) (y1 : Array Value)   {L : DM} {s : Shared} {p : Pos} (S : StD (K5 w s₀ b1 b2) ((enD (z + 3) (z + 2) .none (j + 1) (intD (some n)) ++ p1C A z sz (pE4 (j : Int) n msk h (.s rx tr) (.s tx tt)) ns ks cs (j + 1)) ++ ([(l1, .arr c_list y1)] : DM) ++ L) [] s)
    (next : ∀ (τ : Nat → Nat → Tok) (N T G : Nat) (s' : Shared) (p' : Pos), (K5 w s₀ b1 b2).B ≤ N → N ≤ s'.heap.objs.size → StD (K5 w s₀ b1 b2) ((enD (z + 3) (z + 2) .none (j + 1) (intD (some n)) ++ p1C A z sz (pE4 (j : Int) n msk h (.s rx tr) (.s tx tt)) ns ks cs (j + 1)) ++ ([(l1, .arr c_list y1)] : DM) ++ L) [] s' → Y.H s' ⟨denF (cList tx tt), cList tx tt, p', (oS5 w.params A z l1).fs ++ fsF1 w.params A k6 z⟩) : Y.H s ⟨((rS4 w.params A z).k (.ok (.ret (.ref l1))) : Sem Fin), cF1 w.params A z, p, fsF1 w.params A k6 z⟩ :=
  Y.seg (t' := fun τ N T G => denF (cList tx tt)) (c' := fun N T G => cList tx tt) (fs' := fun N T G => (oS5 w.params A z l1).fs ++ fsF1 w.params A k6 z) (d' := fun N T G => (enD (z + 3) (z + 2) .none (j + 1) (intD (some n)) ++ p1C A z sz (pE4 (j : Int) n msk h (.s rx tr) (.s tx tt)) ns ks cs (j + 1)) ++ ([(l1, .arr c_list y1)] : DM)) (gm' := fun N T G => []) S (by decide) (PF5o_sp w s₀ b1 b2 A z k6 sz ns ks cs j n msk h rx tx tr tt l1 y1) (PF5o_r w s₀ b1 b2 A z k6 sz ns ks cs j n msk h rx tx tr tt l1 y1  p) (fun τ ν N T G => AllOk.nil) next

noncomputable def PF6o_h : List Hint := [.o 0, .o 0, .o 0, .o 0, .o 0, .o 0, .o 0, .o 0, .o 0, .o 1, .o 0, .o 0, .o 0, .o 0, .o 0, .o 0, .o 1, .o 0, .o 0, .o 0, .o 0, .o 0, .o 0, .o 1, .o 0, .o 0, .o 0, .o 5, .o 5, .o 5, .o 5, .o 8, .o 12, .o 12, .o 12, .o 12, .b, .b, .o 5, .s 999 0, .s 999 0, .s 999 0, .s 0 0, .s 999 0, .s 1 0, .o 5, .o 5, .o 5, .o 5, .s 2 0, .s 3 0, .s 4 0]
noncomputable def PF6o_sp (w : World) (s₀ : Shared) (b1 b2 : Bool) (A : LA) (z : Addr) (k6 : Result → Sem Fin) (sz : Int) (ns ks cs : Array Value) (j : Nat) (n msk : Int) (h rx tx : Str) (tr tt : Tok) (l1 l2 : Addr) (y1 y2 : Array Value) (dv : Bool) (τ : Nat → Nat → Tok) (ν : Nat → Nat) (N T G : Nat) : List Spec := [spV (callB "int.__repr__" [.int ((((j : Nat) : Int))) (τ 1 7)]) (.str ⟨⟨[48 + j]⟩⟩) 1,
  spV (SS "str.__add__" ((⟨⟨[75]⟩⟩) : Str) (T + 2) (⟨⟨[48 + j]⟩⟩) (T + 3)) (.str (((⟨⟨[75]⟩⟩) : Str) ++ (⟨⟨[48 + j]⟩⟩))) 1,
  spV (II "int.__mod__" (n) (τ 1 9) (6) (T + 5)) (.int ((n).fmod (6))) 1,
  spV (II "int.__gt__" (((n).fmod (6))) (T + 6) (3) (T + 7)) (.bool dv) 0,
  spPush A.kl 13 ks (ν 8) (.ref (N + 4))]
theorem PF6o_r (w : World) (s₀ : Shared) (b1 b2 : Bool) (A : LA) (z : Addr) (k6 : Result → Sem Fin) (sz : Int) (ns ks cs : Array Value) (j : Nat) (n msk : Int) (h rx tx : Str) (tr tt : Tok) (l1 l2 : Addr) (y1 y2 : Array Value) (dv : Bool)  (p : Pos) (τ : Nat → Nat → Tok) (ν : Nat → Nat) (N T G : Nat) :
  EndsQ w.params (run ((K5 w s₀ b1 b2).V [] N T G (PF6o_sp w s₀ b1 b2 A z k6 sz ns ks cs j n msk h rx tx tr tt l1 l2 y1 y2 dv τ ν N T G)) 115 (((rS5 w.params A z l1).k (.ok (.ret (.ref l2))) : Sem Fin)) (cF1 w.params A z) p (fsF1 w.params A k6 z) (memOf w.params τ ν 0 ((enD (z + 3) (z + 2) .none (j + 1) (intD (some n)) ++ p1C A z sz (pE4 (j : Int) n msk h (.s rx tr) (.s tx tt)) ns ks cs (j + 1)) ++ ([(l1, .arr c_list y1), (l2, .arr c_list y2)] : DM))) 0 0 [] 0 PF6o_h []) [5, 6, 7, 8, 9, 10, 11, 12, 13, 14, 15, 16, 17, 0]
    (denF (cF1 w.params A z)) (cF1 w.params A z) (fsF1 w.params A k6 z) ((enD (z + 3) (z + 2) .none (j + 1) (intD (some n)) ++ p1C A z sz (pE4 (j : Int) n msk h (.l l1) (.l l2)) ns (ks.push (.ref (N + 4))) cs (j + 1)) ++ ([(l1, .arr c_list y1), (l2, .arr c_list y2)] : DM) ++ kD (N + 4) (kName j) h (.l l1) (.l l2) dv) [] := by
  cases b1 <;> (unfold EndsQ; kernel_rfl)
theorem PF6o (w : World) (s₀ : Shared) (b1 b2 : Bool) (Y : Sys (K5 w s₀ b1 b2)) (A : LA) (z : Addr) (k6 : Result → Sem Fin) (sz : Int) (ns ks cs : Array Value) (j : Nat) (n msk : Int) (h rx tx : Str) (tr tt : Tok) (l1 l2 : Addr) (y1 y2 : Array Value) (dv : Bool)  (h0 : j < 4) (h1 : (((⟨⟨[75]⟩⟩) : Str) ++ (⟨⟨[48 + j]⟩⟩)).length ≤ sizeLine) (h2 : decide ((((n).fmod (6))) > (3)) = dv) (h3 : ks.size ≤ sizeLine) {L : DM} {s : Shared} {p : Pos} (S : StD (K5 w s₀ b1 b2) ((enD (z + 3) (z + 2) .none (j + 1) (intD (some n)) ++ p1C A z sz (pE4 (j : Int) n msk h (.s rx tr) (.s tx tt)) ns ks cs (j + 1)) ++ ([(l1, .arr c_list y1), (l2, .arr c_list y2)] : DM) ++ L) [] s)
    (next : ∀ (τ : Nat → Nat → Tok) (N T G : Nat) (s' : Shared) (p' : Pos), (K5 w s₀ b1 b2).B ≤ N → N ≤ s'.heap.objs.size → StD (K5 w s₀ b1 b2) ((enD (z + 3) (z + 2) .none (j + 1) (intD (some n)) ++ p1C A z sz (pE4 (j : Int) n msk h (.l l1) (.l l2)) ns (ks.push (.ref (N + 4))) cs (j + 1)) ++ ([(l1, .arr c_list y1), (l2, .arr c_list y2)] : DM) ++ kD (N + 4) (kName j) h (.l l1) (.l l2) dv ++ L) [] s' → Y.H s' ⟨denF (cF1 w.params A z), cF1 w.params A z, p', fsF1 w.params A k6 z⟩) : Y.H s ⟨((rS5 w.params A z l1).k (.ok (.ret (.ref l2))) : Sem Fin), cF1 w.params A z, p, fsF1 w.params A k6 z⟩ :=
  Y.seg (t' := fun τ N T G => denF (cF1 w.params A z)) (c' := fun N T G => cF1 w.params A z) (fs' := fun N T G => fsF1 w.params A k6 z) (d' := fun N T G => (enD (z + 3) (z + 2) .none (j + 1) (intD (some n)) ++ p1C A z sz (pE4 (j : Int) n msk h (.l l1) (.l l2)) ns (ks.push (.ref (N + 4))) cs (j + 1)) ++ ([(l1, .arr c_list y1), (l2, .arr c_list y2)] : DM) ++ kD (N + 4) (kName j) h (.l l1) (.l l2) dv) (gm' := fun N T G => []) S (by decide) (PF6o_sp w s₀ b1 b2 A z k6 sz ns ks cs j n msk h rx tx tr tt l1 l2 y1 y2 dv) (PF6o_r w s₀ b1 b2 A z k6 sz ns ks cs j n msk h rx tx tr tt l1 l2 y1 y2 dv  p) (fun τ ν N T G => .cons (okv (sok_repr _ _ h0)) (.cons (okv (sok_sadd _ _ _ _ rfl rfl h1)) (.cons (okv (sok_mod _ _ _ _ (by decide))) (.cons (okv (h2 ▸ sok_gt _ _ _ _)) (.cons (ok1 rfl rfl rfl (sok_push _ _ _ _ _ h3)) (AllOk.nil)))))) next

end Mine
end

section
set_option linter.unusedVariables false
set_option linter.unusedSimpArgs false
set_option maxRecDepth 100000
set_option maxHeartbeats 0
namespace Mine
open PySem PySem.W PySem.W.X

noncomputable def l0P (A : LA) (v : LV) (r tl : SV) : List (List Nat × VD) := [([115, 99, 114, 105, 112, 116], .ref 264), ([110, 117, 109, 98, 101, 114, 115], .ref A.nb), ([115, 105, 122, 101], .int v.size), ([112, 108, 97, 99, 101], .int v.pl), ([110], .int v.nn), ([109, 97, 115, 107], .int v.msk), ([104, 101, 97, 100, 115], .str v.hh), ([114, 117, 110], .raw r.val), ([116, 97, 105, 108], .raw tl.val), ([112, 108, 97, 99, 101, 115], .ref v.pls), ([99, 104, 97, 114, 115], .ref A.cl)]

noncomputable def p2C (A : LA) (z : Addr) (es : List (List Nat × VD)) (v : LV) (tx : Str) (tk : Tok) (ns ks cs ps chs : Array Value) (j : Nat) : DM :=
  [(A.L0, .dict c_frame es), (A.ctx, .cell (some (.raw (.str tx tk)))), (A.cat, .cell none), (A.ccls, .cell (some (.ref A.kl))), (A.ch, .cell none), (A.cst, .cell none), (A.nb, .arr c_list ns), (A.kl, .arr c_list ks), (v.pls, .arr c_list ps), (A.cl, .arr c_list chs), (z + 1, .arr c_list cs),
   (z + 2, .fields c_listit [.ref (z + 1), .raw (.int (j : Int) 0)])]
def rowOf (n : Int) (j : Nat) : Int := (7 * (j : Int) + n.fdiv 6).fmod 23 + 1
def colOf (n : Int) (j : Nat) : Int := (5 * (j : Int) + n.fdiv 11).fmod 31 + 1
def filOf : Nat → Str
  | 0 => ⟨⟨[97, 46, 99]⟩⟩
  | 1 => ⟨⟨[98, 46, 104]⟩⟩
  | _ => ⟨⟨[99, 46, 99]⟩⟩
def ONE : Str := ⟨⟨[79, 78, 69]⟩⟩
def SIGNS : Str := ⟨⟨[97, 98, 55, 32, 46, 10]⟩⟩

noncomputable def oF2 (P : Params) (A : LA) (z : Nat) : Out := run (V0 P (z)) 68 (tailT (dropS 6 (lawB P)) (lawEnv P A)) (cLaw0 P A) default ([]) (memOf P (fun _ _ => 0) (fun _ => 0) 0 ([(A.L0, .dict c_frame [([115, 99, 114, 105, 112, 116], .ref 264), ([110, 117, 109, 98, 101, 114, 115], .ref A.nb), ([115, 105, 122, 101], .int 15), ([112, 108, 97, 99, 101], .int 3), ([110], .int 98955), ([109, 97, 115, 107], .int 16), ([104, 101, 97, 100, 115], .str ⟨⟨[46]⟩⟩), ([114, 117, 110], .ref 0), ([116, 97, 105, 108], .ref 0), ([112, 108, 97, 99, 101, 115], .ref 0), ([99, 104, 97, 114, 115], .ref 0)]), (A.nb, .seq c_list [.int 5, .int 77, .int 12345, .int 99, .int 98955, .int 30, .int 103, .int 14, .int 180, .int 57, .int 248, .int 2, .int 70, .int 160, .int 19, .int 45, .int 305, .int 10, .int 132, .int 50, .int 79])])) 0 0 [] 0 [.b, .b, .o 0, .o 0, .o 2, .o 2, .o 2, .o 2, .o 0, .o 0, .o 0, .o 0, .o 0, .o 2, .o 0, .o 0, .o 0, .o 0, .o 0, .o 0, .o 0, .o 0, .o 0, .o 0, .o 0, .o 0] []

noncomputable def cF2 (P : Params) (A : LA) (z : Nat) : Code := (oF2 P A z).c
noncomputable def fsF2 (P : Params) (A : LA) (k6 : Result → Sem Fin) (z : Nat) : List Frame := (oF2 P A z).fs ++ [fCall k6]
theorem tup_F2 (P : Params) (A : LA) (z : Nat) : forTup (cF2 P A z) = some (z + 3) := by kernel_rfl

noncomputable def PE_h : List Hint := [.o 0, .o 0, .o 0, .o 10, .s 0 0, .o 0, .o 6, .o 10, .o 10, .o 10, .o 10, .b, .s 1 0, .o 0, .o 0, .o 0, .o 0, .o 0, .o 0, .o 0, .o 0, .o 0, .o 1, .o 0, .o 0, .o 0, .o 0, .o 0, .o 0, .o 1, .o 0, .o 0, .o 0, .o 0, .o 0, .o 0, .o 1, .o 0, .o 0, .o 0, .o 0, .o 0, .o 0, .o 1, .o 0, .o 0, .o 0, .o 12, .o 12, .o 11, .o 11, .o 11, .o 11, .b, .b, .o 11, .o 11, .s 2 0, .o 18, .o 18, .o 18, .s 3 0, .o 0, .o 0, .o 0, .o 0, .o 0, .o 0, .o 0, .o 0, .o 0, .o 0, .o 0, .o 0]
noncomputable def PE_sp (w : World) (s₀ : Shared) (b1 b2 : Bool) (A : LA) (z : Addr) (k6 : Result → Sem Fin) (sz : Int) (ns ks cs : Array Value) (j : Nat) (pl nn msk : Int) (hh : Str) (r tl : SV) (e : Option Int) (c2 : Array Value) (τ : Nat → Nat → Tok) (ν : Nat → Nat) (N T G : Nat) : List Spec := [spEnd (z + 2) (z + 1) 10 9 cs (ν 9) (j : Nat),
  spPush A.kl 12 ks (ν 8) (.ref (N + 3)),
  spV (II "int.__add__" (5) (T + 6) (sz) (τ 1 5)) (.int ((5) + (sz))) 1,
  spSlice A.nb (N + 10) 18 0 ns (ν 7) (.int (5) (T + 5)) (.int (((5) + (sz))) (T + 7)) c2]
theorem PE_r (w : World) (s₀ : Shared) (b1 b2 : Bool) (A : LA) (z : Addr) (k6 : Result → Sem Fin) (sz : Int) (ns ks cs : Array Value) (j : Nat) (pl nn msk : Int) (hh : Str) (r tl : SV) (e : Option Int) (c2 : Array Value)  (p : Pos) (τ : Nat → Nat → Tok) (ν : Nat → Nat) (N T G : Nat) :
  EndsQ w.params (run ((K5 w s₀ b1 b2).V [] N T G (PE_sp w s₀ b1 b2 A z k6 sz ns ks cs j pl nn msk hh r tl e c2 τ ν N T G)) 170 (denF (cF1 w.params A z)) (cF1 w.params A z) p (fsF1 w.params A k6 z) (memOf w.params τ ν 0 ((enD (z + 3) (z + 2) .none j (intD e) ++ p1C A z sz (pE4 pl nn msk hh r tl) ns ks cs j))) 0 0 [] 0 PE_h []) [0, 15, 16, 17, 18, 19, 20, 21, 22, 9, 8, 2, 1, 10, 11]
    (denF (cF2 w.params (A.scl (N + 5)) (N + 10))) (cF2 w.params (A.scl (N + 5)) (N + 10)) (fsF2 w.params (A.scl (N + 5)) k6 (N + 10)) ((enD ((N + 10) + 3) ((N + 10) + 2) .none 0 (intD none) ++ p2C (A.scl (N + 5)) (N + 10) (l0P (A.scl (N + 5)) (⟨sz, pl, nn, msk, hh, (N + 4), ⟨⟨[]⟩⟩, ⟨⟨[]⟩⟩, 0, 0⟩ : LV) r tl) (⟨sz, pl, nn, msk, hh, (N + 4), ⟨⟨[]⟩⟩, ⟨⟨[]⟩⟩, 0, 0⟩ : LV) ⟨⟨[]⟩⟩ (T + 2) ns (ks.push (.ref (N + 3))) c2 #[] #[] 0) ++ (kD (N + 3) ONE SIGNS (.s ⟨⟨[]⟩⟩ (T + 1)) (.l (N + 2)) false ++ ([((N + 2), .arr c_list #[])] : DM))) [] := by
  cases b1 <;> cases e <;> (unfold EndsQ; kernel_rfl)
theorem PE (w : World) (s₀ : Shared) (b1 b2 : Bool) (Y : Sys (K5 w s₀ b1 b2)) (A : LA) (z : Addr) (k6 : Result → Sem Fin) (sz : Int) (ns ks cs : Array Value) (j : Nat) (pl nn msk : Int) (hh : Str) (r tl : SV) (e : Option Int) (c2 : Array Value)  (h0 : cs[j]? = none) (h1 : ks.size ≤ sizeLine) (h2 : SliceL ns (some (5)) (some (((5) + (sz)))) c2) {L : DM} {s : Shared} {p : Pos} (S : StD (K5 w s₀ b1 b2) ((enD (z + 3) (z + 2) .none j (intD e) ++ p1C A z sz (pE4 pl nn msk hh r tl) ns ks cs j) ++ L) [] s)
    (next : ∀ (τ : Nat → Nat → Tok) (N T G : Nat) (s' : Shared) (p' : Pos), (K5 w s₀ b1 b2).B ≤ N → N ≤ s'.heap.objs.size → StD (K5 w s₀ b1 b2) ((enD ((N + 10) + 3) ((N + 10) + 2) .none 0 (intD none) ++ p2C (A.scl (N + 5)) (N + 10) (l0P (A.scl (N + 5)) (⟨sz, pl, nn, msk, hh, (N + 4), ⟨⟨[]⟩⟩, ⟨⟨[]⟩⟩, 0, 0⟩ : LV) r tl) (⟨sz, pl, nn, msk, hh, (N + 4), ⟨⟨[]⟩⟩, ⟨⟨[]⟩⟩, 0, 0⟩ : LV) ⟨⟨[]⟩⟩ (T + 2) ns (ks.push (.ref (N + 3))) c2 #[] #[] 0) ++ (kD (N + 3) ONE SIGNS (.s ⟨⟨[]⟩⟩ (T + 1)) (.l (N + 2)) false ++ ([((N + 2), .arr c_list #[])] : DM)) ++ L) [] s' → Y.H s' ⟨denF (cF2 w.params (A.scl (N + 5)) (N + 10)), cF2 w.params (A.scl (N + 5)) (N + 10), p', fsF2 w.params (A.scl (N + 5)) k6 (N + 10)⟩) : Y.H s ⟨denF (cF1 w.params A z), cF1 w.params A z, p, fsF1 w.params A k6 z⟩ :=
  Y.seg (t' := fun τ N T G => denF (cF2 w.params (A.scl (N + 5)) (N + 10))) (c' := fun N T G => cF2 w.params (A.scl (N + 5)) (N + 10)) (fs' := fun N T G => fsF2 w.params (A.scl (N + 5)) k6 (N + 10)) (d' := fun N T G => (enD ((N + 10) + 3) ((N + 10) + 2) .none 0 (intD none) ++ p2C (A.scl (N + 5)) (N + 10) (l0P (A.scl (N + 5)) (⟨sz, pl, nn, msk, hh, (N + 4), ⟨⟨[]⟩⟩, ⟨⟨[]⟩⟩, 0, 0⟩ : LV) r tl) (⟨sz, pl, nn, msk, hh, (N + 4), ⟨⟨[]⟩⟩, ⟨⟨[]⟩⟩, 0, 0⟩ : LV) ⟨⟨[]⟩⟩ (T + 2) ns (ks.push (.ref (N + 3))) c2 #[] #[] 0) ++ (kD (N + 3) ONE SIGNS (.s ⟨⟨[]⟩⟩ (T + 1)) (.l (N + 2)) false ++ ([((N + 2), .arr c_list #[])] : DM))) (gm' := fun N T G => []) S (by decide) (PE_sp w s₀ b1 b2 A z k6 sz ns ks cs j pl nn msk hh r tl e c2) (PE_r w s₀ b1 b2 A z k6 sz ns ks cs j pl nn msk hh r tl e c2  p) (fun τ ν N T G => .cons (ok_end _ _ _ _ _ _ _ h0) (.cons (ok1 rfl rfl rfl (sok_push _ _ _ _ _ h1)) (.cons (okv (sok_add _ _ _ _ )) (.cons (ok_sliceL _ _ _ _ _ _ _ _ _ (by rfl) (by rfl) h2) (AllOk.nil))))) next

end Mine
end

section
set_option linter.unusedVariables false
set_option linter.unusedSimpArgs false
set_option maxRecDepth 100000
set_option maxHeartbeats 0
namespace Mine
open PySem PySem.W PySem.W.X

noncomputable def PTao_h : List Hint := [.o 0, .o 0, .o 0, .o 12, .s 0 0, .o 0, .o 0, .o 0, .o 0, .o 0, .o 0, .o 1, .o 1, .o 1, .o 1, .o 1, .o 1, .o 1, .o 1]
noncomputable def PTao_sp (w : World) (s₀ : Shared) (b1 b2 : Bool) (A : LA) (z : Addr) (k6 : Result → Sem Fin) (v : LV) (r tl : SV) (ns ks cs ps chs : Array Value) (j : Nat) (tx : Str) (tk : Tok) (e : Option Int) (n : Int) (tn : Tok) (τ : Nat → Nat → Tok) (ν : Nat → Nat) (N T G : Nat) : List Spec := [spNext (z + 2) (z + 1) 12 11 cs (ν 11) (j : Nat) ((.int n tn))]
theorem PTao_r (w : World) (s₀ : Shared) (b1 b2 : Bool) (A : LA) (z : Addr) (k6 : Result → Sem Fin) (v : LV) (r tl : SV) (ns ks cs ps chs : Array Value) (j : Nat) (tx : Str) (tk : Tok) (e : Option Int) (n : Int) (tn : Tok)  (p : Pos) (τ : Nat → Nat → Tok) (ν : Nat → Nat) (N T G : Nat) :
  EndsQ w.params (run ((K5 w s₀ b1 b2).V [] N T G (PTao_sp w s₀ b1 b2 A z k6 v r tl ns ks cs ps chs j tx tk e n tn τ ν N T G)) 27 (denF (cF2 w.params A z)) (cF2 w.params A z) p (fsF2 w.params A k6 z) (memOf w.params τ ν 0 ((enD (z + 3) (z + 2) .none j (intD e) ++ p2C A z (l0P A v r tl) v tx tk ns ks cs ps chs j))) 0 0 [] 0 PTao_h []) [1, 2, 3, 4, 5, 6, 7, 8, 9, 10, 11, 12, 13, 0]
    (((rNx (V0 w.params 0) (cF2 w.params A z) (z + 3)).k (.ok (.ret (.ref (N + 0)))) : Sem Fin)) (cF2 w.params A z) (fsF2 w.params A k6 z) ((enD (z + 3) (z + 2) (.raw (.int (((N + 0) : Nat) : Int) 0)) (j + 1) (intD (some n)) ++ p2C A z (l0P A v r tl) v tx tk ns ks cs ps chs (j + 1)) ++ tupD (N + 0) [.int ((j : Nat) : Int), .raw (.int n tn)]) [] := by
  cases b1 <;> cases e <;> (unfold EndsQ; kernel_rfl)
theorem PTao (w : World) (s₀ : Shared) (b1 b2 : Bool) (Y : Sys (K5 w s₀ b1 b2)) (A : LA) (z : Addr) (k6 : Result → Sem Fin) (v : LV) (r tl : SV) (ns ks cs ps chs : Array Value) (j : Nat) (tx : Str) (tk : Tok) (e : Option Int) (n : Int) (tn : Tok)  (h0 : cs[j]? = some ((.int n tn))) {L : DM} {s : Shared} {p : Pos} (S : StD (K5 w s₀ b1 b2) ((enD (z + 3) (z + 2) .none j (intD e) ++ p2C A z (l0P A v r tl) v tx tk ns ks cs ps chs j) ++ L) [] s)
    (next : ∀ (τ : Nat → Nat → Tok) (N T G : Nat) (s' : Shared) (p' : Pos), (K5 w s₀ b1 b2).B ≤ N → N ≤ s'.heap.objs.size → StD (K5 w s₀ b1 b2) ((enD (z + 3) (z + 2) (.raw (.int (((N + 0) : Nat) : Int) 0)) (j + 1) (intD (some n)) ++ p2C A z (l0P A v r tl) v tx tk ns ks cs ps chs (j + 1)) ++ tupD (N + 0) [.int ((j : Nat) : Int), .raw (.int n tn)] ++ L) [] s' → Y.H s' ⟨((rNx (V0 w.params 0) (cF2 w.params A z) (z + 3)).k (.ok (.ret (.ref (N + 0)))) : Sem Fin), cF2 w.params A z, p', fsF2 w.params A k6 z⟩) : Y.H s ⟨denF (cF2 w.params A z), cF2 w.params A z, p, fsF2 w.params A k6 z⟩ :=
  Y.seg (t' := fun τ N T G => ((rNx (V0 w.params 0) (cF2 w.params A z) (z + 3)).k (.ok (.ret (.ref (N + 0)))) : Sem Fin)) (c' := fun N T G => cF2 w.params A z) (fs' := fun N T G => fsF2 w.params A k6 z) (d' := fun N T G => (enD (z + 3) (z + 2) (.raw (.int (((N + 0) : Nat) : Int) 0)) (j + 1) (intD (some n)) ++ p2C A z (l0P A v r tl) v tx tk ns ks cs ps chs (j + 1)) ++ tupD (N + 0) [.int ((j : Nat) : Int), .raw (.int n tn)]) (gm' := fun N T G => []) S (by decide) (PTao_sp w s₀ b1 b2 A z k6 v r tl ns ks cs ps chs j tx tk e n tn) (PTao_r w s₀ b1 b2 A z k6 v r tl ns ks cs ps chs j tx tk e n tn  p) (fun τ ν N T G => .cons (ok1 rfl rfl rfl (sok_next _ _ _ _ _ _ _ _ h0)) (AllOk.nil)) next

noncomputable def PTaf_h : List Hint := [.o 0, .o 0, .o 0, .o 12, .s 0 0, .o 0, .o 0, .o 0, .o 0, .o 0, .o 0, .o 1, .o 1, .o 1, .o 1, .o 1, .o 1, .o 1, .o 1]
noncomputable def PTaf_sp (w : World) (s₀ : Shared) (b1 b2 : Bool) (A : LA) (z : Addr) (k6 : Result → Sem Fin) (v : LV) (r tl : SV) (ns ks cs ps chs : Array Value) (j : Nat) (tx : Str) (tk : Tok) (e : Option Int) (n : Int) (tn : Tok) (τ : Nat → Nat → Tok) (ν : Nat → Nat) (N T G : Nat) : List Spec := [spNext (z + 2) (z + 1) 12 11 cs (ν 11) (j : Nat) ((.int n tn))]
theorem PTaf_r (w : World) (s₀ : Shared) (b1 b2 : Bool) (A : LA) (z : Addr) (k6 : Result → Sem Fin) (v : LV) (r tl : SV) (ns ks cs ps chs : Array Value) (j : Nat) (tx : Str) (tk : Tok) (e : Option Int) (n : Int) (tn : Tok)  (p : Pos) (τ : Nat → Nat → Tok) (ν : Nat → Nat) (N T G : Nat) :
  EndsQ w.params (run ((K5 w s₀ b1 b2).V [] N T G (PTaf_sp w s₀ b1 b2 A z k6 v r tl ns ks cs ps chs j tx tk e n tn τ ν N T G)) 27 (denF (cF2 w.params A z)) (cF2 w.params A z) p (fsF2 w.params A k6 z) (memOf w.params τ ν 0 ((enD (z + 3) (z + 2) .none j (intD e) ++ p2C A z (l0E A v r tl) v tx tk ns ks cs ps chs j))) 0 0 [] 0 PTaf_h []) [1, 2, 3, 4, 5, 6, 7, 8, 9, 10, 11, 12, 13, 0]
    (((rNx (V0 w.params 0) (cF2 w.params A z) (z + 3)).k (.ok (.ret (.ref (N + 0)))) : Sem Fin)) (cF2 w.params A z) (fsF2 w.params A k6 z) ((enD (z + 3) (z + 2) (.raw (.int (((N + 0) : Nat) : Int) 0)) (j + 1) (intD (some n)) ++ p2C A z (l0E A v r tl) v tx tk ns ks cs ps chs (j + 1)) ++ tupD (N + 0) [.int ((j : Nat) : Int), .raw (.int n tn)]) [] := by
  cases b1 <;> cases e <;> (unfold EndsQ; kernel_rfl)
theorem PTaf (w : World) (s₀ : Shared) (b1 b2 : Bool) (Y : Sys (K5 w s₀ b1 b2)) (A : LA) (z : Addr) (k6 : Result → Sem Fin) (v : LV) (r tl : SV) (ns ks cs ps chs : Array Value) (j : Nat) (tx : Str) (tk : Tok) (e : Option Int) (n : Int) (tn : Tok)  (h0 : cs[j]? = some ((.int n tn))) {L : DM} {s : Shared} {p : Pos} (S : StD (K5 w s₀ b1 b2) ((enD (z + 3) (z + 2) .none j (intD e) ++ p2C A z (l0E A v r tl) v tx tk ns ks cs ps chs j) ++ L) [] s)
    (next : ∀ (τ : Nat → Nat → Tok) (N T G : Nat) (s' : Shared) (p' : Pos), (K5 w s₀ b1 b2).B ≤ N → N ≤ s'.heap.objs.size → StD (K5 w s₀ b1 b2) ((enD (z + 3) (z + 2) (.raw (.int (((N + 0) : Nat) : Int) 0)) (j + 1) (intD (some n)) ++ p2C A z (l0E A v r tl) v tx tk ns ks cs ps chs (j + 1)) ++ tupD (N + 0) [.int ((j : Nat) : Int), .raw (.int n tn)] ++ L) [] s' → Y.H s' ⟨((rNx (V0 w.params 0) (cF2 w.params A z) (z + 3)).k (.ok (.ret (.ref (N + 0)))) : Sem Fin), cF2 w.params A z, p', fsF2 w.params A k6 z⟩) : Y.H s ⟨denF (cF2 w.params A z), cF2 w.params A z, p, fsF2 w.params A k6 z⟩ :=
  Y.seg (t' := fun τ N T G => ((rNx (V0 w.params 0) (cF2 w.params A z) (z + 3)).k (.ok (.ret (.ref (N + 0)))) : Sem Fin)) (c' := fun N T G => cF2 w.params A z) (fs' := fun N T G => fsF2 w.params A k6 z) (d' := fun N T G => (enD (z + 3) (z + 2) (.raw (.int (((N + 0) : Nat) : Int) 0)) (j + 1) (intD (some n)) ++ p2C A z (l0E A v r tl) v tx tk ns ks cs ps chs (j + 1)) ++ tupD (N + 0) [.int ((j : Nat) : Int), .raw (.int n tn)]) (gm' := fun N T G => []) S (by decide) (PTaf_sp w s₀ b1 b2 A z k6 v r tl ns ks cs ps chs j tx tk e n tn) (PTaf_r w s₀ b1 b2 A z k6 v r tl ns ks cs ps chs j tx tk e n tn  p) (fun τ ν N T G => .cons (ok1 rfl rfl rfl (sok_next _ _ _ _ _ _ _ _ h0)) (AllOk.nil)) next

noncomputable def PTbf0_h : List Hint := [.o 13, .o 13, .o 13, .o 13, .o 0, .o 0, .o 0, .o 0, .o 0, .o 14, .o 0, .o 0, .o 0, .o 0, .o 0, .o 0, .o 14, .o 0, .o 0, .o 0, .o 0, .o 0, .o 0, .o 14, .o 0, .o 0, .o 0, .o 4, .o 4, .o 4, .o 4, .b, .o 4, .s 0 0, .s 1 0, .o 4, .o 4, .o 4, .s 2 0, .o 4, .s 3 0, .s 4 0, .s 5 0, .s 6 0, .o 4, .s 7 0, .o 4, .s 8 0, .s 9 0, .s 10 0, .s 11 0, .b, .b, .b, .b, .b, .o 6, .o 6, .s 12 0, .s 13 0, .s 14 0, .o 0, .o 0, .o 0, .o 0, .o 0, .o 0, .o 0, .o 0, .o 0, .o 0, .o 0, .o 0, .o 0, .o 0, .o 1, .o 0, .o 0, .o 0, .o 0, .o 0, .o 0, .o 1, .o 0, .o 0, .o 0, .o 0, .o 0, .o 0, .o 1, .o 0, .o 0, .o 0, .o 0, .o 0, .o 0, .o 1, .o 0, .o 0, .o 0, .o 10, .o 10, .o 10, .o 10, .o 10, .o 10, .o 11, .o 10, .s 15 0, .o 11, .o 11, .o 10, .o 18, .o 18, .o 18, .o 18, .o 10, .o 10, .o 10, .s 16 0, .o 11, .o 20, .o 20, .o 20, .o 20, .b, .o 11, .b, .o 11, .o 11, .o 11, .b, .b, .b, .b, .b, .b, .b, .b, .b, .b, .b, .b, .b, .b, .b, .b, .b, .b, .b, .b, .b, .b, .b, .b, .b, .b, .b, .b, .o 0, .b, .o 0, .b, .b, .b, .b, .b, .b, .b, .o 0, .o 0, .o 0, .o 0, .o 0, .o 0, .o 0, .o 0, .o 0, .o 0, .o 0, .o 0, .b, .o 0, .o 0, .o 1, .b, .b, .b, .o 1, .b, .o 1, .b, .o 1, .b, .b, .b, .b, .b, .b, .b, .b, .o 1, .b, .b, .b, .b, .b, .o 1, .b, .o 1, .o 0, .o 0, .o 1, .b, .b, .b, .o 1, .b, .o 1, .b, .o 1, .b, .b, .b, .b, .b, .b, .b, .b, .o 1, .b, .b, .b, .b, .b, .o 1, .b, .o 1, .o 0, .o 0, .o 1, .b, .b, .b, .o 1, .b, .o 1, .b, .o 1, .b, .b, .b, .b, .b, .b, .b, .b, .o 1, .b, .b, .b, .b, .b, .o 1, .b, .o 1, .o 0, .o 0, .o 1, .b, .b, .b, .o 1, .b, .o 1, .b, .o 1, .b, .b, .b, .b, .b, .b, .b, .b, .o 1, .b, .b, .b, .b, .b, .o 1, .b, .o 1, .o 0, .o 0, .o 1, .b, .b, .b, .o 1, .b, .o 1, .b, .o 1, .b, .b, .b, .b, .b, .b, .b, .b, .o 1, .b, .b, .b, .b, .b, .o 1, .b, .o 1, .b, .b, .b, .b, .b, .b, .b, .b, .b, .b, .b, .b, .b, .b, .b, .b, .b, .b, .b, .b, .b, .b, .b, .b, .b, .b, .b, .b, .o 0, .b, .o 0, .b, .b, .b, .b, .b, .b, .o 0, .o 0, .o 0, .o 0, .o 0, .o 0, .b, .o 0, .o 0, .o 1, .b, .b, .b, .o 1, .b, .o 1, .b, .o 1, .b, .b, .b, .o 1, .b, .o 2, .o 2, .o 2, .o 0, .o 0, .o 1, .b, .b, .b, .o 1, .b, .o 1, .b, .o 1, .b, .b, .b, .o 1, .b, .o 2, .o 2, .o 2, .s 17 0]
noncomputable def PTbf0_sp (w : World) (s₀ : Shared) (b1 b2 : Bool) (A : LA) (z : Addr) (k6 : Result → Sem Fin) (v : LV) (r tl : SV) (ns ks cs ps chs : Array Value) (j : Nat) (tx : Str) (tk : Tok) (n : Int) (tn : Tok) (u : Addr) (sg : Nat) (τ : Nat → Nat → Tok) (ν : Nat → Nat) (N T G : Nat) : List Spec := [spV (II "int.__mod__" (n) tn (6) (T + 2)) (.int ((n).fmod (6))) 1,
  spV (callB "str.__getitem__" [.str (⟨⟨[97, 98, 55, 32, 46, 10]⟩⟩) 501, .int (((n).fmod (6))) (T + 3)]) (.str ⟨⟨[sg]⟩⟩) 1,
  spV (II "int.__mul__" (7) (T + 6) (((j : Nat) : Int)) (τ 13 0)) (.int ((7) * (((j : Nat) : Int)))) 1,
  spV (II "int.__floordiv__" (n) tn (6) (T + 8)) (.int ((n).fdiv (6))) 1,
  spV (II "int.__add__" (((7) * (((j : Nat) : Int)))) (T + 7) (((n).fdiv (6))) (T + 9)) (.int ((((7) * (((j : Nat) : Int)))) + (((n).fdiv (6))))) 1,
  spV (II "int.__mod__" (((((7) * (((j : Nat) : Int)))) + (((n).fdiv (6))))) (T + 10) (23) (T + 11)) (.int ((((((7) * (((j : Nat) : Int)))) + (((n).fdiv (6))))).fmod (23))) 1,
  spV (II "int.__add__" (((((((7) * (((j : Nat) : Int)))) + (((n).fdiv (6))))).fmod (23))) (T + 12) (1) (T + 13)) (.int ((((((((7) * (((j : Nat) : Int)))) + (((n).fdiv (6))))).fmod (23))) + (1))) 1,
  spV (II "int.__mul__" (5) (T + 15) (((j : Nat) : Int)) (τ 13 0)) (.int ((5) * (((j : Nat) : Int)))) 1,
  spV (II "int.__floordiv__" (n) tn (11) (T + 17)) (.int ((n).fdiv (11))) 1,
  spV (II "int.__add__" (((5) * (((j : Nat) : Int)))) (T + 16) (((n).fdiv (11))) (T + 18)) (.int ((((5) * (((j : Nat) : Int)))) + (((n).fdiv (11))))) 1,
  spV (II "int.__mod__" (((((5) * (((j : Nat) : Int)))) + (((n).fdiv (11))))) (T + 19) (31) (T + 20)) (.int ((((((5) * (((j : Nat) : Int)))) + (((n).fdiv (11))))).fmod (31))) 1,
  spV (II "int.__add__" (((((((5) * (((j : Nat) : Int)))) + (((n).fdiv (11))))).fmod (31))) (T + 21) (1) (T + 22)) (.int ((((((((5) * (((j : Nat) : Int)))) + (((n).fdiv (11))))).fmod (31))) + (1))) 1,
  spV (II "int.__floordiv__" (n) tn (9) (T + 27)) (.int ((n).fdiv (9))) 1,
  spV (II "int.__add__" (((j : Nat) : Int)) (τ 13 0) (((n).fdiv (9))) (T + 28)) (.int ((((j : Nat) : Int)) + (((n).fdiv (9))))) 1,
  spV (II "int.__mod__" (((((j : Nat) : Int)) + (((n).fdiv (9))))) (T + 29) 3 (T + 30)) (.int 0) 1,
  spV (SS "str.__add__" (tx) tk (⟨⟨[sg]⟩⟩) (T + 4)) (.str ((tx) ++ (⟨⟨[sg]⟩⟩))) 1,
  spPush v.pls 19 ps (ν 9) (.ref (N + 9)),
  spPush A.cl 26 chs (ν 10) (.ref (N + 14))]
theorem PTbf0_r (w : World) (s₀ : Shared) (b1 b2 : Bool) (A : LA) (z : Addr) (k6 : Result → Sem Fin) (v : LV) (r tl : SV) (ns ks cs ps chs : Array Value) (j : Nat) (tx : Str) (tk : Tok) (n : Int) (tn : Tok) (u : Addr) (sg : Nat)  (p : Pos) (τ : Nat → Nat → Tok) (ν : Nat → Nat) (N T G : Nat) :
  EndsQ w.params (run ((K5 w s₀ b1 b2).V [] N T G (PTbf0_sp w s₀ b1 b2 A z k6 v r tl ns ks cs ps chs j tx tk n tn u sg τ ν N T G)) 707 (tUx (V0 w.params 0) (cF2 w.params A z) (z + 3) u) (cF2 w.params A z) p (fsF2 w.params A k6 z) (memOf w.params τ ν 0 ((enD (z + 3) (z + 2) .none (j + 1) (intD (some n)) ++ p2C A z (l0E A v r tl) v tx tk ns ks cs ps chs (j + 1)) ++ tupD u [.int ((j : Nat) : Int), .raw (.int n tn)])) 0 0 [] 0 PTbf0_h []) [16, 17, 18, 19, 20, 21, 22, 23, 24, 25, 26, 27, 28, 6, 1, 2, 4, 5]
    (denF (cF2 w.params A z)) (cF2 w.params A z) (fsF2 w.params A k6 z) ((enD (z + 3) (z + 2) .none (j + 1) (intD (some n)) ++ p2C A z (l0E A (⟨v.size, j, n, v.msk, v.hh, v.pls, ⟨⟨[sg]⟩⟩, filOf 0, colOf n j, rowOf n j⟩ : LV) r tl) (⟨v.size, j, n, v.msk, v.hh, v.pls, ⟨⟨[sg]⟩⟩, filOf 0, colOf n j, rowOf n j⟩ : LV) (tx ++ (⟨⟨[sg]⟩⟩ : Str)) (T + 35) ns ks cs (ps.push (.ref (N + 9))) (chs.push (.ref (N + 14))) (j + 1)) ++ (tupD (N + 9) [.int (rowOf n j), .int (colOf n j), .str (filOf 0)] ++ (chD (N + 14) (N + 13) (N + 11) ⟨⟨[sg]⟩⟩ ++ locD (⟨(N + 14), (N + 13), (N + 11), (N + 10), sg, rowOf n j, colOf n j, filOf 0⟩ : Ch)))) [] := by
  cases b1 <;> (unfold EndsQ; kernel_rfl)
theorem PTbf0 (w : World) (s₀ : Shared) (b1 b2 : Bool) (Y : Sys (K5 w s₀ b1 b2)) (A : LA) (z : Addr) (k6 : Result → Sem Fin) (v : LV) (r tl : SV) (ns ks cs ps chs : Array Value) (j : Nat) (tx : Str) (tk : Tok) (n : Int) (tn : Tok) (u : Addr) (sg : Nat)  (h0 : CharAt (⟨⟨[97, 98, 55, 32, 46, 10]⟩⟩) (((n).fmod (6))) sg) (h1 : (((((j : Nat) : Int)) + (((n).fdiv (9))))).fmod 3 = 0) (h2 : ((tx).length == 0) = false) (h3 : ((tx) ++ (⟨⟨[sg]⟩⟩)).length ≤ sizeLine) (h4 : ps.size ≤ sizeLine) (h5 : chs.size ≤ sizeLine) {L : DM} {s : Shared} {p : Pos} (S : StD (K5 w s₀ b1 b2) ((enD (z + 3) (z + 2) .none (j + 1) (intD (some n)) ++ p2C A z (l0E A v r tl) v tx tk ns ks cs ps chs (j + 1)) ++ tupD u [.int ((j : Nat) : Int), .raw (.int n tn)] ++ L) [] s)
    (next : ∀ (τ : Nat → Nat → Tok) (N T G : Nat) (s' : Shared) (p' : Pos), (K5 w s₀ b1 b2).B ≤ N → N ≤ s'.heap.objs.size → StD (K5 w s₀ b1 b2) ((enD (z + 3) (z + 2) .none (j + 1) (intD (some n)) ++ p2C A z (l0E A (⟨v.size, j, n, v.msk, v.hh, v.pls, ⟨⟨[sg]⟩⟩, filOf 0, colOf n j, rowOf n j⟩ : LV) r tl) (⟨v.size, j, n, v.msk, v.hh, v.pls, ⟨⟨[sg]⟩⟩, filOf 0, colOf n j, rowOf n j⟩ : LV) (tx ++ (⟨⟨[sg]⟩⟩ : Str)) (T + 35) ns ks cs (ps.push (.ref (N + 9))) (chs.push (.ref (N + 14))) (j + 1)) ++ (tupD (N + 9) [.int (rowOf n j), .int (colOf n j), .str (filOf 0)] ++ (chD (N + 14) (N + 13) (N + 11) ⟨⟨[sg]⟩⟩ ++ locD (⟨(N + 14), (N + 13), (N + 11), (N + 10), sg, rowOf n j, colOf n j, filOf 0⟩ : Ch))) ++ L) [] s' → Y.H s' ⟨denF (cF2 w.params A z), cF2 w.params A z, p', fsF2 w.params A k6 z⟩) : Y.H s ⟨tUx (V0 w.params 0) (cF2 w.params A z) (z + 3) u, cF2 w.params A z, p, fsF2 w.params A k6 z⟩ :=
  Y.seg (t' := fun τ N T G => denF (cF2 w.params A z)) (c' := fun N T G => cF2 w.params A z) (fs' := fun N T G => fsF2 w.params A k6 z) (d' := fun N T G => (enD (z + 3) (z + 2) .none (j + 1) (intD (some n)) ++ p2C A z (l0E A (⟨v.size, j, n, v.msk, v.hh, v.pls, ⟨⟨[sg]⟩⟩, filOf 0, colOf n j, rowOf n j⟩ : LV) r tl) (⟨v.size, j, n, v.msk, v.hh, v.pls, ⟨⟨[sg]⟩⟩, filOf 0, colOf n j, rowOf n j⟩ : LV) (tx ++ (⟨⟨[sg]⟩⟩ : Str)) (T + 35) ns ks cs (ps.push (.ref (N + 9))) (chs.push (.ref (N + 14))) (j + 1)) ++ (tupD (N + 9) [.int (rowOf n j), .int (colOf n j), .str (filOf 0)] ++ (chD (N + 14) (N + 13) (N + 11) ⟨⟨[sg]⟩⟩ ++ locD (⟨(N + 14), (N + 13), (N + 11), (N + 10), sg, rowOf n j, colOf n j, filOf 0⟩ : Ch)))) (gm' := fun N T G => []) S (by decide) (PTbf0_sp w s₀ b1 b2 A z k6 v r tl ns ks cs ps chs j tx tk n tn u sg) (PTbf0_r w s₀ b1 b2 A z k6 v r tl ns ks cs ps chs j tx tk n tn u sg  p) (fun τ ν N T G => .cons (okv (sok_mod _ _ _ _ (by decide))) (.cons (okv (sok_sget _ _ _ _ _ h0)) (.cons (okv (sok_mul _ _ _ _ (IntMulOk.of_left (by decide)))) (.cons (okv (sok_div _ _ _ _ (by decide) (div_small _ _ (by decide)))) (.cons (okv (sok_add _ _ _ _ )) (.cons (okv (sok_mod _ _ _ _ (by decide))) (.cons (okv (sok_add _ _ _ _ )) (.cons (okv (sok_mul _ _ _ _ (IntMulOk.of_left (by decide)))) (.cons (okv (sok_div _ _ _ _ (by decide) (div_small _ _ (by decide)))) (.cons (okv (sok_add _ _ _ _ )) (.cons (okv (sok_mod _ _ _ _ (by decide))) (.cons (okv (sok_add _ _ _ _ )) (.cons (okv (sok_div _ _ _ _ (by decide) (div_small _ _ (by decide)))) (.cons (okv (sok_add _ _ _ _ )) (.cons (okv (h1 ▸ sok_mod _ _ _ _ (by decide))) (.cons (okv (sok_sadd _ _ _ _ h2 rfl h3)) (.cons (ok1 rfl rfl rfl (sok_push _ _ _ _ _ h4)) (.cons (ok1 rfl rfl rfl (sok_push _ _ _ _ _ h5)) (AllOk.nil))))))))))))))))))) next

noncomputable def PTbo0_h : List Hint := [.o 13, .o 13, .o 13, .o 13, .o 0, .o 0, .o 0, .o 0, .o 0, .o 14, .o 0, .o 0, .o 0, .o 0, .o 0, .o 0, .o 14, .o 0, .o 0, .o 0, .o 0, .o 0, .o 0, .o 14, .o 0, .o 0, .o 0, .o 4, .o 4, .o 4, .o 4, .b, .o 4, .s 0 0, .s 1 0, .o 4, .o 4, .o 4, .s 2 0, .o 4, .s 3 0, .s 4 0, .s 5 0, .s 6 0, .o 4, .s 7 0, .o 4, .s 8 0, .s 9 0, .s 10 0, .s 11 0, .b, .b, .b, .b, .b, .o 6, .o 6, .s 12 0, .s 13 0, .s 14 0, .o 0, .o 0, .o 0, .o 0, .o 0, .o 0, .o 0, .o 0, .o 0, .o 0, .o 0, .o 0, .o 0, .o 0, .o 1, .o 0, .o 0, .o 0, .o 0, .o 0, .o 0, .o 1, .o 0, .o 0, .o 0, .o 0, .o 0, .o 0, .o 1, .o 0, .o 0, .o 0, .o 0, .o 0, .o 0, .o 1, .o 0, .o 0, .o 0, .o 10, .o 10, .o 10, .o 10, .o 10, .o 10, .o 11, .o 10, .s 15 0, .o 11, .o 11, .o 10, .o 18, .o 18, .o 18, .o 18, .o 10, .o 10, .o 10, .s 16 0, .o 11, .o 20, .o 20, .o 20, .o 20, .b, .o 11, .b, .o 11, .o 11, .o 11, .b, .b, .b, .b, .b, .b, .b, .b, .b, .b, .b, .b, .b, .b, .b, .b, .b, .b, .b, .b, .b, .b, .b, .b, .b, .b, .b, .b, .o 0, .b, .o 0, .b, .b, .b, .b, .b, .b, .b, .o 0, .o 0, .o 0, .o 0, .o 0, .o 0, .o 0, .o 0, .o 0, .o 0, .o 0, .o 0, .b, .o 0, .o 0, .o 1, .b, .b, .b, .o 1, .b, .o 1, .b, .o 1, .b, .b, .b, .b, .b, .b, .b, .b, .o 1, .b, .b, .b, .b, .b, .o 1, .b, .o 1, .o 0, .o 0, .o 1, .b, .b, .b, .o 1, .b, .o 1, .b, .o 1, .b, .b, .b, .b, .b, .b, .b, .b, .o 1, .b, .b, .b, .b, .b, .o 1, .b, .o 1, .o 0, .o 0, .o 1, .b, .b, .b, .o 1, .b, .o 1, .b, .o 1, .b, .b, .b, .b, .b, .b, .b, .b, .o 1, .b, .b, .b, .b, .b, .o 1, .b, .o 1, .o 0, .o 0, .o 1, .b, .b, .b, .o 1, .b, .o 1, .b, .o 1, .b, .b, .b, .b, .b, .b, .b, .b, .o 1, .b, .b, .b, .b, .b, .o 1, .b, .o 1, .o 0, .o 0, .o 1, .b, .b, .b, .o 1, .b, .o 1, .b, .o 1, .b, .b, .b, .b, .b, .b, .b, .b, .o 1, .b, .b, .b, .b, .b, .o 1, .b, .o 1, .b, .b, .b, .b, .b, .b, .b, .b, .b, .b, .b, .b, .b, .b, .b, .b, .b, .b, .b, .b, .b, .b, .b, .b, .b, .b, .b, .b, .o 0, .b, .o 0, .b, .b, .b, .b, .b, .b, .o 0, .o 0, .o 0, .o 0, .o 0, .o 0, .b, .o 0, .o 0, .o 1, .b, .b, .b, .o 1, .b, .o 1, .b, .o 1, .b, .b, .b, .o 1, .b, .o 2, .o 2, .o 2, .o 0, .o 0, .o 1, .b, .b, .b, .o 1, .b, .o 1, .b, .o 1, .b, .b, .b, .o 1, .b, .o 2, .o 2, .o 2, .s 17 0]
noncomputable def PTbo0_sp (w : World) (s₀ : Shared) (b1 b2 : Bool) (A : LA) (z : Addr) (k6 : Result → Sem Fin) (v : LV) (r tl : SV) (ns ks cs ps chs : Array Value) (j : Nat) (tk : Tok) (n : Int) (tn : Tok) (u : Addr) (sg : Nat) (τ : Nat → Nat → Tok) (ν : Nat → Nat) (N T G : Nat) : List Spec := [spV (II "int.__mod__" (n) tn (6) (T + 2)) (.int ((n).fmod (6))) 1,
  spV (callB "str.__getitem__" [.str (⟨⟨[97, 98, 55, 32, 46, 10]⟩⟩) 501, .int (((n).fmod (6))) (T + 3)]) (.str ⟨⟨[sg]⟩⟩) 1,
  spV (II "int.__mul__" (7) (T + 6) (((j : Nat) : Int)) (τ 13 0)) (.int ((7) * (((j : Nat) : Int)))) 1,
  spV (II "int.__floordiv__" (n) tn (6) (T + 8)) (.int ((n).fdiv (6))) 1,
  spV (II "int.__add__" (((7) * (((j : Nat) : Int)))) (T + 7) (((n).fdiv (6))) (T + 9)) (.int ((((7) * (((j : Nat) : Int)))) + (((n).fdiv (6))))) 1,
  spV (II "int.__mod__" (((((7) * (((j : Nat) : Int)))) + (((n).fdiv (6))))) (T + 10) (23) (T + 11)) (.int ((((((7) * (((j : Nat) : Int)))) + (((n).fdiv (6))))).fmod (23))) 1,
  spV (II "int.__add__" (((((((7) * (((j : Nat) : Int)))) + (((n).fdiv (6))))).fmod (23))) (T + 12) (1) (T + 13)) (.int ((((((((7) * (((j : Nat) : Int)))) + (((n).fdiv (6))))).fmod (23))) + (1))) 1,
  spV (II "int.__mul__" (5) (T + 15) (((j : Nat) : Int)) (τ 13 0)) (.int ((5) * (((j : Nat) : Int)))) 1,
  spV (II "int.__floordiv__" (n) tn (11) (T + 17)) (.int ((n).fdiv (11))) 1,
  spV (II "int.__add__" (((5) * (((j : Nat) : Int)))) (T + 16) (((n).fdiv (11))) (T + 18)) (.int ((((5) * (((j : Nat) : Int)))) + (((n).fdiv (11))))) 1,
  spV (II "int.__mod__" (((((5) * (((j : Nat) : Int)))) + (((n).fdiv (11))))) (T + 19) (31) (T + 20)) (.int ((((((5) * (((j : Nat) : Int)))) + (((n).fdiv (11))))).fmod (31))) 1,
  spV (II "int.__add__" (((((((5) * (((j : Nat) : Int)))) + (((n).fdiv (11))))).fmod (31))) (T + 21) (1) (T + 22)) (.int ((((((((5) * (((j : Nat) : Int)))) + (((n).fdiv (11))))).fmod (31))) + (1))) 1,
  spV (II "int.__floordiv__" (n) tn (9) (T + 27)) (.int ((n).fdiv (9))) 1,
  spV (II "int.__add__" (((j : Nat) : Int)) (τ 13 0) (((n).fdiv (9))) (T + 28)) (.int ((((j : Nat) : Int)) + (((n).fdiv (9))))) 1,
  spV (II "int.__mod__" (((((j : Nat) : Int)) + (((n).fdiv (9))))) (T + 29) 3 (T + 30)) (.int 0) 1,
  spV (SS "str.__add__" ⟨⟨[]⟩⟩ tk (⟨⟨[sg]⟩⟩) (T + 4)) (.raw (.str (⟨⟨[sg]⟩⟩) (T + 4))) 0,
  spPush v.pls 19 ps (ν 9) (.ref (N + 9)),
  spPush A.cl 26 chs (ν 10) (.ref (N + 14))]
theorem PTbo0_r (w : World) (s₀ : Shared) (b1 b2 : Bool) (A : LA) (z : Addr) (k6 : Result → Sem Fin) (v : LV) (r tl : SV) (ns ks cs ps chs : Array Value) (j : Nat) (tk : Tok) (n : Int) (tn : Tok) (u : Addr) (sg : Nat)  (p : Pos) (τ : Nat → Nat → Tok) (ν : Nat → Nat) (N T G : Nat) :
  EndsQ w.params (run ((K5 w s₀ b1 b2).V [] N T G (PTbo0_sp w s₀ b1 b2 A z k6 v r tl ns ks cs ps chs j tk n tn u sg τ ν N T G)) 707 (tUx (V0 w.params 0) (cF2 w.params A z) (z + 3) u) (cF2 w.params A z) p (fsF2 w.params A k6 z) (memOf w.params τ ν 0 ((enD (z + 3) (z + 2) .none (j + 1) (intD (some n)) ++ p2C A z (l0P A v r tl) v ⟨⟨[]⟩⟩ tk ns ks cs ps chs (j + 1)) ++ tupD u [.int ((j : Nat) : Int), .raw (.int n tn)])) 0 0 [] 0 PTbo0_h []) [16, 17, 18, 19, 20, 21, 22, 23, 24, 25, 26, 27, 28, 6, 1, 2, 4, 5]
    (denF (cF2 w.params A z)) (cF2 w.params A z) (fsF2 w.params A k6 z) ((enD (z + 3) (z + 2) .none (j + 1) (intD (some n)) ++ p2C A z (l0E A (⟨v.size, j, n, v.msk, v.hh, v.pls, ⟨⟨[sg]⟩⟩, filOf 0, colOf n j, rowOf n j⟩ : LV) r tl) (⟨v.size, j, n, v.msk, v.hh, v.pls, ⟨⟨[sg]⟩⟩, filOf 0, colOf n j, rowOf n j⟩ : LV) ⟨⟨[sg]⟩⟩ (T + 4) ns ks cs (ps.push (.ref (N + 9))) (chs.push (.ref (N + 14))) (j + 1)) ++ (tupD (N + 9) [.int (rowOf n j), .int (colOf n j), .str (filOf 0)] ++ (chD (N + 14) (N + 13) (N + 11) ⟨⟨[sg]⟩⟩ ++ locD (⟨(N + 14), (N + 13), (N + 11), (N + 10), sg, rowOf n j, colOf n j, filOf 0⟩ : Ch)))) [] := by
  cases b1 <;> (unfold EndsQ; kernel_rfl)
theorem PTbo0 (w : World) (s₀ : Shared) (b1 b2 : Bool) (Y : Sys (K5 w s₀ b1 b2)) (A : LA) (z : Addr) (k6 : Result → Sem Fin) (v : LV) (r tl : SV) (ns ks cs ps chs : Array Value) (j : Nat) (tk : Tok) (n : Int) (tn : Tok) (u : Addr) (sg : Nat)  (h0 : CharAt (⟨⟨[97, 98, 55, 32, 46, 10]⟩⟩) (((n).fmod (6))) sg) (h1 : (((((j : Nat) : Int)) + (((n).fdiv (9))))).fmod 3 = 0) (h2 : ps.size ≤ sizeLine) (h3 : chs.size ≤ sizeLine) {L : DM} {s : Shared} {p : Pos} (S : StD (K5 w s₀ b1 b2) ((enD (z + 3) (z + 2) .none (j + 1) (intD (some n)) ++ p2C A z (l0P A v r tl) v ⟨⟨[]⟩⟩ tk ns ks cs ps chs (j + 1)) ++ tupD u [.int ((j : Nat) : Int), .raw (.int n tn)] ++ L) [] s)
    (next : ∀ (τ : Nat → Nat → Tok) (N T G : Nat) (s' : Shared) (p' : Pos), (K5 w s₀ b1 b2).B ≤ N → N ≤ s'.heap.objs.size → StD (K5 w s₀ b1 b2) ((enD (z + 3) (z + 2) .none (j + 1) (intD (some n)) ++ p2C A z (l0E A (⟨v.size, j, n, v.msk, v.hh, v.pls, ⟨⟨[sg]⟩⟩, filOf 0, colOf n j, rowOf n j⟩ : LV) r tl) (⟨v.size, j, n, v.msk, v.hh, v.pls, ⟨⟨[sg]⟩⟩, filOf 0, colOf n j, rowOf n j⟩ : LV) ⟨⟨[sg]⟩⟩ (T + 4) ns ks cs (ps.push (.ref (N + 9))) (chs.push (.ref (N + 14))) (j + 1)) ++ (tupD (N + 9) [.int (rowOf n j), .int (colOf n j), .str (filOf 0)] ++ (chD (N + 14) (N + 13) (N + 11) ⟨⟨[sg]⟩⟩ ++ locD (⟨(N + 14), (N + 13), (N + 11), (N + 10), sg, rowOf n j, colOf n j, filOf 0⟩ : Ch))) ++ L) [] s' → Y.H s' ⟨denF (cF2 w.params A z), cF2 w.params A z, p', fsF2 w.params A k6 z⟩) : Y.H s ⟨tUx (V0 w.params 0) (cF2 w.params A z) (z + 3) u, cF2 w.params A z, p, fsF2 w.params A k6 z⟩ :=
  Y.seg (t' := fun τ N T G => denF (cF2 w.params A z)) (c' := fun N T G => cF2 w.params A z) (fs' := fun N T G => fsF2 w.params A k6 z) (d' := fun N T G => (enD (z + 3) (z + 2) .none (j + 1) (intD (some n)) ++ p2C A z (l0E A (⟨v.size, j, n, v.msk, v.hh, v.pls, ⟨⟨[sg]⟩⟩, filOf 0, colOf n j, rowOf n j⟩ : LV) r tl) (⟨v.size, j, n, v.msk, v.hh, v.pls, ⟨⟨[sg]⟩⟩, filOf 0, colOf n j, rowOf n j⟩ : LV) ⟨⟨[sg]⟩⟩ (T + 4) ns ks cs (ps.push (.ref (N + 9))) (chs.push (.ref (N + 14))) (j + 1)) ++ (tupD (N + 9) [.int (rowOf n j), .int (colOf n j), .str (filOf 0)] ++ (chD (N + 14) (N + 13) (N + 11) ⟨⟨[sg]⟩⟩ ++ locD (⟨(N + 14), (N + 13), (N + 11), (N + 10), sg, rowOf n j, colOf n j, filOf 0⟩ : Ch)))) (gm' := fun N T G => []) S (by decide) (PTbo0_sp w s₀ b1 b2 A z k6 v r tl ns ks cs ps chs j tk n tn u sg) (PTbo0_r w s₀ b1 b2 A z k6 v r tl ns ks cs ps chs j tk n tn u sg  p) (fun τ ν N T G => .cons (okv (sok_mod _ _ _ _ (by decide))) (.cons (okv (sok_sget _ _ _ _ _ h0)) (.cons (okv (sok_mul _ _ _ _ (IntMulOk.of_left (by decide)))) (.cons (okv (sok_div _ _ _ _ (by decide) (div_small _ _ (by decide)))) (.cons (okv (sok_add _ _ _ _ )) (.cons (okv (sok_mod _ _ _ _ (by decide))) (.cons (okv (sok_add _ _ _ _ )) (.cons (okv (sok_mul _ _ _ _ (IntMulOk.of_left (by decide)))) (.cons (okv (sok_div _ _ _ _ (by decide) (div_small _ _ (by decide)))) (.cons (okv (sok_add _ _ _ _ )) (.cons (okv (sok_mod _ _ _ _ (by decide))) (.cons (okv (sok_add _ _ _ _ )) (.cons (okv (sok_div _ _ _ _ (by decide) (div_small _ _ (by decide)))) (.cons (okv (sok_add _ _ _ _ )) (.cons (okv (h1 ▸ sok_mod _ _ _ _ (by decide))) (.cons (okv (sok_sadd0 _ _ _)) (.cons (ok1 rfl rfl rfl (sok_push _ _ _ _ _ h2)) (.cons (ok1 rfl rfl rfl (sok_push _ _ _ _ _ h3)) (AllOk.nil))))))))))))))))))) next

noncomputable def PTbf1_h : List Hint := [.o 13, .o 13, .o 13, .o 13, .o 0, .o 0, .o 0, .o 0, .o 0, .o 14, .o 0, .o 0, .o 0, .o 0, .o 0, .o 0, .o 14, .o 0, .o 0, .o 0, .o 0, .o 0, .o 0, .o 14, .o 0, .o 0, .o 0, .o 4, .o 4, .o 4, .o 4, .b, .o 4, .s 0 0, .s 1 0, .o 4, .o 4, .o 4, .s 2 0, .o 4, .s 3 0, .s 4 0, .s 5 0, .s 6 0, .o 4, .s 7 0, .o 4, .s 8 0, .s 9 0, .s 10 0, .s 11 0, .b, .b, .b, .b, .b, .o 6, .o 6, .s 12 0, .s 13 0, .s 14 0, .o 0, .o 0, .o 0, .o 0, .o 0, .o 0, .o 0, .o 0, .o 0, .o 0, .o 0, .o 0, .o 0, .o 0, .o 1, .o 0, .o 0, .o 0, .o 0, .o 0, .o 0, .o 1, .o 0, .o 0, .o 0, .o 0, .o 0, .o 0, .o 1, .o 0, .o 0, .o 0, .o 0, .o 0, .o 0, .o 1, .o 0, .o 0, .o 0, .o 10, .o 10, .o 10, .o 10, .o 10, .o 10, .o 11, .o 10, .s 15 0, .o 11, .o 11, .o 10, .o 18, .o 18, .o 18, .o 18, .o 10, .o 10, .o 10, .s 16 0, .o 11, .o 20, .o 20, .o 20, .o 20, .b, .o 11, .b, .o 11, .o 11, .o 11, .b, .b, .b, .b, .b, .b, .b, .b, .b, .b, .b, .b, .b, .b, .b, .b, .b, .b, .b, .b, .b, .b, .b, .b, .b, .b, .b, .b, .o 0, .b, .o 0, .b, .b, .b, .b, .b, .b, .b, .o 0, .o 0, .o 0, .o 0, .o 0, .o 0, .o 0, .o 0, .o 0, .o 0, .o 0, .o 0, .b, .o 0, .o 0, .o 1, .b, .b, .b, .o 1, .b, .o 1, .b, .o 1, .b, .b, .b, .b, .b, .b, .b, .b, .o 1, .b, .b, .b, .b, .b, .o 1, .b, .o 1, .o 0, .o 0, .o 1, .b, .b, .b, .o 1, .b, .o 1, .b, .o 1, .b, .b, .b, .b, .b, .b, .b, .b, .o 1, .b, .b, .b, .b, .b, .o 1, .b, .o 1, .o 0, .o 0, .o 1, .b, .b, .b, .o 1, .b, .o 1, .b, .o 1, .b, .b, .b, .b, .b, .b, .b, .b, .o 1, .b, .b, .b, .b, .b, .o 1, .b, .o 1, .o 0, .o 0, .o 1, .b, .b, .b, .o 1, .b, .o 1, .b, .o 1, .b, .b, .b, .b, .b, .b, .b, .b, .o 1, .b, .b, .b, .b, .b, .o 1, .b, .o 1, .o 0, .o 0, .o 1, .b, .b, .b, .o 1, .b, .o 1, .b, .o 1, .b, .b, .b, .b, .b, .b, .b, .b, .o 1, .b, .b, .b, .b, .b, .o 1, .b, .o 1, .b, .b, .b, .b, .b, .b, .b, .b, .b, .b, .b, .b, .b, .b, .b, .b, .b, .b, .b, .b, .b, .b, .b, .b, .b, .b, .b, .b, .o 0, .b, .o 0, .b, .b, .b, .b, .b, .b, .o 0, .o 0, .o 0, .o 0, .o 0, .o 0, .b, .o 0, .o 0, .o 1, .b, .b, .b, .o 1, .b, .o 1, .b, .o 1, .b, .b, .b, .o 1, .b, .o 2, .o 2, .o 2, .o 0, .o 0, .o 1, .b, .b, .b, .o 1, .b, .o 1, .b, .o 1, .b, .b, .b, .o 1, .b, .o 2, .o 2, .o 2, .s 17 0]
noncomputable def PTbf1_sp (w : World) (s₀ : Shared) (b1 b2 : Bool) (A : LA) (z : Addr) (k6 : Result → Sem Fin) (v : LV) (r tl : SV) (ns ks cs ps chs : Array Value) (j : Nat) (tx : Str) (tk : Tok) (n : Int) (tn : Tok) (u : Addr) (sg : Nat) (τ : Nat → Nat → Tok) (ν : Nat → Nat) (N T G : Nat) : List Spec := [spV (II "int.__mod__" (n) tn (6) (T + 2)) (.int ((n).fmod (6))) 1,
  spV (callB "str.__getitem__" [.str (⟨⟨[97, 98, 55, 32, 46, 10]⟩⟩) 501, .int (((n).fmod (6))) (T + 3)]) (.str ⟨⟨[sg]⟩⟩) 1,
  spV (II "int.__mul__" (7) (T + 6) (((j : Nat) : Int)) (τ 13 0)) (.int ((7) * (((j : Nat) : Int)))) 1,
  spV (II "int.__floordiv__" (n) tn (6) (T + 8)) (.int ((n).fdiv (6))) 1,
  spV (II "int.__add__" (((7) * (((j : Nat) : Int)))) (T + 7) (((n).fdiv (6))) (T + 9)) (.int ((((7) * (((j : Nat) : Int)))) + (((n).fdiv (6))))) 1,
  spV (II "int.__mod__" (((((7) * (((j : Nat) : Int)))) + (((n).fdiv (6))))) (T + 10) (23) (T + 11)) (.int ((((((7) * (((j : Nat) : Int)))) + (((n).fdiv (6))))).fmod (23))) 1,
  spV (II "int.__add__" (((((((7) * (((j : Nat) : Int)))) + (((n).fdiv (6))))).fmod (23))) (T + 12) (1) (T + 13)) (.int ((((((((7) * (((j : Nat) : Int)))) + (((n).fdiv (6))))).fmod (23))) + (1))) 1,
  spV (II "int.__mul__" (5) (T + 15) (((j : Nat) : Int)) (τ 13 0)) (.int ((5) * (((j : Nat) : Int)))) 1,
  spV (II "int.__floordiv__" (n) tn (11) (T + 17)) (.int ((n).fdiv (11))) 1,
  spV (II "int.__add__" (((5) * (((j : Nat) : Int)))) (T + 16) (((n).fdiv (11))) (T + 18)) (.int ((((5) * (((j : Nat) : Int)))) + (((n).fdiv (11))))) 1,
  spV (II "int.__mod__" (((((5) * (((j : Nat) : Int)))) + (((n).fdiv (11))))) (T + 19) (31) (T + 20)) (.int ((((((5) * (((j : Nat) : Int)))) + (((n).fdiv (11))))).fmod (31))) 1,
  spV (II "int.__add__" (((((((5) * (((j : Nat) : Int)))) + (((n).fdiv (11))))).fmod (31))) (T + 21) (1) (T + 22)) (.int ((((((((5) * (((j : Nat) : Int)))) + (((n).fdiv (11))))).fmod (31))) + (1))) 1,
  spV (II "int.__floordiv__" (n) tn (9) (T + 27)) (.int ((n).fdiv (9))) 1,
  spV (II "int.__add__" (((j : Nat) : Int)) (τ 13 0) (((n).fdiv (9))) (T + 28)) (.int ((((j : Nat) : Int)) + (((n).fdiv (9))))) 1,
  spV (II "int.__mod__" (((((j : Nat) : Int)) + (((n).fdiv (9))))) (T + 29) 3 (T + 30)) (.int 1) 1,
  spV (SS "str.__add__" (tx) tk (⟨⟨[sg]⟩⟩) (T + 4)) (.str ((tx) ++ (⟨⟨[sg]⟩⟩))) 1,
  spPush v.pls 19 ps (ν 9) (.ref (N + 9)),
  spPush A.cl 26 chs (ν 10) (.ref (N + 14))]
theorem PTbf1_r (w : World) (s₀ : Shared) (b1 b2 : Bool) (A : LA) (z : Addr) (k6 : Result → Sem Fin) (v : LV) (r tl : SV) (ns ks cs ps chs : Array Value) (j : Nat) (tx : Str) (tk : Tok) (n : Int) (tn : Tok) (u : Addr) (sg : Nat)  (p : Pos) (τ : Nat → Nat → Tok) (ν : Nat → Nat) (N T G : Nat) :
  EndsQ w.params (run ((K5 w s₀ b1 b2).V [] N T G (PTbf1_sp w s₀ b1 b2 A z k6 v r tl ns ks cs ps chs j tx tk n tn u sg τ ν N T G)) 707 (tUx (V0 w.params 0) (cF2 w.params A z) (z + 3) u) (cF2 w.params A z) p (fsF2 w.params A k6 z) (memOf w.params τ ν 0 ((enD (z + 3) (z + 2) .none (j + 1) (intD (some n)) ++ p2C A z (l0E A v r tl) v tx tk ns ks cs ps chs (j + 1)) ++ tupD u [.int ((j : Nat) : Int), .raw (.int n tn)])) 0 0 [] 0 PTbf1_h []) [16, 17, 18, 19, 20, 21, 22, 23, 24, 25, 26, 27, 28, 6, 1, 2, 4, 5]
    (denF (cF2 w.params A z)) (cF2 w.params A z) (fsF2 w.params A k6 z) ((enD (z + 3) (z + 2) .none (j + 1) (intD (some n)) ++ p2C A z (l0E A (⟨v.size, j, n, v.msk, v.hh, v.pls, ⟨⟨[sg]⟩⟩, filOf 1, colOf n j, rowOf n j⟩ : LV) r tl) (⟨v.size, j, n, v.msk, v.hh, v.pls, ⟨⟨[sg]⟩⟩, filOf 1, colOf n j, rowOf n j⟩ : LV) (tx ++ (⟨⟨[sg]⟩⟩ : Str)) (T + 35) ns ks cs (ps.push (.ref (N + 9))) (chs.push (.ref (N + 14))) (j + 1)) ++ (tupD (N + 9) [.int (rowOf n j), .int (colOf n j), .str (filOf 1)] ++ (chD (N + 14) (N + 13) (N + 11) ⟨⟨[sg]⟩⟩ ++ locD (⟨(N + 14), (N + 13), (N + 11), (N + 10), sg, rowOf n j, colOf n j, filOf 1⟩ : Ch)))) [] := by
  cases b1 <;> (unfold EndsQ; kernel_rfl)
theorem PTbf1 (w : World) (s₀ : Shared) (b1 b2 : Bool) (Y : Sys (K5 w s₀ b1 b2)) (A : LA) (z : Addr) (k6 : Result → Sem Fin) (v : LV) (r tl : SV) (ns ks cs ps chs : Array Value) (j : Nat) (tx : Str) (tk : Tok) (n : Int) (tn : Tok) (u : Addr) (sg : Nat)  (h0 : CharAt (⟨⟨[97, 98, 55, 32, 46, 10]⟩⟩) (((n).fmod (6))) sg) (h1 : (((((j : Nat) : Int)) + (((n).fdiv (9))))).fmod 3 = 1) (h2 : ((tx).length == 0) = false) (h3 : ((tx) ++ (⟨⟨[sg]⟩⟩)).length ≤ sizeLine) (h4 : ps.size ≤ sizeLine) (h5 : chs.size ≤ sizeLine) {L : DM} {s : Shared} {p : Pos} (S : StD (K5 w s₀ b1 b2) ((enD (z + 3) (z + 2) .none (j + 1) (intD (some n)) ++ p2C A z (l0E A v r tl) v tx tk ns ks cs ps chs (j + 1)) ++ tupD u [.int ((j : Nat) : Int), .raw (.int n tn)] ++ L) [] s)
    (next : ∀ (τ : Nat → Nat → Tok) (N T G : Nat) (s' : Shared) (p' : Pos), (K5 w s₀ b1 b2).B ≤ N → N ≤ s'.heap.objs.size → StD (K5 w s₀ b1 b2) ((enD (z + 3) (z + 2) .none (j + 1) (intD (some n)) ++ p2C A z (l0E A (⟨v.size, j, n, v.msk, v.hh, v.pls, ⟨⟨[sg]⟩⟩, filOf 1, colOf n j, rowOf n j⟩ : LV) r tl) (⟨v.size, j, n, v.msk, v.hh, v.pls, ⟨⟨[sg]⟩⟩, filOf 1, colOf n j, rowOf n j⟩ : LV) (tx ++ (⟨⟨[sg]⟩⟩ : Str)) (T + 35) ns ks cs (ps.push (.ref (N + 9))) (chs.push (.ref (N + 14))) (j + 1)) ++ (tupD (N + 9) [.int (rowOf n j), .int (colOf n j), .str (filOf 1)] ++ (chD (N + 14) (N + 13) (N + 11) ⟨⟨[sg]⟩⟩ ++ locD (⟨(N + 14), (N + 13), (N + 11), (N + 10), sg, rowOf n j, colOf n j, filOf 1⟩ : Ch))) ++ L) [] s' → Y.H s' ⟨denF (cF2 w.params A z), cF2 w.params A z, p', fsF2 w.params A k6 z⟩) : Y.H s ⟨tUx (V0 w.params 0) (cF2 w.params A z) (z + 3) u, cF2 w.params A z, p, fsF2 w.params A k6 z⟩ :=
  Y.seg (t' := fun τ N T G => denF (cF2 w.params A z)) (c' := fun N T G => cF2 w.params A z) (fs' := fun N T G => fsF2 w.params A k6 z) (d' := fun N T G => (enD (z + 3) (z + 2) .none (j + 1) (intD (some n)) ++ p2C A z (l0E A (⟨v.size, j, n, v.msk, v.hh, v.pls, ⟨⟨[sg]⟩⟩, filOf 1, colOf n j, rowOf n j⟩ : LV) r tl) (⟨v.size, j, n, v.msk, v.hh, v.pls, ⟨⟨[sg]⟩⟩, filOf 1, colOf n j, rowOf n j⟩ : LV) (tx ++ (⟨⟨[sg]⟩⟩ : Str)) (T + 35) ns ks cs (ps.push (.ref (N + 9))) (chs.push (.ref (N + 14))) (j + 1)) ++ (tupD (N + 9) [.int (rowOf n j), .int (colOf n j), .str (filOf 1)] ++ (chD (N + 14) (N + 13) (N + 11) ⟨⟨[sg]⟩⟩ ++ locD (⟨(N + 14), (N + 13), (N + 11), (N + 10), sg, rowOf n j, colOf n j, filOf 1⟩ : Ch)))) (gm' := fun N T G => []) S (by decide) (PTbf1_sp w s₀ b1 b2 A z k6 v r tl ns ks cs ps chs j tx tk n tn u sg) (PTbf1_r w s₀ b1 b2 A z k6 v r tl ns ks cs ps chs j tx tk n tn u sg  p) (fun τ ν N T G => .cons (okv (sok_mod _ _ _ _ (by decide))) (.cons (okv (sok_sget _ _ _ _ _ h0)) (.cons (okv (sok_mul _ _ _ _ (IntMulOk.of_left (by decide)))) (.cons (okv (sok_div _ _ _ _ (by decide) (div_small _ _ (by decide)))) (.cons (okv (sok_add _ _ _ _ )) (.cons (okv (sok_mod _ _ _ _ (by decide))) (.cons (okv (sok_add _ _ _ _ )) (.cons (okv (sok_mul _ _ _ _ (IntMulOk.of_left (by decide)))) (.cons (okv (sok_div _ _ _ _ (by decide) (div_small _ _ (by decide)))) (.cons (okv (sok_add _ _ _ _ )) (.cons (okv (sok_mod _ _ _ _ (by decide))) (.cons (okv (sok_add _ _ _ _ )) (.cons (okv (sok_div _ _ _ _ (by decide) (div_small _ _ (by decide)))) (.cons (okv (sok_add _ _ _ _ )) (.cons (okv (h1 ▸ sok_mod _ _ _ _ (by decide))) (.cons (okv (sok_sadd _ _ _ _ h2 rfl h3)) (.cons (ok1 rfl rfl rfl (sok_push _ _ _ _ _ h4)) (.cons (ok1 rfl rfl rfl (sok_push _ _ _ _ _ h5)) (AllOk.nil))))))))))))))))))) next

noncomputable def PTbo1_h : List Hint := [.o 13, .o 13, .o 13, .o 13, .o 0, .o 0, .o 0, .o 0, .o 0, .o 14, .o 0, .o 0, .o 0, .o 0, .o 0, .o 0, .o 14, .o 0, .o 0, .o 0, .o 0, .o 0, .o 0, .o 14, .o 0, .o 0, .o 0, .o 4, .o 4, .o 4, .o 4, .b, .o 4, .s 0 0, .s 1 0, .o 4, .o 4, .o 4, .s 2 0, .o 4, .s 3 0, .s 4 0, .s 5 0, .s 6 0, .o 4, .s 7 0, .o 4, .s 8 0, .s 9 0, .s 10 0, .s 11 0, .b, .b, .b, .b, .b, .o 6, .o 6, .s 12 0, .s 13 0, .s 14 0, .o 0, .o 0, .o 0, .o 0, .o 0, .o 0, .o 0, .o 0, .o 0, .o 0, .o 0, .o 0, .o 0, .o 0, .o 1, .o 0, .o 0, .o 0, .o 0, .o 0, .o 0, .o 1, .o 0, .o 0, .o 0, .o 0, .o 0, .o 0, .o 1, .o 0, .o 0, .o 0, .o 0, .o 0, .o 0, .o 1, .o 0, .o 0, .o 0, .o 10, .o 10, .o 10, .o 10, .o 10, .o 10, .o 11, .o 10, .s 15 0, .o 11, .o 11, .o 10, .o 18, .o 18, .o 18, .o 18, .o 10, .o 10, .o 10, .s 16 0, .o 11, .o 20, .o 20, .o 20, .o 20, .b, .o 11, .b, .o 11, .o 11, .o 11, .b, .b, .b, .b, .b, .b, .b, .b, .b, .b, .b, .b, .b, .b, .b, .b, .b, .b, .b, .b, .b, .b, .b, .b, .b, .b, .b, .b, .o 0, .b, .o 0, .b, .b, .b, .b, .b, .b, .b, .o 0, .o 0, .o 0, .o 0, .o 0, .o 0, .o 0, .o 0, .o 0, .o 0, .o 0, .o 0, .b, .o 0, .o 0, .o 1, .b, .b, .b, .o 1, .b, .o 1, .b, .o 1, .b, .b, .b, .b, .b, .b, .b, .b, .o 1, .b, .b, .b, .b, .b, .o 1, .b, .o 1, .o 0, .o 0, .o 1, .b, .b, .b, .o 1, .b, .o 1, .b, .o 1, .b, .b, .b, .b, .b, .b, .b, .b, .o 1, .b, .b, .b, .b, .b, .o 1, .b, .o 1, .o 0, .o 0, .o 1, .b, .b, .b, .o 1, .b, .o 1, .b, .o 1, .b, .b, .b, .b, .b, .b, .b, .b, .o 1, .b, .b, .b, .b, .b, .o 1, .b, .o 1, .o 0, .o 0, .o 1, .b, .b, .b, .o 1, .b, .o 1, .b, .o 1, .b, .b, .b, .b, .b, .b, .b, .b, .o 1, .b, .b, .b, .b, .b, .o 1, .b, .o 1, .o 0, .o 0, .o 1, .b, .b, .b, .o 1, .b, .o 1, .b, .o 1, .b, .b, .b, .b, .b, .b, .b, .b, .o 1, .b, .b, .b, .b, .b, .o 1, .b, .o 1, .b, .b, .b, .b, .b, .b, .b, .b, .b, .b, .b, .b, .b, .b, .b, .b, .b, .b, .b, .b, .b, .b, .b, .b, .b, .b, .b, .b, .o 0, .b, .o 0, .b, .b, .b, .b, .b, .b, .o 0, .o 0, .o 0, .o 0, .o 0, .o 0, .b, .o 0, .o 0, .o 1, .b, .b, .b, .o 1, .b, .o 1, .b, .o 1, .b, .b, .b, .o 1, .b, .o 2, .o 2, .o 2, .o 0, .o 0, .o 1, .b, .b, .b, .o 1, .b, .o 1, .b, .o 1, .b, .b, .b, .o 1, .b, .o 2, .o 2, .o 2, .s 17 0]
noncomputable def PTbo1_sp (w : World) (s₀ : Shared) (b1 b2 : Bool) (A : LA) (z : Addr) (k6 : Result → Sem Fin) (v : LV) (r tl : SV) (ns ks cs ps chs : Array Value) (j : Nat) (tk : Tok) (n : Int) (tn : Tok) (u : Addr) (sg : Nat) (τ : Nat → Nat → Tok) (ν : Nat → Nat) (N T G : Nat) : List Spec := [spV (II "int.__mod__" (n) tn (6) (T + 2)) (.int ((n).fmod (6))) 1,
  spV (callB "str.__getitem__" [.str (⟨⟨[97, 98, 55, 32, 46, 10]⟩⟩) 501, .int (((n).fmod (6))) (T + 3)]) (.str ⟨⟨[sg]⟩⟩) 1,
  spV (II "int.__mul__" (7) (T + 6) (((j : Nat) : Int)) (τ 13 0)) (.int ((7) * (((j : Nat) : Int)))) 1,
  spV (II "int.__floordiv__" (n) tn (6) (T + 8)) (.int ((n).fdiv (6))) 1,
  spV (II "int.__add__" (((7) * (((j : Nat) : Int)))) (T + 7) (((n).fdiv (6))) (T + 9)) (.int ((((7) * (((j : Nat) : Int)))) + (((n).fdiv (6))))) 1,
  spV (II "int.__mod__" (((((7) * (((j : Nat) : Int)))) + (((n).fdiv (6))))) (T + 10) (23) (T + 11)) (.int ((((((7) * (((j : Nat) : Int)))) + (((n).fdiv (6))))).fmod (23))) 1,
  spV (II "int.__add__" (((((((7) * (((j : Nat) : Int)))) + (((n).fdiv (6))))).fmod (23))) (T + 12) (1) (T + 13)) (.int ((((((((7) * (((j : Nat) : Int)))) + (((n).fdiv (6))))).fmod (23))) + (1))) 1,
  spV (II "int.__mul__" (5) (T + 15) (((j : Nat) : Int)) (τ 13 0)) (.int ((5) * (((j : Nat) : Int)))) 1,
  spV (II "int.__floordiv__" (n) tn (11) (T + 17)) (.int ((n).fdiv (11))) 1,
  spV (II "int.__add__" (((5) * (((j : Nat) : Int)))) (T + 16) (((n).fdiv (11))) (T + 18)) (.int ((((5) * (((j : Nat) : Int)))) + (((n).fdiv (11))))) 1,
  spV (II "int.__mod__" (((((5) * (((j : Nat) : Int)))) + (((n).fdiv (11))))) (T + 19) (31) (T + 20)) (.int ((((((5) * (((j : Nat) : Int)))) + (((n).fdiv (11))))).fmod (31))) 1,
  spV (II "int.__add__" (((((((5) * (((j : Nat) : Int)))) + (((n).fdiv (11))))).fmod (31))) (T + 21) (1) (T + 22)) (.int ((((((((5) * (((j : Nat) : Int)))) + (((n).fdiv (11))))).fmod (31))) + (1))) 1,
  spV (II "int.__floordiv__" (n) tn (9) (T + 27)) (.int ((n).fdiv (9))) 1,
  spV (II "int.__add__" (((j : Nat) : Int)) (τ 13 0) (((n).fdiv (9))) (T + 28)) (.int ((((j : Nat) : Int)) + (((n).fdiv (9))))) 1,
  spV (II "int.__mod__" (((((j : Nat) : Int)) + (((n).fdiv (9))))) (T + 29) 3 (T + 30)) (.int 1) 1,
  spV (SS "str.__add__" ⟨⟨[]⟩⟩ tk (⟨⟨[sg]⟩⟩) (T + 4)) (.raw (.str (⟨⟨[sg]⟩⟩) (T + 4))) 0,
  spPush v.pls 19 ps (ν 9) (.ref (N + 9)),
  spPush A.cl 26 chs (ν 10) (.ref (N + 14))]
theorem PTbo1_r (w : World) (s₀ : Shared) (b1 b2 : Bool) (A : LA) (z : Addr) (k6 : Result → Sem Fin) (v : LV) (r tl : SV) (ns ks cs ps chs : Array Value) (j : Nat) (tk : Tok) (n : Int) (tn : Tok) (u : Addr) (sg : Nat)  (p : Pos) (τ : Nat → Nat → Tok) (ν : Nat → Nat) (N T G : Nat) :
  EndsQ w.params (run ((K5 w s₀ b1 b2).V [] N T G (PTbo1_sp w s₀ b1 b2 A z k6 v r tl ns ks cs ps chs j tk n tn u sg τ ν N T G)) 707 (tUx (V0 w.params 0) (cF2 w.params A z) (z + 3) u) (cF2 w.params A z) p (fsF2 w.params A k6 z) (memOf w.params τ ν 0 ((enD (z + 3) (z + 2) .none (j + 1) (intD (some n)) ++ p2C A z (l0P A v r tl) v ⟨⟨[]⟩⟩ tk ns ks cs ps chs (j + 1)) ++ tupD u [.int ((j : Nat) : Int), .raw (.int n tn)])) 0 0 [] 0 PTbo1_h []) [16, 17, 18, 19, 20, 21, 22, 23, 24, 25, 26, 27, 28, 6, 1, 2, 4, 5]
    (denF (cF2 w.params A z)) (cF2 w.params A z) (fsF2 w.params A k6 z) ((enD (z + 3) (z + 2) .none (j + 1) (intD (some n)) ++ p2C A z (l0E A (⟨v.size, j, n, v.msk, v.hh, v.pls, ⟨⟨[sg]⟩⟩, filOf 1, colOf n j, rowOf n j⟩ : LV) r tl) (⟨v.size, j, n, v.msk, v.hh, v.pls, ⟨⟨[sg]⟩⟩, filOf 1, colOf n j, rowOf n j⟩ : LV) ⟨⟨[sg]⟩⟩ (T + 4) ns ks cs (ps.push (.ref (N + 9))) (chs.push (.ref (N + 14))) (j + 1)) ++ (tupD (N + 9) [.int (rowOf n j), .int (colOf n j), .str (filOf 1)] ++ (chD (N + 14) (N + 13) (N + 11) ⟨⟨[sg]⟩⟩ ++ locD (⟨(N + 14), (N + 13), (N + 11), (N + 10), sg, rowOf n j, colOf n j, filOf 1⟩ : Ch)))) [] := by
  cases b1 <;> (unfold EndsQ; kernel_rfl)
theorem PTbo1 (w : World) (s₀ : Shared) (b1 b2 : Bool) (Y : Sys (K5 w s₀ b1 b2)) (A : LA) (z : Addr) (k6 : Result → Sem Fin) (v : LV) (r tl : SV) (ns ks cs ps chs : Array Value) (j : Nat) (tk : Tok) (n : Int) (tn : Tok) (u : Addr) (sg : Nat)  (h0 : CharAt (⟨⟨[97, 98, 55, 32, 46, 10]⟩⟩) (((n).fmod (6))) sg) (h1 : (((((j : Nat) : Int)) + (((n).fdiv (9))))).fmod 3 = 1) (h2 : ps.size ≤ sizeLine) (h3 : chs.size ≤ sizeLine) {L : DM} {s : Shared} {p : Pos} (S : StD (K5 w s₀ b1 b2) ((enD (z + 3) (z + 2) .none (j + 1) (intD (some n)) ++ p2C A z (l0P A v r tl) v ⟨⟨[]⟩⟩ tk ns ks cs ps chs (j + 1)) ++ tupD u [.int ((j : Nat) : Int), .raw (.int n tn)] ++ L) [] s)
    (next : ∀ (τ : Nat → Nat → Tok) (N T G : Nat) (s' : Shared) (p' : Pos), (K5 w s₀ b1 b2).B ≤ N → N ≤ s'.heap.objs.size → StD (K5 w s₀ b1 b2) ((enD (z + 3) (z + 2) .none (j + 1) (intD (some n)) ++ p2C A z (l0E A (⟨v.size, j, n, v.msk, v.hh, v.pls, ⟨⟨[sg]⟩⟩, filOf 1, colOf n j, rowOf n j⟩ : LV) r tl) (⟨v.size, j, n, v.msk, v.hh, v.pls, ⟨⟨[sg]⟩⟩, filOf 1, colOf n j, rowOf n j⟩ : LV) ⟨⟨[sg]⟩⟩ (T + 4) ns ks cs (ps.push (.ref (N + 9))) (chs.push (.ref (N + 14))) (j + 1)) ++ (tupD (N + 9) [.int (rowOf n j), .int (colOf n j), .str (filOf 1)] ++ (chD (N + 14) (N + 13) (N + 11) ⟨⟨[sg]⟩⟩ ++ locD (⟨(N + 14), (N + 13), (N + 11), (N + 10), sg, rowOf n j, colOf n j, filOf 1⟩ : Ch))) ++ L) [] s' → Y.H s' ⟨denF (cF2 w.params A z), cF2 w.params A z, p', fsF2 w.params A k6 z⟩) : Y.H s ⟨tUx (V0 w.params 0) (cF2 w.params A z) (z + 3) u, cF2 w.params A z, p, fsF2 w.params A k6 z⟩ :=
  Y.seg (t' := fun τ N T G => denF (cF2 w.params A z)) (c' := fun N T G => cF2 w.params A z) (fs' := fun N T G => fsF2 w.params A k6 z) (d' := fun N T G => (enD (z + 3) (z + 2) .none (j + 1) (intD (some n)) ++ p2C A z (l0E A (⟨v.size, j, n, v.msk, v.hh, v.pls, ⟨⟨[sg]⟩⟩, filOf 1, colOf n j, rowOf n j⟩ : LV) r tl) (⟨v.size, j, n, v.msk, v.hh, v.pls, ⟨⟨[sg]⟩⟩, filOf 1, colOf n j, rowOf n j⟩ : LV) ⟨⟨[sg]⟩⟩ (T + 4) ns ks cs (ps.push (.ref (N + 9))) (chs.push (.ref (N + 14))) (j + 1)) ++ (tupD (N + 9) [.int (rowOf n j), .int (colOf n j), .str (filOf 1)] ++ (chD (N + 14) (N + 13) (N + 11) ⟨⟨[sg]⟩⟩ ++ locD (⟨(N + 14), (N + 13), (N + 11), (N + 10), sg, rowOf n j, colOf n j, filOf 1⟩ : Ch)))) (gm' := fun N T G => []) S (by decide) (PTbo1_sp w s₀ b1 b2 A z k6 v r tl ns ks cs ps chs j tk n tn u sg) (PTbo1_r w s₀ b1 b2 A z k6 v r tl ns ks cs ps chs j tk n tn u sg  p) (fun τ ν N T G => .cons (okv (sok_mod _ _ _ _ (by decide))) (.cons (okv (sok_sget _ _ _ _ _ h0)) (.cons (okv (sok_mul _ _ _ _ (IntMulOk.of_left (by decide)))) (.cons (okv (sok_div _ _ _ _ (by decide) (div_small _ _ (by decide)))) (.cons (okv (sok_add _ _ _ _ )) (.cons (okv (sok_mod _ _ _ _ (by decide))) (.cons (okv (sok_add _ _ _ _ )) (.cons (okv (sok_mul _ _ _ _ (IntMulOk.of_left (by decide)))) (.cons (okv (sok_div _ _ _ _ (by decide) (div_small _ _ (by decide)))) (.cons (okv (sok_add _ _ _ _ )) (.cons (okv (sok_mod _ _ _ _ (by decide))) (.cons (okv (sok_add _ _ _ _ )) (.cons (okv (sok_div _ _ _ _ (by decide) (div_small _ _ (by decide)))) (.cons (okv (sok_add _ _ _ _ )) (.cons (okv (h1 ▸ sok_mod _ _ _ _ (by decide))) (.cons (okv (sok_sadd0 _ _ _)) (.cons (ok1 rfl rfl rfl (sok_push _ _ _ _ _ h2)) (.cons (ok1 rfl rfl rfl (sok_push _ _ _ _ _ h3)) (AllOk.nil))))))))))))))))))) next

noncomputable def PTbf2_h : List Hint := [.o 13, .o 13, .o 13, .o 13, .o 0, .o 0, .o 0, .o 0, .o 0, .o 14, .o 0, .o 0, .o 0, .o 0, .o 0, .o 0, .o 14, .o 0, .o 0, .o 0, .o 0, .o 0, .o 0, .o 14, .o 0, .o 0, .o 0, .o 4, .o 4, .o 4, .o 4, .b, .o 4, .s 0 0, .s 1 0, .o 4, .o 4, .o 4, .s 2 0, .o 4, .s 3 0, .s 4 0, .s 5 0, .s 6 0, .o 4, .s 7 0, .o 4, .s 8 0, .s 9 0, .s 10 0, .s 11 0, .b, .b, .b, .b, .b, .o 6, .o 6, .s 12 0, .s 13 0, .s 14 0, .o 0, .o 0, .o 0, .o 0, .o 0, .o 0, .o 0, .o 0, .o 0, .o 0, .o 0, .o 0, .o 0, .o 0, .o 1, .o 0, .o 0, .o 0, .o 0, .o 0, .o 0, .o 1, .o 0, .o 0, .o 0, .o 0, .o 0, .o 0, .o 1, .o 0, .o 0, .o 0, .o 0, .o 0, .o 0, .o 1, .o 0, .o 0, .o 0, .o 10, .o 10, .o 10, .o 10, .o 10, .o 10, .o 11, .o 10, .s 15 0, .o 11, .o 11, .o 10, .o 18, .o 18, .o 18, .o 18, .o 10, .o 10, .o 10, .s 16 0, .o 11, .o 20, .o 20, .o 20, .o 20, .b, .o 11, .b, .o 11, .o 11, .o 11, .b, .b, .b, .b, .b, .b, .b, .b, .b, .b, .b, .b, .b, .b, .b, .b, .b, .b, .b, .b, .b, .b, .b, .b, .b, .b, .b, .b, .o 0, .b, .o 0, .b, .b, .b, .b, .b, .b, .b, .o 0, .o 0, .o 0, .o 0, .o 0, .o 0, .o 0, .o 0, .o 0, .o 0, .o 0, .o 0, .b, .o 0, .o 0, .o 1, .b, .b, .b, .o 1, .b, .o 1, .b, .o 1, .b, .b, .b, .b, .b, .b, .b, .b, .o 1, .b, .b, .b, .b, .b, .o 1, .b, .o 1, .o 0, .o 0, .o 1, .b, .b, .b, .o 1, .b, .o 1, .b, .o 1, .b, .b, .b, .b, .b, .b, .b, .b, .o 1, .b, .b, .b, .b, .b, .o 1, .b, .o 1, .o 0, .o 0, .o 1, .b, .b, .b, .o 1, .b, .o 1, .b, .o 1, .b, .b, .b, .b, .b, .b, .b, .b, .o 1, .b, .b, .b, .b, .b, .o 1, .b, .o 1, .o 0, .o 0, .o 1, .b, .b, .b, .o 1, .b, .o 1, .b, .o 1, .b, .b, .b, .b, .b, .b, .b, .b, .o 1, .b, .b, .b, .b, .b, .o 1, .b, .o 1, .o 0, .o 0, .o 1, .b, .b, .b, .o 1, .b, .o 1, .b, .o 1, .b, .b, .b, .b, .b, .b, .b, .b, .o 1, .b, .b, .b, .b, .b, .o 1, .b, .o 1, .b, .b, .b, .b, .b, .b, .b, .b, .b, .b, .b, .b, .b, .b, .b, .b, .b, .b, .b, .b, .b, .b, .b, .b, .b, .b, .b, .b, .o 0, .b, .o 0, .b, .b, .b, .b, .b, .b, .o 0, .o 0, .o 0, .o 0, .o 0, .o 0, .b, .o 0, .o 0, .o 1, .b, .b, .b, .o 1, .b, .o 1, .b, .o 1, .b, .b, .b, .o 1, .b, .o 2, .o 2, .o 2, .o 0, .o 0, .o 1, .b, .b, .b, .o 1, .b, .o 1, .b, .o 1, .b, .b, .b, .o 1, .b, .o 2, .o 2, .o 2, .s 17 0]
noncomputable def PTbf2_sp (w : World) (s₀ : Shared) (b1 b2 : Bool) (A : LA) (z : Addr) (k6 : Result → Sem Fin) (v : LV) (r tl : SV) (ns ks cs ps chs : Array Value) (j : Nat) (tx : Str) (tk : Tok) (n : Int) (tn : Tok) (u : Addr) (sg : Nat) (τ : Nat → Nat → Tok) (ν : Nat → Nat) (N T G : Nat) : List Spec := [spV (II "int.__mod__" (n) tn (6) (T + 2)) (.int ((n).fmod (6))) 1,
  spV (callB "str.__getitem__" [.str (⟨⟨[97, 98, 55, 32, 46, 10]⟩⟩) 501, .int (((n).fmod (6))) (T + 3)]) (.str ⟨⟨[sg]⟩⟩) 1,
  spV (II "int.__mul__" (7) (T + 6) (((j : Nat) : Int)) (τ 13 0)) (.int ((7) * (((j : Nat) : Int)))) 1,
  spV (II "int.__floordiv__" (n) tn (6) (T + 8)) (.int ((n).fdiv (6))) 1,
  spV (II "int.__add__" (((7) * (((j : Nat) : Int)))) (T + 7) (((n).fdiv (6))) (T + 9)) (.int ((((7) * (((j : Nat) : Int)))) + (((n).fdiv (6))))) 1,
  spV (II "int.__mod__" (((((7) * (((j : Nat) : Int)))) + (((n).fdiv (6))))) (T + 10) (23) (T + 11)) (.int ((((((7) * (((j : Nat) : Int)))) + (((n).fdiv (6))))).fmod (23))) 1,
  spV (II "int.__add__" (((((((7) * (((j : Nat) : Int)))) + (((n).fdiv (6))))).fmod (23))) (T + 12) (1) (T + 13)) (.int ((((((((7) * (((j : Nat) : Int)))) + (((n).fdiv (6))))).fmod (23))) + (1))) 1,
  spV (II "int.__mul__" (5) (T + 15) (((j : Nat) : Int)) (τ 13 0)) (.int ((5) * (((j : Nat) : Int)))) 1,
  spV (II "int.__floordiv__" (n) tn (11) (T + 17)) (.int ((n).fdiv (11))) 1,
  spV (II "int.__add__" (((5) * (((j : Nat) : Int)))) (T + 16) (((n).fdiv (11))) (T + 18)) (.int ((((5) * (((j : Nat) : Int)))) + (((n).fdiv (11))))) 1,
  spV (II "int.__mod__" (((((5) * (((j : Nat) : Int)))) + (((n).fdiv (11))))) (T + 19) (31) (T + 20)) (.int ((((((5) * (((j : Nat) : Int)))) + (((n).fdiv (11))))).fmod (31))) 1,
  spV (II "int.__add__" (((((((5) * (((j : Nat) : Int)))) + (((n).fdiv (11))))).fmod (31))) (T + 21) (1) (T + 22)) (.int ((((((((5) * (((j : Nat) : Int)))) + (((n).fdiv (11))))).fmod (31))) + (1))) 1,
  spV (II "int.__floordiv__" (n) tn (9) (T + 27)) (.int ((n).fdiv (9))) 1,
  spV (II "int.__add__" (((j : Nat) : Int)) (τ 13 0) (((n).fdiv (9))) (T + 28)) (.int ((((j : Nat) : Int)) + (((n).fdiv (9))))) 1,
  spV (II "int.__mod__" (((((j : Nat) : Int)) + (((n).fdiv (9))))) (T + 29) 3 (T + 30)) (.int 2) 1,
  spV (SS "str.__add__" (tx) tk (⟨⟨[sg]⟩⟩) (T + 4)) (.str ((tx) ++ (⟨⟨[sg]⟩⟩))) 1,
  spPush v.pls 19 ps (ν 9) (.ref (N + 9)),
  spPush A.cl 26 chs (ν 10) (.ref (N + 14))]
theorem PTbf2_r (w : World) (s₀ : Shared) (b1 b2 : Bool) (A : LA) (z : Addr) (k6 : Result → Sem Fin) (v : LV) (r tl : SV) (ns ks cs ps chs : Array Value) (j : Nat) (tx : Str) (tk : Tok) (n : Int) (tn : Tok) (u : Addr) (sg : Nat)  (p : Pos) (τ : Nat → Nat → Tok) (ν : Nat → Nat) (N T G : Nat) :
  EndsQ w.params (run ((K5 w s₀ b1 b2).V [] N T G (PTbf2_sp w s₀ b1 b2 A z k6 v r tl ns ks cs ps chs j tx tk n tn u sg τ ν N T G)) 707 (tUx (V0 w.params 0) (cF2 w.params A z) (z + 3) u) (cF2 w.params A z) p (fsF2 w.params A k6 z) (memOf w.params τ ν 0 ((enD (z + 3) (z + 2) .none (j + 1) (intD (some n)) ++ p2C A z (l0E A v r tl) v tx tk ns ks cs ps chs (j + 1)) ++ tupD u [.int ((j : Nat) : Int), .raw (.int n tn)])) 0 0 [] 0 PTbf2_h []) [16, 17, 18, 19, 20, 21, 22, 23, 24, 25, 26, 27, 28, 6, 1, 2, 4, 5]
    (denF (cF2 w.params A z)) (cF2 w.params A z) (fsF2 w.params A k6 z) ((enD (z + 3) (z + 2) .none (j + 1) (intD (some n)) ++ p2C A z (l0E A (⟨v.size, j, n, v.msk, v.hh, v.pls, ⟨⟨[sg]⟩⟩, filOf 2, colOf n j, rowOf n j⟩ : LV) r tl) (⟨v.size, j, n, v.msk, v.hh, v.pls, ⟨⟨[sg]⟩⟩, filOf 2, colOf n j, rowOf n j⟩ : LV) (tx ++ (⟨⟨[sg]⟩⟩ : Str)) (T + 35) ns ks cs (ps.push (.ref (N + 9))) (chs.push (.ref (N + 14))) (j + 1)) ++ (tupD (N + 9) [.int (rowOf n j), .int (colOf n j), .str (filOf 2)] ++ (chD (N + 14) (N + 13) (N + 11) ⟨⟨[sg]⟩⟩ ++ locD (⟨(N + 14), (N + 13), (N + 11), (N + 10), sg, rowOf n j, colOf n j, filOf 2⟩ : Ch)))) [] := by
  cases b1 <;> (unfold EndsQ; kernel_rfl)
theorem PTbf2 (w : World) (s₀ : Shared) (b1 b2 : Bool) (Y : Sys (K5 w s₀ b1 b2)) (A : LA) (z : Addr) (k6 : Result → Sem Fin) (v : LV) (r tl : SV) (ns ks cs ps chs : Array Value) (j : Nat) (tx : Str) (tk : Tok) (n : Int) (tn : Tok) (u : Addr) (sg : Nat)  (h0 : CharAt (⟨⟨[97, 98, 55, 32, 46, 10]⟩⟩) (((n).fmod (6))) sg) (h1 : (((((j : Nat) : Int)) + (((n).fdiv (9))))).fmod 3 = 2) (h2 : ((tx).length == 0) = false) (h3 : ((tx) ++ (⟨⟨[sg]⟩⟩)).length ≤ sizeLine) (h4 : ps.size ≤ sizeLine) (h5 : chs.size ≤ sizeLine) {L : DM} {s : Shared} {p : Pos} (S : StD (K5 w s₀ b1 b2) ((enD (z + 3) (z + 2) .none (j + 1) (intD (some n)) ++ p2C A z (l0E A v r tl) v tx tk ns ks cs ps chs (j + 1)) ++ tupD u [.int ((j : Nat) : Int), .raw (.int n tn)] ++ L) [] s)
    (next : ∀ (τ : Nat → Nat → Tok) (N T G : Nat) (s' : Shared) (p' : Pos), (K5 w s₀ b1 b2).B ≤ N → N ≤ s'.heap.objs.size → StD (K5 w s₀ b1 b2) ((enD (z + 3) (z + 2) .none (j + 1) (intD (some n)) ++ p2C A z (l0E A (⟨v.size, j, n, v.msk, v.hh, v.pls, ⟨⟨[sg]⟩⟩, filOf 2, colOf n j, rowOf n j⟩ : LV) r tl) (⟨v.size, j, n, v.msk, v.hh, v.pls, ⟨⟨[sg]⟩⟩, filOf 2, colOf n j, rowOf n j⟩ : LV) (tx ++ (⟨⟨[sg]⟩⟩ : Str)) (T + 35) ns ks cs (ps.push (.ref (N + 9))) (chs.push (.ref (N + 14))) (j + 1)) ++ (tupD (N + 9) [.int (rowOf n j), .int (colOf n j), .str (filOf 2)] ++ (chD (N + 14) (N + 13) (N + 11) ⟨⟨[sg]⟩⟩ ++ locD (⟨(N + 14), (N + 13), (N + 11), (N + 10), sg, rowOf n j, colOf n j, filOf 2⟩ : Ch))) ++ L) [] s' → Y.H s' ⟨denF (cF2 w.params A z), cF2 w.params A z, p', fsF2 w.params A k6 z⟩) : Y.H s ⟨tUx (V0 w.params 0) (cF2 w.params A z) (z + 3) u, cF2 w.params A z, p, fsF2 w.params A k6 z⟩ :=
  Y.seg (t' := fun τ N T G => denF (cF2 w.params A z)) (c' := fun N T G => cF2 w.params A z) (fs' := fun N T G => fsF2 w.params A k6 z) (d' := fun N T G => (enD (z + 3) (z + 2) .none (j + 1) (intD (some n)) ++ p2C A z (l0E A (⟨v.size, j, n, v.msk, v.hh, v.pls, ⟨⟨[sg]⟩⟩, filOf 2, colOf n j, rowOf n j⟩ : LV) r tl) (⟨v.size, j, n, v.msk, v.hh, v.pls, ⟨⟨[sg]⟩⟩, filOf 2, colOf n j, rowOf n j⟩ : LV) (tx ++ (⟨⟨[sg]⟩⟩ : Str)) (T + 35) ns ks cs (ps.push (.ref (N + 9))) (chs.push (.ref (N + 14))) (j + 1)) ++ (tupD (N + 9) [.int (rowOf n j), .int (colOf n j), .str (filOf 2)] ++ (chD (N + 14) (N + 13) (N + 11) ⟨⟨[sg]⟩⟩ ++ locD (⟨(N + 14), (N + 13), (N + 11), (N + 10), sg, rowOf n j, colOf n j, filOf 2⟩ : Ch)))) (gm' := fun N T G => []) S (by decide) (PTbf2_sp w s₀ b1 b2 A z k6 v r tl ns ks cs ps chs j tx tk n tn u sg) (PTbf2_r w s₀ b1 b2 A z k6 v r tl ns ks cs ps chs j tx tk n tn u sg  p) (fun τ ν N T G => .cons (okv (sok_mod _ _ _ _ (by decide))) (.cons (okv (sok_sget _ _ _ _ _ h0)) (.cons (okv (sok_mul _ _ _ _ (IntMulOk.of_left (by decide)))) (.cons (okv (sok_div _ _ _ _ (by decide) (div_small _ _ (by decide)))) (.cons (okv (sok_add _ _ _ _ )) (.cons (okv (sok_mod _ _ _ _ (by decide))) (.cons (okv (sok_add _ _ _ _ )) (.cons (okv (sok_mul _ _ _ _ (IntMulOk.of_left (by decide)))) (.cons (okv (sok_div _ _ _ _ (by decide) (div_small _ _ (by decide)))) (.cons (okv (sok_add _ _ _ _ )) (.cons (okv (sok_mod _ _ _ _ (by decide))) (.cons (okv (sok_add _ _ _ _ )) (.cons (okv (sok_div _ _ _ _ (by decide) (div_small _ _ (by decide)))) (.cons (okv (sok_add _ _ _ _ )) (.cons (okv (h1 ▸ sok_mod _ _ _ _ (by decide))) (.cons (okv (sok_sadd _ _ _ _ h2 rfl h3)) (.cons (ok1 rfl rfl rfl (sok_push _ _ _ _ _ h4)) (.cons (ok1 rfl rfl rfl (sok_push _ _ _ _ _ h5)) (AllOk.nil))))))))))))))))))) next

noncomputable def PTbo2_h : List Hint := [.o 13, .o 13, .o 13, .o 13, .o 0, .o 0, .o 0, .o 0, .o 0, .o 14, .o 0, .o 0, .o 0, .o 0, .o 0, .o 0, .o 14, .o 0, .o 0, .o 0, .o 0, .o 0, .o 0, .o 14, .o 0, .o 0, .o 0, .o 4, .o 4, .o 4, .o 4, .b, .o 4, .s 0 0, .s 1 0, .o 4, .o 4, .o 4, .s 2 0, .o 4, .s 3 0, .s 4 0, .s 5 0, .s 6 0, .o 4, .s 7 0, .o 4, .s 8 0, .s 9 0, .s 10 0, .s 11 0, .b, .b, .b, .b, .b, .o 6, .o 6, .s 12 0, .s 13 0, .s 14 0, .o 0, .o 0, .o 0, .o 0, .o 0, .o 0, .o 0, .o 0, .o 0, .o 0, .o 0, .o 0, .o 0, .o 0, .o 1, .o 0, .o 0, .o 0, .o 0, .o 0, .o 0, .o 1, .o 0, .o 0, .o 0, .o 0, .o 0, .o 0, .o 1, .o 0, .o 0, .o 0, .o 0, .o 0, .o 0, .o 1, .o 0, .o 0, .o 0, .o 10, .o 10, .o 10, .o 10, .o 10, .o 10, .o 11, .o 10, .s 15 0, .o 11, .o 11, .o 10, .o 18, .o 18, .o 18, .o 18, .o 10, .o 10, .o 10, .s 16 0, .o 11, .o 20, .o 20, .o 20, .o 20, .b, .o 11, .b, .o 11, .o 11, .o 11, .b, .b, .b, .b, .b, .b, .b, .b, .b, .b, .b, .b, .b, .b, .b, .b, .b, .b, .b, .b, .b, .b, .b, .b, .b, .b, .b, .b, .o 0, .b, .o 0, .b, .b, .b, .b, .b, .b, .b, .o 0, .o 0, .o 0, .o 0, .o 0, .o 0, .o 0, .o 0, .o 0, .o 0, .o 0, .o 0, .b, .o 0, .o 0, .o 1, .b, .b, .b, .o 1, .b, .o 1, .b, .o 1, .b, .b, .b, .b, .b, .b, .b, .b, .o 1, .b, .b, .b, .b, .b, .o 1, .b, .o 1, .o 0, .o 0, .o 1, .b, .b, .b, .o 1, .b, .o 1, .b, .o 1, .b, .b, .b, .b, .b, .b, .b, .b, .o 1, .b, .b, .b, .b, .b, .o 1, .b, .o 1, .o 0, .o 0, .o 1, .b, .b, .b, .o 1, .b, .o 1, .b, .o 1, .b, .b, .b, .b, .b, .b, .b, .b, .o 1, .b, .b, .b, .b, .b, .o 1, .b, .o 1, .o 0, .o 0, .o 1, .b, .b, .b, .o 1, .b, .o 1, .b, .o 1, .b, .b, .b, .b, .b, .b, .b, .b, .o 1, .b, .b, .b, .b, .b, .o 1, .b, .o 1, .o 0, .o 0, .o 1, .b, .b, .b, .o 1, .b, .o 1, .b, .o 1, .b, .b, .b, .b, .b, .b, .b, .b, .o 1, .b, .b, .b, .b, .b, .o 1, .b, .o 1, .b, .b, .b, .b, .b, .b, .b, .b, .b, .b, .b, .b, .b, .b, .b, .b, .b, .b, .b, .b, .b, .b, .b, .b, .b, .b, .b, .b, .o 0, .b, .o 0, .b, .b, .b, .b, .b, .b, .o 0, .o 0, .o 0, .o 0, .o 0, .o 0, .b, .o 0, .o 0, .o 1, .b, .b, .b, .o 1, .b, .o 1, .b, .o 1, .b, .b, .b, .o 1, .b, .o 2, .o 2, .o 2, .o 0, .o 0, .o 1, .b, .b, .b, .o 1, .b, .o 1, .b, .o 1, .b, .b, .b, .o 1, .b, .o 2, .o 2, .o 2, .s 17 0]
noncomputable def PTbo2_sp (w : World) (s₀ : Shared) (b1 b2 : Bool) (A : LA) (z : Addr) (k6 : Result → Sem Fin) (v : LV) (r tl : SV) (ns ks cs ps chs : Array Value) (j : Nat) (tk : Tok) (n : Int) (tn : Tok) (u : Addr) (sg : Nat) (τ : Nat → Nat → Tok) (ν : Nat → Nat) (N T G : Nat) : List Spec := [spV (II "int.__mod__" (n) tn (6) (T + 2)) (.int ((n).fmod (6))) 1,
  spV (callB "str.__getitem__" [.str (⟨⟨[97, 98, 55, 32, 46, 10]⟩⟩) 501, .int (((n).fmod (6))) (T + 3)]) (.str ⟨⟨[sg]⟩⟩) 1,
  spV (II "int.__mul__" (7) (T + 6) (((j : Nat) : Int)) (τ 13 0)) (.int ((7) * (((j : Nat) : Int)))) 1,
  spV (II "int.__floordiv__" (n) tn (6) (T + 8)) (.int ((n).fdiv (6))) 1,
  spV (II "int.__add__" (((7) * (((j : Nat) : Int)))) (T + 7) (((n).fdiv (6))) (T + 9)) (.int ((((7) * (((j : Nat) : Int)))) + (((n).fdiv (6))))) 1,
  spV (II "int.__mod__" (((((7) * (((j : Nat) : Int)))) + (((n).fdiv (6))))) (T + 10) (23) (T + 11)) (.int ((((((7) * (((j : Nat) : Int)))) + (((n).fdiv (6))))).fmod (23))) 1,
  spV (II "int.__add__" (((((((7) * (((j : Nat) : Int)))) + (((n).fdiv (6))))).fmod (23))) (T + 12) (1) (T + 13)) (.int ((((((((7) * (((j : Nat) : Int)))) + (((n).fdiv (6))))).fmod (23))) + (1))) 1,
  spV (II "int.__mul__" (5) (T + 15) (((j : Nat) : Int)) (τ 13 0)) (.int ((5) * (((j : Nat) : Int)))) 1,
  spV (II "int.__floordiv__" (n) tn (11) (T + 17)) (.int ((n).fdiv (11))) 1,
  spV (II "int.__add__" (((5) * (((j : Nat) : Int)))) (T + 16) (((n).fdiv (11))) (T + 18)) (.int ((((5) * (((j : Nat) : Int)))) + (((n).fdiv (11))))) 1,
  spV (II "int.__mod__" (((((5) * (((j : Nat) : Int)))) + (((n).fdiv (11))))) (T + 19) (31) (T + 20)) (.int ((((((5) * (((j : Nat) : Int)))) + (((n).fdiv (11))))).fmod (31))) 1,
  spV (II "int.__add__" (((((((5) * (((j : Nat) : Int)))) + (((n).fdiv (11))))).fmod (31))) (T + 21) (1) (T + 22)) (.int ((((((((5) * (((j : Nat) : Int)))) + (((n).fdiv (11))))).fmod (31))) + (1))) 1,
  spV (II "int.__floordiv__" (n) tn (9) (T + 27)) (.int ((n).fdiv (9))) 1,
  spV (II "int.__add__" (((j : Nat) : Int)) (τ 13 0) (((n).fdiv (9))) (T + 28)) (.int ((((j : Nat) : Int)) + (((n).fdiv (9))))) 1,
  spV (II "int.__mod__" (((((j : Nat) : Int)) + (((n).fdiv (9))))) (T + 29) 3 (T + 30)) (.int 2) 1,
  spV (SS "str.__add__" ⟨⟨[]⟩⟩ tk (⟨⟨[sg]⟩⟩) (T + 4)) (.raw (.str (⟨⟨[sg]⟩⟩) (T + 4))) 0,
  spPush v.pls 19 ps (ν 9) (.ref (N + 9)),
  spPush A.cl 26 chs (ν 10) (.ref (N + 14))]
theorem PTbo2_r (w : World) (s₀ : Shared) (b1 b2 : Bool) (A : LA) (z : Addr) (k6 : Result → Sem Fin) (v : LV) (r tl : SV) (ns ks cs ps chs : Array Value) (j : Nat) (tk : Tok) (n : Int) (tn : Tok) (u : Addr) (sg : Nat)  (p : Pos) (τ : Nat → Nat → Tok) (ν : Nat → Nat) (N T G : Nat) :
  EndsQ w.params (run ((K5 w s₀ b1 b2).V [] N T G (PTbo2_sp w s₀ b1 b2 A z k6 v r tl ns ks cs ps chs j tk n tn u sg τ ν N T G)) 707 (tUx (V0 w.params 0) (cF2 w.params A z) (z + 3) u) (cF2 w.params A z) p (fsF2 w.params A k6 z) (memOf w.params τ ν 0 ((enD (z + 3) (z + 2) .none (j + 1) (intD (some n)) ++ p2C A z (l0P A v r tl) v ⟨⟨[]⟩⟩ tk ns ks cs ps chs (j + 1)) ++ tupD u [.int ((j : Nat) : Int), .raw (.int n tn)])) 0 0 [] 0 PTbo2_h []) [16, 17, 18, 19, 20, 21, 22, 23, 24, 25, 26, 27, 28, 6, 1, 2, 4, 5]
    (denF (cF2 w.params A z)) (cF2 w.params A z) (fsF2 w.params A k6 z) ((enD (z + 3) (z + 2) .none (j + 1) (intD (some n)) ++ p2C A z (l0E A (⟨v.size, j, n, v.msk, v.hh, v.pls, ⟨⟨[sg]⟩⟩, filOf 2, colOf n j, rowOf n j⟩ : LV) r tl) (⟨v.size, j, n, v.msk, v.hh, v.pls, ⟨⟨[sg]⟩⟩, filOf 2, colOf n j, rowOf n j⟩ : LV) ⟨⟨[sg]⟩⟩ (T + 4) ns ks cs (ps.push (.ref (N + 9))) (chs.push (.ref (N + 14))) (j + 1)) ++ (tupD (N + 9) [.int (rowOf n j), .int (colOf n j), .str (filOf 2)] ++ (chD (N + 14) (N + 13) (N + 11) ⟨⟨[sg]⟩⟩ ++ locD (⟨(N + 14), (N + 13), (N + 11), (N + 10), sg, rowOf n j, colOf n j, filOf 2⟩ : Ch)))) [] := by
  cases b1 <;> (unfold EndsQ; kernel_rfl)
theorem PTbo2 (w : World) (s₀ : Shared) (b1 b2 : Bool) (Y : Sys (K5 w s₀ b1 b2)) (A : LA) (z : Addr) (k6 : Result → Sem Fin) (v : LV) (r tl : SV) (ns ks cs ps chs : Array Value) (j : Nat) (tk : Tok) (n : Int) (tn : Tok) (u : Addr) (sg : Nat)  (h0 : CharAt (⟨⟨[97, 98, 55, 32, 46, 10]⟩⟩) (((n).fmod (6))) sg) (h1 : (((((j : Nat) : Int)) + (((n).fdiv (9))))).fmod 3 = 2) (h2 : ps.size ≤ sizeLine) (h3 : chs.size ≤ sizeLine) {L : DM} {s : Shared} {p : Pos} (S : StD (K5 w s₀ b1 b2) ((enD (z + 3) (z + 2) .none (j + 1) (intD (some n)) ++ p2C A z (l0P A v r tl) v ⟨⟨[]⟩⟩ tk ns ks cs ps chs (j + 1)) ++ tupD u [.int ((j : Nat) : Int), .raw (.int n tn)] ++ L) [] s)
    (next : ∀ (τ : Nat → Nat → Tok) (N T G : Nat) (s' : Shared) (p' : Pos), (K5 w s₀ b1 b2).B ≤ N → N ≤ s'.heap.objs.size → StD (K5 w s₀ b1 b2) ((enD (z + 3) (z + 2) .none (j + 1) (intD (some n)) ++ p2C A z (l0E A (⟨v.size, j, n, v.msk, v.hh, v.pls, ⟨⟨[sg]⟩⟩, filOf 2, colOf n j, rowOf n j⟩ : LV) r tl) (⟨v.size, j, n, v.msk, v.hh, v.pls, ⟨⟨[sg]⟩⟩, filOf 2, colOf n j, rowOf n j⟩ : LV) ⟨⟨[sg]⟩⟩ (T + 4) ns ks cs (ps.push (.ref (N + 9))) (chs.push (.ref (N + 14))) (j + 1)) ++ (tupD (N + 9) [.int (rowOf n j), .int (colOf n j), .str (filOf 2)] ++ (chD (N + 14) (N + 13) (N + 11) ⟨⟨[sg]⟩⟩ ++ locD (⟨(N + 14), (N + 13), (N + 11), (N + 10), sg, rowOf n j, colOf n j, filOf 2⟩ : Ch))) ++ L) [] s' → Y.H s' ⟨denF (cF2 w.params A z), cF2 w.params A z, p', fsF2 w.params A k6 z⟩) : Y.H s ⟨tUx (V0 w.params 0) (cF2 w.params A z) (z + 3) u, cF2 w.params A z, p, fsF2 w.params A k6 z⟩ :=
  Y.seg (t' := fun τ N T G => denF (cF2 w.params A z)) (c' := fun N T G => cF2 w.params A z) (fs' := fun N T G => fsF2 w.params A k6 z) (d' := fun N T G => (enD (z + 3) (z + 2) .none (j + 1) (intD (some n)) ++ p2C A z (l0E A (⟨v.size, j, n, v.msk, v.hh, v.pls, ⟨⟨[sg]⟩⟩, filOf 2, colOf n j, rowOf n j⟩ : LV) r tl) (⟨v.size, j, n, v.msk, v.hh, v.pls, ⟨⟨[sg]⟩⟩, filOf 2, colOf n j, rowOf n j⟩ : LV) ⟨⟨[sg]⟩⟩ (T + 4) ns ks cs (ps.push (.ref (N + 9))) (chs.push (.ref (N + 14))) (j + 1)) ++ (tupD (N + 9) [.int (rowOf n j), .int (colOf n j), .str (filOf 2)] ++ (chD (N + 14) (N + 13) (N + 11) ⟨⟨[sg]⟩⟩ ++ locD (⟨(N + 14), (N + 13), (N + 11), (N + 10), sg, rowOf n j, colOf n j, filOf 2⟩ : Ch)))) (gm' := fun N T G => []) S (by decide) (PTbo2_sp w s₀ b1 b2 A z k6 v r tl ns ks cs ps chs j tk n tn u sg) (PTbo2_r w s₀ b1 b2 A z k6 v r tl ns ks cs ps chs j tk n tn u sg  p) (fun τ ν N T G => .cons (okv (sok_mod _ _ _ _ (by decide))) (.cons (okv (sok_sget _ _ _ _ _ h0)) (.cons (okv (sok_mul _ _ _ _ (IntMulOk.of_left (by decide)))) (.cons (okv (sok_div _ _ _ _ (by decide) (div_small _ _ (by decide)))) (.cons (okv (sok_add _ _ _ _ )) (.cons (okv (sok_mod _ _ _ _ (by decide))) (.cons (okv (sok_add _ _ _ _ )) (.cons (okv (sok_mul _ _ _ _ (IntMulOk.of_left (by decide)))) (.cons (okv (sok_div _ _ _ _ (by decide) (div_small _ _ (by decide)))) (.cons (okv (sok_add _ _ _ _ )) (.cons (okv (sok_mod _ _ _ _ (by decide))) (.cons (okv (sok_add _ _ _ _ )) (.cons (okv (sok_div _ _ _ _ (by decide) (div_small _ _ (by decide)))) (.cons (okv (sok_add _ _ _ _ )) (.cons (okv (h1 ▸ sok_mod _ _ _ _ (by decide))) (.cons (okv (sok_sadd0 _ _ _)) (.cons (ok1 rfl rfl rfl (sok_push _ _ _ _ _ h2)) (.cons (ok1 rfl rfl rfl (sok_push _ _ _ _ _ h3)) (AllOk.nil))))))))))))))))))) next

end Mine
end

section
set_option linter.unusedVariables false
set_option linter.unusedSimpArgs false
set_option maxRecDepth 100000
set_option maxHeartbeats 0
namespace Mine
open PySem PySem.W PySem.W.X

noncomputable def PH_h : List Hint := [.o 0, .o 0, .o 0, .o 12, .s 0 0, .o 0, .b, .b, .b, .b, .b, .b, .b, .b, .b, .b, .b, .b, .b, .b, .b, .b, .b, .b, .b, .b, .b, .b, .b, .b, .o 0, .b, .o 0, .b, .b, .b, .b, .b, .b, .o 0, .o 0, .b, .o 1, .o 2, .b, .b, .b, .o 2, .b, .o 2, .b, .o 2, .b, .b, .b, .o 2, .b, .o 3, .o 3, .o 3, .o 2, .o 3, .b, .b, .b, .o 3, .b, .o 3, .b, .o 3, .b, .b, .b, .o 3, .b, .o 4, .o 4, .o 4, .o 3, .o 4, .b, .b, .b, .o 4, .b, .o 4, .b, .o 4, .b, .b, .b, .o 4, .b, .o 5, .o 5, .o 5, .o 13, .o 13, .b, .o 22, .o 26, .o 26, .o 26, .b, .b, .b, .o 20, .o 20, .o 19, .o 10, .b, .b, .b, .o 10, .b, .b, .b, .o 10, .b, .b, .b, .b, .o 10, .o 11, .b, .b, .o 15, .o 24, .o 24, .o 24, .o 0, .o 21, .b, .b, .b, .o 0, .o 0, .o 0, .o 0, .o 0, .o 0, .b, .o 0, .o 0, .o 0, .o 0, .o 2, .o 2, .o 2, .o 2, .o 2, .o 2, .o 2, .o 0, .b, .o 0, .o 3, .o 3, .o 15, .b, .b, .b, .o 15, .b, .o 15, .b, .o 15, .b, .b, .b, .o 15, .b, .o 16, .o 16, .o 16, .o 3, .o 3, .o 3, .o 3, .o 5, .o 5]
noncomputable def PH_h2 : List Hint := [.o 0, .o 0, .o 0, .o 12, .s 0 0, .o 0, .b, .b, .b, .b, .b, .b, .b, .b, .b, .b, .b, .b, .b, .b, .b, .b, .b, .b, .b, .b, .b, .b, .b, .b, .o 0, .b, .o 0, .b, .b, .b, .b, .b, .b, .o 0, .o 0, .b, .o 1, .o 2, .b, .b, .b, .o 2, .b, .o 2, .b, .o 2, .b, .b, .b, .o 2, .b, .o 3, .o 3, .o 3, .o 2, .o 3, .b, .b, .b, .o 3, .b, .o 3, .b, .o 3, .b, .b, .b, .o 3, .b, .o 4, .o 4, .o 4, .o 3, .o 4, .b, .b, .b, .o 4, .b, .o 4, .b, .o 4, .b, .b, .b, .o 4, .b, .o 5, .o 5, .o 5, .o 13, .o 13, .b, .o 22, .o 26, .o 26, .o 26, .b, .b, .b, .o 20, .o 20, .o 19, .o 10, .b, .b, .b, .o 10, .b, .b, .b, .o 10, .b, .b, .b, .b, .o 10, .o 11, .b, .b, .o 15, .o 24, .o 24, .o 24, .o 0, .o 21, .b, .b, .b, .o 0, .o 0, .o 0, .o 0, .o 0, .o 0, .b, .o 0, .o 0, .o 0, .o 0, .o 2, .o 2, .o 2, .o 0, .b, .o 0, .o 3, .o 3, .o 15, .b, .b, .b, .o 15, .b, .o 15, .b, .o 15, .b, .b, .b, .o 15, .b, .o 16, .o 16, .o 16, .o 3, .o 3, .o 3, .o 3, .o 5, .o 5]
noncomputable def PH_sp (w : World) (s₀ : Shared) (b1 b2 : Bool) (A : LA) (z : Addr) (k6 : Result → Sem Fin) (v : LV) (r tl : SV) (ns ks cs ps chs : Array Value) (j : Nat) (tx : Str) (tk : Tok) (e : Option Int) (τ : Nat → Nat → Tok) (ν : Nat → Nat) (N T G : Nat) : List Spec := [spEnd (z + 2) (z + 1) 12 11 cs (ν 11) (j : Nat)]
theorem PH_r (w : World) (s₀ : Shared) (b1 b2 : Bool) (A : LA) (z : Addr) (k6 : Result → Sem Fin) (v : LV) (r tl : SV) (ns ks cs ps chs : Array Value) (j : Nat) (tx : Str) (tk : Tok) (e : Option Int)  (p : Pos) (τ : Nat → Nat → Tok) (ν : Nat → Nat) (N T G : Nat) :
  EndsQ w.params (run ((K5 w s₀ b1 b2).V [] N T G (PH_sp w s₀ b1 b2 A z k6 v r tl ns ks cs ps chs j tx tk e τ ν N T G)) (cond b2 334 344) (denF (cF2 w.params A z)) (cF2 w.params A z) p (fsF2 w.params A k6 z) (memOf w.params τ ν 0 ((enD (z + 3) (z + 2) .none j (intD e) ++ p2C A z (l0E A v r tl) v tx tk ns ks cs ps chs j) ++ ([(260, .tab [])] : DM))) 0 0 [] 0 (cond b2 PH_h2 PH_h) []) [3, 15, 16, 13, 12, 11, 4, 29, 23, 24, 25, 5, 6, 27, 2, 1, 20, 22, 21, 28, 0, 26, 32]
    (denF (cInner w.params (A.sbg (N + 2) G))) (cInner w.params (A.sbg (N + 2) G)) (fs0 w.params (A.sbg (N + 2) G) k6) (lexDM w.params (A.sbg (N + 2) G) (.int ((T + 13 : Nat) : Int) 0) false 0 none #[] chs ks #[] none (.ref (A.sbg (N + 2) G).fst) ++ ((l0D0 (A.sbg (N + 2) G) v r tl ++ ([(A.cat, .cell none), (A.ctx, .cell (some (.raw (.str tx tk)))), (v.pls, .arr c_list ps)] : DM)) ++ (adD (A.sbg (N + 2) G) none ++ ([(A.nb, .arr c_list ns), (260, .tab [.raw (.int 146 0), .raw (.int 4 0), .ref (A.sbg (N + 2) G).fcode])] : DM)))) [(G, .running)] := by
  cases b1 <;> cases e <;> cases b2 <;> (unfold EndsQ; kernel_rfl)
theorem PH (w : World) (s₀ : Shared) (b1 b2 : Bool) (Y : Sys (K5 w s₀ b1 b2)) (A : LA) (z : Addr) (k6 : Result → Sem Fin) (v : LV) (r tl : SV) (ns ks cs ps chs : Array Value) (j : Nat) (tx : Str) (tk : Tok) (e : Option Int)  (h0 : cs[j]? = none) {L : DM} {s : Shared} {p : Pos} (S : StD (K5 w s₀ b1 b2) ((enD (z + 3) (z + 2) .none j (intD e) ++ p2C A z (l0E A v r tl) v tx tk ns ks cs ps chs j) ++ ([(260, .tab [])] : DM) ++ L) [] s)
    (next : ∀ (τ : Nat → Nat → Tok) (N T G : Nat) (s' : Shared) (p' : Pos), (K5 w s₀ b1 b2).B ≤ N → N ≤ s'.heap.objs.size → StD (K5 w s₀ b1 b2) (lexDM w.params (A.sbg (N + 2) G) (.int ((T + 13 : Nat) : Int) 0) false 0 none #[] chs ks #[] none (.ref (A.sbg (N + 2) G).fst) ++ ((l0D0 (A.sbg (N + 2) G) v r tl ++ ([(A.cat, .cell none), (A.ctx, .cell (some (.raw (.str tx tk)))), (v.pls, .arr c_list ps)] : DM)) ++ (adD (A.sbg (N + 2) G) none ++ ([(A.nb, .arr c_list ns), (260, .tab [.raw (.int 146 0), .raw (.int 4 0), .ref (A.sbg (N + 2) G).fcode])] : DM))) ++ L) [(G, .running)] s' → Y.H s' ⟨denF (cInner w.params (A.sbg (N + 2) G)), cInner w.params (A.sbg (N + 2) G), p', fs0 w.params (A.sbg (N + 2) G) k6⟩) : Y.H s ⟨denF (cF2 w.params A z), cF2 w.params A z, p, fsF2 w.params A k6 z⟩ :=
  Y.seg (t' := fun τ N T G => denF (cInner w.params (A.sbg (N + 2) G))) (c' := fun N T G => cInner w.params (A.sbg (N + 2) G)) (fs' := fun N T G => fs0 w.params (A.sbg (N + 2) G) k6) (d' := fun N T G => lexDM w.params (A.sbg (N + 2) G) (.int ((T + 13 : Nat) : Int) 0) false 0 none #[] chs ks #[] none (.ref (A.sbg (N + 2) G).fst) ++ ((l0D0 (A.sbg (N + 2) G) v r tl ++ ([(A.cat, .cell none), (A.ctx, .cell (some (.raw (.str tx tk)))), (v.pls, .arr c_list ps)] : DM)) ++ (adD (A.sbg (N + 2) G) none ++ ([(A.nb, .arr c_list ns), (260, .tab [.raw (.int 146 0), .raw (.int 4 0), .ref (A.sbg (N + 2) G).fcode])] : DM)))) (gm' := fun N T G => [(G, .running)]) S (by decide) (PH_sp w s₀ b1 b2 A z k6 v r tl ns ks cs ps chs j tx tk e) (PH_r w s₀ b1 b2 A z k6 v r tl ns ks cs ps chs j tx tk e  p) (fun τ ν N T G => .cons (ok_end _ _ _ _ _ _ _ h0) (AllOk.nil)) next

end Mine
end

section
set_option maxRecDepth 100000
namespace Mine
open PySem PySem.W PySem.W.X
open Classical in
noncomputable def cnt (a : Addr × OD) (d : DM) : Nat := d.count a
theorem cnt_nil (a) : cnt a [] = 0 := by classical exact List.count_nil
theorem cnt_append (a) (x y : DM) : cnt a (x ++ y) = cnt a x + cnt a y := by classical exact List.count_append
theorem cnt_cons (a) (x) (y : DM) : cnt a (x :: y) = cnt a [x] + cnt a y := by
  have := cnt_append a [x] y
  exact this
theorem cnt_flatMap {α : Type} (a) (f : α → DM) (x y : List α) : cnt a ((x ++ y).flatMap f) = cnt a (x.flatMap f) + cnt a (y.flatMap f) := by rw [List.flatMap_append, cnt_append]
theorem perm_of_cnt {d d' : DM} (h : ∀ a, cnt a d = cnt a d') : d.Perm d' := by classical exact List.perm_iff_count.mpr h
theorem StD.reord {K : Top} {d d' : DM} {gm : GMem} {s : Shared} (S : StD K d gm s) (h : ∀ a, cnt a d = cnt a d') : StD K d' gm s := S.perm (perm_of_cnt h)
theorem cnt_split {α : Type} (f : α → DM) {l : List α} {x : α} (h : x ∈ l) : ∃ R : DM, ∀ a, cnt a (l.flatMap f) = cnt a (f x) + cnt a R := by
  obtain ⟨l1, l2, rfl⟩ := List.append_of_mem h
  refine ⟨l1.flatMap f ++ l2.flatMap f, fun a => ?_⟩
  rw [cnt_flatMap, List.flatMap_cons, cnt_append, cnt_append]
  omega
theorem cnt_at {d : DM} {i : Nat} {x : Addr × OD} (h : d[i]? = some x) (a) : cnt a d = cnt a [x] + cnt a (d.eraseIdx i) := by
  induction d generalizing i with
  | nil => cases h
  | cons y r ih =>
    cases i with
    | zero => cases h; rw [List.eraseIdx_cons_zero, cnt_cons]
    | succ i =>
      rw [List.eraseIdx_cons_succ, cnt_cons a y, ih (i := i) (by simpa using h), cnt_cons a y (r.eraseIdx i)]
      omega
theorem StD.recast {K : Top} {a : Addr} {o o' : OD} (h : ∀ τ n, ∃ τ' n', o.obj K.w.params τ n = o'.obj K.w.params τ' n') {d : DM} {gm : GMem} {s : Shared} (S : StD K ((a, o) :: d) gm s) : StD K ((a, o') :: d) gm s := by
  obtain ⟨mem, F, S⟩ := S
  cases F with
  | cons τ n F =>
    obtain ⟨τ', n', e⟩ := h τ n
    rw [e] at S
    exact ⟨_, .cons τ' n' F, S⟩
theorem StD.mem_drop {K : Top} {d d' e : DM} {gm : GMem} {s : Shared} (S : StD K d gm s) (h : ∀ a, cnt a d = cnt a (d' ++ e)) : StD K d' gm s := (S.reord h).drop

structure CO where
  a : Addr
  nm : Str
  hd : Str
  rv : SV
  tv : SV
  dv : Bool
  ry : Array Value
  ty : Array Value
noncomputable def svD : SV → Array Value → DM
  | .s _ _, _ => []
  | .l a, ys => vlD a ys
def svOk : SV → Array Value → Prop
  | .s _ _, _ => True
  | .l _, ys => ∀ y ∈ ys, ∃ z t, y = .str z t
noncomputable def inS (x : Str) (c : Nat) : Bool := !(Builtin.Str.occurrences x ⟨⟨[c]⟩⟩ 0 x.length 1).isEmpty
noncomputable def svIn : SV → Array Value → Nat → Bool
  | .s x _, _, c => inS x c
  | .l _, ys, c => ys.any (isS ⟨⟨[c]⟩⟩)
noncomputable def CO.dm (o : CO) : DM := kD o.a o.nm o.hd o.rv o.tv o.dv ++ (svD o.rv o.ry ++ svD o.tv o.ty)
def CO.ok (o : CO) : Prop := svOk o.rv o.ry ∧ svOk o.tv o.ty
noncomputable def clsM (l : List CO) : DM := l.flatMap CO.dm
def refs (l : List CO) : Array Value := ⟨l.map fun o => .ref o.a⟩
noncomputable def Ch.c (x : Ch) : DM := chD x.a x.d x.l x.sgs
noncomputable def chM (l : List Ch) : DM := l.flatMap fun x => x.c ++ locD x
def crefs (l : List Ch) : Array Value := ⟨l.map fun x => .ref x.a⟩
noncomputable def rowM (l : List (Addr × Row)) : DM := l.map fun x => (x.1, rowD x.2)
def rrefs (l : List (Addr × Row)) : Array Value := ⟨l.map fun x => .ref x.1⟩
theorem refs_get (l : List CO) (j : Nat) : (refs l)[j]? = l[j]?.map fun o => .ref o.a := by simp [refs]
theorem crefs_get (l : List Ch) (j : Nat) : (crefs l)[j]? = l[j]?.map fun o => .ref o.a := by simp [crefs]
theorem crefs_push (l : List Ch) (x : Ch) : (crefs l).push (.ref x.a) = crefs (l ++ [x]) := by simp [crefs]
theorem refs_push (l : List CO) (x : CO) : (refs l).push (.ref x.a) = refs (l ++ [x]) := by simp [refs]
theorem rrefs_push (l : List (Addr × Row)) (x : Addr × Row) : (rrefs l).push (.ref x.1) = rrefs (l ++ [x]) := by simp [rrefs]
end Mine
end

section
set_option maxRecDepth 100000
set_option maxHeartbeats 1000000
namespace Mine
open PySem PySem.W PySem.W.X
section
variable {w : World} {s₀ : Shared} {b1 b2 : Bool} (Y : Sys (K5 w s₀ b1 b2)) (A : LA) (v16 : Value) (k6 : Result → Sem Fin)
abbrev GR (A : LA) : GMem := [(A.g, .running)]
theorem refs_size (l : List CO) : (refs l).size = l.length := by simp [refs]
theorem crefs_size (l : List Ch) : (crefs l).size = l.length := by simp [crefs]
theorem cls_split {cls : List CO} {o : CO} (h : o ∈ cls) : ∃ R : DM, ∀ a, cnt a (clsM cls) = cnt a (kD o.a o.nm o.hd o.rv o.tv o.dv) + cnt a (svD o.rv o.ry) + cnt a (svD o.tv o.ty) + cnt a R := by
  obtain ⟨R, h⟩ := cnt_split CO.dm h
  refine ⟨R, fun a => ?_⟩
  rw [show clsM cls = cls.flatMap CO.dm from rfl, h a, CO.dm, cnt_append, cnt_append]; omega
theorem ch_split {chs : List Ch} {x : Ch} (h : x ∈ chs) : ∃ R : DM, ∀ a, cnt a (chM chs) = cnt a (chD x.a x.d x.l x.sgs) + cnt a (locD x) + cnt a R := by
  obtain ⟨R, h⟩ := cnt_split (fun x : Ch => x.c ++ locD x) h
  refine ⟨R, fun a => ?_⟩
  rw [show chM chs = chs.flatMap (fun x : Ch => x.c ++ locD x) from rfl, h a, cnt_append]; rfl
theorem le_line {n : Nat} (h : n ≤ 100) : n ≤ sizeLine := by show n ≤ 2 ^ 24; omega
theorem lt_line {n : Nat} (h : n ≤ 100) : n < sizeLine := by show n < 2 ^ 24; omega

theorem lexCls (cs got : Array Value) (k : Nat) (c : Ch) (Ls cc q : Addr) (cls : List CO) (hc : cls.length ≤ 100) (R : DM) : ∀ (l2 l1 : List CO), cls = l1 ++ l2 → ∀ {s : Shared} {p : Pos},
    StD (K5 w s₀ b1 b2) (lexDM w.params A v16 false k none #[.ref c.a] cs (refs cls) got none (.ref A.fst) ++ (chD c.a c.d c.l c.sgs ++ (stD A Ls cc c.a q l1.length (refs (l1.filter fun o => inS o.hd c.sg)) (l1.getLast?.map CO.a) ++ (clsM cls ++ R)))) (GR A) s →
    (∀ s' p', StD (K5 w s₀ b1 b2) (lexDM w.params A v16 false k none #[.ref c.a] cs (refs cls) got none (.ref A.fst) ++ (chD c.a c.d c.l c.sgs ++ (stD A Ls cc c.a q cls.length (refs (cls.filter fun o => inS o.hd c.sg)) (cls.getLast?.map CO.a) ++ (clsM cls ++ R)))) (GR A) s' →
      Y.H s' ⟨denF (cComp w.params A Ls cc q), cComp w.params A Ls cc q, p', fsC w.params A k6 Ls cc q⟩) →
    Y.H s ⟨denF (cComp w.params A Ls cc q), cComp w.params A Ls cc q, p, fsC w.params A k6 Ls cc q⟩ := by
  intro l2
  induction l2 with
  | nil =>
    intro l1 e s p S next
    rw [List.append_nil] at e
    subst e
    exact next _ _ S
  | cons o l2 ih =>
    intro l1 e s p S next
    have ho : o ∈ cls := by rw [e]; simp
    obtain ⟨Ro, hR⟩ := cls_split ho
    have hj : (refs cls)[l1.length]? = some (.ref o.a) := by rw [refs_get, e]; simp
    have hlen : (l1.filter fun o => inS o.hd c.sg).length ≤ 100 := by
      have h1 := List.length_filter_le (fun o : CO => inS o.hd c.sg) l1
      have h2 : cls.length = l1.length + (l2.length + 1) := by rw [e]; simp
      omega
    have step : ∀ (s' : Shared) (p' : Pos), StD (K5 w s₀ b1 b2) (lexDM w.params A v16 false k none #[.ref c.a] cs (refs cls) got none (.ref A.fst) ++ (chD c.a c.d c.l c.sgs ++ (stD A Ls cc c.a q (l1.length + 1) (refs ((l1 ++ [o]).filter fun o => inS o.hd c.sg)) (some o.a) ++ kD o.a o.nm o.hd o.rv o.tv o.dv)) ++ (svD o.rv o.ry ++ (svD o.tv o.ty ++ (Ro ++ R)))) (GR A) s' →
        Y.H s' ⟨denF (cComp w.params A Ls cc q), cComp w.params A Ls cc q, p', fsC w.params A k6 Ls cc q⟩ := by
      intro s' p' S'
      refine ih (l1 ++ [o]) (by rw [e]; simp) (S'.reord fun a => ?_) next
      simp only [cnt_append, hR, List.length_append, List.length_singleton, List.getLast?_append, List.getLast?_singleton, Option.some_or, Option.map_some]
      omega
    have S1 := S.reord (d' := (lexDM w.params A v16 false k none #[.ref c.a] cs (refs cls) got none (.ref A.fst) ++ (chD c.a c.d c.l c.sgs ++ (stD A Ls cc c.a q l1.length (refs (l1.filter fun o => inS o.hd c.sg)) (l1.getLast?.map CO.a) ++ kD o.a o.nm o.hd o.rv o.tv o.dv)) ++ (svD o.rv o.ry ++ (svD o.tv o.ty ++ (Ro ++ R))))) fun a => by
      simp only [cnt_append, hR]; omega
    cases hb : inS o.hd c.sg with
    | true =>
      refine A2t w s₀ b1 b2 Y A v16 cs (refs cls) got k6 k Ls cc q c.a c.d c.l c.sgs _ _ _ o.a o.nm o.hd o.rv o.tv o.dv hj hb (by rw [refs_size]; exact le_line hlen) S1 fun τ N T G s' p' _ _ S' => step s' p' ?_
      rw [List.filter_append, show [o].filter (fun o => inS o.hd c.sg) = [o] by simp [hb], ← refs_push]
      exact S'
    | false =>
      refine A2f w s₀ b1 b2 Y A v16 cs (refs cls) got k6 k Ls cc q c.a c.d c.l c.sgs _ _ _ o.a o.nm o.hd o.rv o.tv o.dv hj hb S1 fun τ N T G s' p' _ _ S' => step s' p' ?_
      rw [List.filter_append, show [o].filter (fun o => inS o.hd c.sg) = [] by simp [hb], List.append_nil]
      exact S'
end
end Mine
end

section
set_option maxRecDepth 100000
set_option maxHeartbeats 1000000
namespace Mine
open PySem PySem.W PySem.W.X
def At (chs : List Ch) (p : Nat) (e : Bool) (k : Nat) (pb : Option Addr) : Prop :=
  (e = false ∧ k = p ∧ pb = none) ∨ (∃ x, chs[p]? = some x ∧ e = false ∧ k = p + 1 ∧ pb = some x.a) ∨ (p = chs.length ∧ e = true ∧ k = p ∧ pb = none)
def AtS (chs : List Ch) (p : Nat) (e : Bool) (k : Nat) (pb : Option Addr) : Prop :=
  (∃ x, chs[p]? = some x ∧ e = false ∧ k = p + 1 ∧ pb = some x.a) ∨ (p = chs.length ∧ e = true ∧ k = p ∧ pb = none)
theorem AtS.at {chs : List Ch} {p : Nat} {e : Bool} {k : Nat} {pb : Option Addr} (h : AtS chs p e k pb) : At chs p e k pb := .inr h
theorem drop_at {α : Type} {l : List α} {p : Nat} {x : α} (h : l[p]? = some x) : l.drop p = x :: l.drop (p + 1) := by
  obtain ⟨hlt, e⟩ := List.getElem?_eq_some_iff.mp h
  rw [List.drop_eq_getElem_cons hlt, e]
section
variable {w : World} {s₀ : Shared} {b1 b2 : Bool} (Y : Sys (K5 w s₀ b1 b2)) (A : LA) (v16 : Value) (k6 : Result → Sem Fin)
theorem arStep (tl : Bool) (ks got : Array Value) (La Ls cc : Addr) (va : SV) (vy : Array Value) (hv : svOk va vy) (chs : List Ch) (R : DM) (x : Ch) (p : Nat) (e : Bool) (k : Nat) (pb : Option Addr) (X : List Ch) (hX : X.length ≤ 100) (hx : chs[p]? = some x)
    (ha : (e = false ∧ k = p ∧ pb = none) ∨ (e = false ∧ k = p + 1 ∧ pb = some x.a)) {s : Shared} {pos : Pos}
    (S : StD (K5 w s₀ b1 b2) (lexDM w.params A v16 e k pb (crefs X) (crefs chs) ks got none (.ref A.fst) ++ (laD A La va.val ++ (svD va vy ++ (chM chs ++ R)))) (GR A) s)
    (next : ∀ s' p', StD (K5 w s₀ b1 b2) (lexDM w.params A v16 false (p + 1) (if svIn va vy x.sg then none else some x.a) (crefs (if svIn va vy x.sg then X ++ [x] else X)) (crefs chs) ks got none (.ref A.fst) ++ (laD A La va.val ++ (svD va vy ++ (chM chs ++ R)))) (GR A) s' →
      Y.H s' ⟨if svIn va vy x.sg then denF (arLoop w.params La) else .pure (.done .next), arLoop w.params La, p', fsAR w.params A k6 tl Ls cc La⟩) :
    Y.H s ⟨denF (arLoop w.params La), arLoop w.params La, pos, fsAR w.params A k6 tl Ls cc La⟩ := by
  have hmem : x ∈ chs := List.mem_of_getElem? hx
  obtain ⟨Rx, hR⟩ := ch_split hmem
  have hk : (crefs chs)[p]? = some (.ref x.a) := by rw [crefs_get, hx]; rfl
  have h1 : (crefs X).size ≤ sizeLine := by rw [crefs_size]; exact le_line hX
  have h2 : (crefs X).size < sizeLine := by rw [crefs_size]; exact lt_line hX
  cases va with
  | s vs vt =>
    have S1 := S.reord (d' := lexDM w.params A v16 e k pb (crefs X) (crefs chs) ks got none (.ref A.fst) ++ (chD x.a x.d x.l x.sgs ++ laD A La (.str vs vt)) ++ (locD x ++ (Rx ++ R))) fun a => by
      simp only [cnt_append, hR, svD, cnt_nil, SV.val]; omega
    have fin : ∀ (s' : Shared) (p' : Pos) (pb' : Option Addr) (X' : List Ch) (t : Sem Fin), pb' = (if svIn (.s vs vt) vy x.sg then none else some x.a) → X' = (if svIn (.s vs vt) vy x.sg then X ++ [x] else X) → t = (if svIn (.s vs vt) vy x.sg then denF (arLoop w.params La) else .pure (.done .next)) →
        StD (K5 w s₀ b1 b2) (lexDM w.params A v16 false (p + 1) pb' (crefs X') (crefs chs) ks got none (.ref A.fst) ++ (chD x.a x.d x.l x.sgs ++ laD A La (.str vs vt)) ++ (locD x ++ (Rx ++ R))) (GR A) s' → Y.H s' ⟨t, arLoop w.params La, p', fsAR w.params A k6 tl Ls cc La⟩ := by
      intro s' p' pb' X' t e1 e2 e3 S'
      subst e1 e2 e3
      exact next s' p' (S'.reord fun a => by simp only [cnt_append, hR, svD, cnt_nil, SV.val]; omega)
    cases hb : svIn (.s vs vt) vy x.sg with
    | true =>
      rcases ha with ⟨rfl, rfl, rfl⟩ | ⟨rfl, rfl, rfl⟩
      · refine AR_next_ok_s w s₀ b1 b2 Y A v16 (crefs chs) ks got k6 tl _ (crefs X) Ls cc La x.a x.d x.l x.sgs vs vt hk h1 hb S1 fun τ N T G s' p' _ _ S' => ?_
        rw [crefs_push] at S'
        exact fin s' p' none (X ++ [x]) _ (by rw [hb]; rfl) (by rw [hb]; rfl) (by rw [hb]; rfl) S'
      · refine AR_pb_ok_s w s₀ b1 b2 Y A v16 (crefs chs) ks got k6 tl _ (crefs X) Ls cc La x.a x.d x.l x.sgs vs vt h1 hb S1 fun τ N T G s' p' _ _ S' => ?_
        rw [crefs_push] at S'
        exact fin s' p' none (X ++ [x]) _ (by rw [hb]; rfl) (by rw [hb]; rfl) (by rw [hb]; rfl) S'
    | false =>
      rcases ha with ⟨rfl, rfl, rfl⟩ | ⟨rfl, rfl, rfl⟩
      · refine AR_next_no_s w s₀ b1 b2 Y A v16 (crefs chs) ks got k6 tl _ (crefs X) Ls cc La x.a x.d x.l x.sgs vs vt hk h1 hb h2 S1 fun τ N T G s' p' _ _ S' => ?_
        exact fin s' p' (some x.a) X _ (by rw [hb]; rfl) (by rw [hb]; rfl) (by rw [hb]; rfl) S'
      · refine AR_pb_no_s w s₀ b1 b2 Y A v16 (crefs chs) ks got k6 tl _ (crefs X) Ls cc La x.a x.d x.l x.sgs vs vt h1 hb h2 S1 fun τ N T G s' p' _ _ S' => ?_
        exact fin s' p' (some x.a) X _ (by rw [hb]; rfl) (by rw [hb]; rfl) (by rw [hb]; rfl) S'
  | l vl =>
    have S1 := S.reord (d' := lexDM w.params A v16 e k pb (crefs X) (crefs chs) ks got none (.ref A.fst) ++ (chD x.a x.d x.l x.sgs ++ laD A La (.ref vl) ++ vlD vl vy) ++ (locD x ++ (Rx ++ R))) fun a => by
      simp only [cnt_append, hR, svD, SV.val]; omega
    have fin : ∀ (s' : Shared) (p' : Pos) (pb' : Option Addr) (X' : List Ch) (t : Sem Fin), pb' = (if svIn (.l vl) vy x.sg then none else some x.a) → X' = (if svIn (.l vl) vy x.sg then X ++ [x] else X) → t = (if svIn (.l vl) vy x.sg then denF (arLoop w.params La) else .pure (.done .next)) →
        StD (K5 w s₀ b1 b2) (lexDM w.params A v16 false (p + 1) pb' (crefs X') (crefs chs) ks got none (.ref A.fst) ++ (chD x.a x.d x.l x.sgs ++ laD A La (.ref vl) ++ vlD vl vy) ++ (locD x ++ (Rx ++ R))) (GR A) s' → Y.H s' ⟨t, arLoop w.params La, p', fsAR w.params A k6 tl Ls cc La⟩ := by
      intro s' p' pb' X' t e1 e2 e3 S'
      subst e1 e2 e3
      exact next s' p' (S'.reord fun a => by simp only [cnt_append, hR, svD, SV.val]; omega)
    cases hb : svIn (.l vl) vy x.sg with
    | true =>
      have hh : HasS vy x.sgs true := ⟨hv, hb⟩
      rcases ha with ⟨rfl, rfl, rfl⟩ | ⟨rfl, rfl, rfl⟩
      · refine AR_next_ok_l w s₀ b1 b2 Y A v16 (crefs chs) ks got k6 tl _ (crefs X) Ls cc La x.a x.d x.l x.sgs vl vy hk h1 hh S1 fun τ N T G s' p' _ _ S' => ?_
        rw [crefs_push] at S'
        exact fin s' p' none (X ++ [x]) _ (by rw [hb]; rfl) (by rw [hb]; rfl) (by rw [hb]; rfl) S'
      · refine AR_pb_ok_l w s₀ b1 b2 Y A v16 (crefs chs) ks got k6 tl _ (crefs X) Ls cc La x.a x.d x.l x.sgs vl vy h1 hh S1 fun τ N T G s' p' _ _ S' => ?_
        rw [crefs_push] at S'
        exact fin s' p' none (X ++ [x]) _ (by rw [hb]; rfl) (by rw [hb]; rfl) (by rw [hb]; rfl) S'
    | false =>
      have hh : HasS vy x.sgs false := ⟨hv, hb⟩
      rcases ha with ⟨rfl, rfl, rfl⟩ | ⟨rfl, rfl, rfl⟩
      · refine AR_next_no_l w s₀ b1 b2 Y A v16 (crefs chs) ks got k6 tl _ (crefs X) Ls cc La x.a x.d x.l x.sgs vl vy hk h1 hh h2 S1 fun τ N T G s' p' _ _ S' => ?_
        exact fin s' p' (some x.a) X _ (by rw [hb]; rfl) (by rw [hb]; rfl) (by rw [hb]; rfl) S'
      · refine AR_pb_no_l w s₀ b1 b2 Y A v16 (crefs chs) ks got k6 tl _ (crefs X) Ls cc La x.a x.d x.l x.sgs vl vy h1 hh h2 S1 fun τ N T G s' p' _ _ S' => ?_
        exact fin s' p' (some x.a) X _ (by rw [hb]; rfl) (by rw [hb]; rfl) (by rw [hb]; rfl) S'
noncomputable def runLen (va : SV) (vy : Array Value) (l : List Ch) : Nat := (l.takeWhile fun x => svIn va vy x.sg).length
theorem arAll (tl : Bool) (ks got : Array Value) (La Ls cc : Addr) (va : SV) (vy : Array Value) (hv : svOk va vy) (chs : List Ch) (hn : chs.length ≤ 100) (R : DM) : ∀ (m p : Nat) (e : Bool) (k : Nat) (pb : Option Addr) (X : List Ch), chs.length - p = m → p ≤ chs.length → X.length ≤ p → At chs p e k pb → ∀ {s : Shared} {pos : Pos},
    StD (K5 w s₀ b1 b2) (lexDM w.params A v16 e k pb (crefs X) (crefs chs) ks got none (.ref A.fst) ++ (laD A La va.val ++ (svD va vy ++ (chM chs ++ R)))) (GR A) s →
    (∀ s' p' e' k' pb', AtS chs (p + runLen va vy (chs.drop p)) e' k' pb' → StD (K5 w s₀ b1 b2) (lexDM w.params A v16 e' k' pb' (crefs (X ++ (chs.drop p).takeWhile fun x => svIn va vy x.sg)) (crefs chs) ks got none (.ref A.fst) ++ (laD A La va.val ++ (svD va vy ++ (chM chs ++ R)))) (GR A) s' →
      Y.H s' ⟨.pure (.done .next), arLoop w.params La, p', fsAR w.params A k6 tl Ls cc La⟩) →
    Y.H s ⟨denF (arLoop w.params La), arLoop w.params La, pos, fsAR w.params A k6 tl Ls cc La⟩ := by
  intro m
  induction m with
  | zero =>
    intro p e k pb X hm hp hX hat s pos S next
    have hpn : p = chs.length := by omega
    have hd : chs.drop p = [] := by rw [hpn]; exact List.drop_length
    have hno : chs[p]? = none := List.getElem?_eq_none (by omega)
    simp only [runLen, hd, List.takeWhile_nil, List.length_nil, Nat.add_zero, List.append_nil] at next
    have S1 : StD (K5 w s₀ b1 b2) (lexDM w.params A v16 e k pb (crefs X) (crefs chs) ks got none (.ref A.fst) ++ laD A La va.val ++ (svD va vy ++ (chM chs ++ R))) (GR A) s := S.reord fun a => by simp only [cnt_append]; omega
    rcases hat with ⟨rfl, rfl, rfl⟩ | ⟨x, hx, -⟩ | ⟨-, rfl, rfl, rfl⟩
    · refine AR_next_no_eof w s₀ b1 b2 Y A v16 (crefs chs) ks got k6 tl _ (crefs X) Ls cc La va (by rw [crefs_get, hno]; rfl) S1 fun τ N T G s' p' _ _ S' => ?_
      exact next s' p' true k none (.inr ⟨hpn, rfl, rfl, rfl⟩) (S'.reord fun a => by simp only [cnt_append]; omega)
    · rw [hno] at hx; cases hx
    · refine AR_next_no_eof2 w s₀ b1 b2 Y A v16 (crefs chs) ks got k6 tl _ (crefs X) Ls cc La va S1 fun τ N T G s' p' _ _ S' => ?_
      exact next s' p' true k none (.inr ⟨hpn, rfl, rfl, rfl⟩) (S'.reord fun a => by simp only [cnt_append]; omega)
  | succ m ih =>
    intro p e k pb X hm hp hX hat s pos S next
    have hlt : p < chs.length := by omega
    have hx : chs[p]? = some chs[p] := List.getElem?_eq_getElem hlt
    have ha : (e = false ∧ k = p ∧ pb = none) ∨ (e = false ∧ k = p + 1 ∧ pb = some chs[p].a) := by
      rcases hat with h | ⟨x, h1, h⟩ | ⟨h, -⟩
      · exact .inl h
      · rw [hx] at h1; cases h1; exact .inr h
      · omega
    refine arStep Y A v16 k6 tl ks got La Ls cc va vy hv chs R chs[p] p e k pb X (by omega) hx ha S fun s' p' S' => ?_
    rw [drop_at hx] at next
    cases hb : svIn va vy chs[p].sg with
    | true =>
      rw [hb] at S'
      simp only [if_true] at S' ⊢
      simp only [runLen, List.takeWhile_cons, hb, if_true, List.length_cons] at next
      refine ih (p + 1) false (p + 1) none (X ++ [chs[p]]) (by omega) (by omega) (by simp; omega) (.inl ⟨rfl, rfl, rfl⟩) S' fun s'' p'' e' k' pb' h' S'' => next s'' p'' e' k' pb' ?_ ?_
      · have : p + 1 + runLen va vy (chs.drop (p + 1)) = p + ((chs.drop (p + 1)).takeWhile (fun x => svIn va vy x.sg)).length.succ := by unfold runLen; omega
        rw [← this]; exact h'
      · rw [List.append_assoc] at S''; exact S''
    | false =>
      rw [hb] at S'
      simp only [Bool.false_eq_true, if_false] at S' ⊢
      simp only [runLen, List.takeWhile_cons, hb, Bool.false_eq_true, if_false, List.length_nil, Nat.add_zero, List.append_nil] at next
      exact next s' p' false (p + 1) _ (.inl ⟨_, hx, rfl, rfl, rfl⟩) S'
end
end Mine
end

section
set_option maxRecDepth 100000
set_option maxHeartbeats 4000000
namespace Mine
open PySem PySem.W PySem.W.X
section
variable {w : World} {s₀ : Shared} {b1 b2 : Bool} (Y : Sys (K5 w s₀ b1 b2)) (A : LA) (k6 : Result → Sem Fin)
noncomputable def chC (l : List Ch) : DM := l.flatMap Ch.c
theorem joinAll (Ls cc Le it3 Lg gobj g2 co lst : Addr) (p0 : Pos) (tk : Tok) (nm : Str) (hne : lst ≠ gobj) (R : DM) : ∀ (X : List Ch), 1 ≤ X.length → X.length ≤ 16 → ∀ {s : Shared} {p : Pos},
    StD (K5 w s₀ b1 b2) ([(A.ct, .arr c_list (crefs X))] ++ (chC X ++ (genD A Le it3 Lg gobj g2 nm ++ (([(lst, .seq c_list [])] : DM) ++ R)))) [(g2, genC w.params A Le it3 Lg co), (A.g, .running)] s →
    (∀ s' p' tok, StD (K5 w s₀ b1 b2) ([(A.ct, .arr c_list (crefs X))] ++ (chC X ++ (leD A Le nm ++ R))) (GR A) s' → Y.H s' ⟨.pure (.done (.ret (.str ⟨⟨X.map (·.sg)⟩⟩ tok))), cJoinB tk gobj, p', fsJ w.params A k6 Ls cc Le 0 0⟩) →
    Y.H s ⟨denF (cIadd lst gobj), cIadd lst gobj, p, fsI w.params A k6 Ls cc Le p0 tk gobj⟩
  | [], h, _, _, _, _, _ => absurd h (by decide)
  | [x0], _, _, s, p, S, next => by
    have e : crefs [x0] = #[.ref x0.a] := rfl
    rw [e] at S next
    refine J1 w s₀ b1 b2 Y A k6 Ls cc Le it3 Lg gobj g2 co lst p0 tk nm x0 hne (L := R) (S.reord (d' := [(A.ct, .arr c_list #[.ref x0.a])] ++ (chD x0.a x0.d x0.l x0.sgs ++ (genD A Le it3 Lg gobj g2 nm ++ ([(lst, .seq c_list [])] : DM))) ++ R) fun a => ?_) fun τ N T G s' p' _ _ S' => next s' p' _ ((show StD _ ([(A.ct, .arr c_list #[.ref x0.a])] ++ (chD x0.a x0.d x0.l x0.sgs ++ (leD A Le nm)) ++ R) _ s' from S').reord fun a => ?_)
    · simp only [cnt_append, chC, List.flatMap_cons, List.flatMap_nil, Ch.c, cnt_nil]; omega
    · simp only [cnt_append, chC, List.flatMap_cons, List.flatMap_nil, Ch.c, cnt_nil]; omega
  | [x0, x1], _, _, s, p, S, next => by
    have e : crefs [x0, x1] = #[.ref x0.a, .ref x1.a] := rfl
    rw [e] at S next
    refine J2 w s₀ b1 b2 Y A k6 Ls cc Le it3 Lg gobj g2 co lst p0 tk nm x0 x1 hne (L := R) (S.reord (d' := [(A.ct, .arr c_list #[.ref x0.a, .ref x1.a])] ++ (chD x0.a x0.d x0.l x0.sgs ++ (chD x1.a x1.d x1.l x1.sgs ++ (genD A Le it3 Lg gobj g2 nm ++ ([(lst, .seq c_list [])] : DM)))) ++ R) fun a => ?_) fun τ N T G s' p' _ _ S' => next s' p' _ ((show StD _ ([(A.ct, .arr c_list #[.ref x0.a, .ref x1.a])] ++ (chD x0.a x0.d x0.l x0.sgs ++ (chD x1.a x1.d x1.l x1.sgs ++ (leD A Le nm))) ++ R) _ s' from S').reord fun a => ?_)
    · simp only [cnt_append, chC, List.flatMap_cons, List.flatMap_nil, Ch.c, cnt_nil]; omega
    · simp only [cnt_append, chC, List.flatMap_cons, List.flatMap_nil, Ch.c, cnt_nil]; omega
  | [x0, x1, x2], _, _, s, p, S, next => by
    have e : crefs [x0, x1, x2] = #[.ref x0.a, .ref x1.a, .ref x2.a] := rfl
    rw [e] at S next
    refine J3 w s₀ b1 b2 Y A k6 Ls cc Le it3 Lg gobj g2 co lst p0 tk nm x0 x1 x2 hne (L := R) (S.reord (d' := [(A.ct, .arr c_list #[.ref x0.a, .ref x1.a, .ref x2.a])] ++ (chD x0.a x0.d x0.l x0.sgs ++ (chD x1.a x1.d x1.l x1.sgs ++ (chD x2.a x2.d x2.l x2.sgs ++ (genD A Le it3 Lg gobj g2 nm ++ ([(lst, .seq c_list [])] : DM))))) ++ R) fun a => ?_) fun τ N T G s' p' _ _ S' => next s' p' _ ((show StD _ ([(A.ct, .arr c_list #[.ref x0.a, .ref x1.a, .ref x2.a])] ++ (chD x0.a x0.d x0.l x0.sgs ++ (chD x1.a x1.d x1.l x1.sgs ++ (chD x2.a x2.d x2.l x2.sgs ++ (leD A Le nm)))) ++ R) _ s' from S').reord fun a => ?_)
    · simp only [cnt_append, chC, List.flatMap_cons, List.flatMap_nil, Ch.c, cnt_nil]; omega
    · simp only [cnt_append, chC, List.flatMap_cons, List.flatMap_nil, Ch.c, cnt_nil]; omega
  | [x0, x1, x2, x3], _, _, s, p, S, next => by
    have e : crefs [x0, x1, x2, x3] = #[.ref x0.a, .ref x1.a, .ref x2.a, .ref x3.a] := rfl
    rw [e] at S next
    refine J4 w s₀ b1 b2 Y A k6 Ls cc Le it3 Lg gobj g2 co lst p0 tk nm x0 x1 x2 x3 hne (L := R) (S.reord (d' := [(A.ct, .arr c_list #[.ref x0.a, .ref x1.a, .ref x2.a, .ref x3.a])] ++ (chD x0.a x0.d x0.l x0.sgs ++ (chD x1.a x1.d x1.l x1.sgs ++ (chD x2.a x2.d x2.l x2.sgs ++ (chD x3.a x3.d x3.l x3.sgs ++ (genD A Le it3 Lg gobj g2 nm ++ ([(lst, .seq c_list [])] : DM)))))) ++ R) fun a => ?_) fun τ N T G s' p' _ _ S' => next s' p' _ ((show StD _ ([(A.ct, .arr c_list #[.ref x0.a, .ref x1.a, .ref x2.a, .ref x3.a])] ++ (chD x0.a x0.d x0.l x0.sgs ++ (chD x1.a x1.d x1.l x1.sgs ++ (chD x2.a x2.d x2.l x2.sgs ++ (chD x3.a x3.d x3.l x3.sgs ++ (leD A Le nm))))) ++ R) _ s' from S').reord fun a => ?_)
    · simp only [cnt_append, chC, List.flatMap_cons, List.flatMap_nil, Ch.c, cnt_nil]; omega
    · simp only [cnt_append, chC, List.flatMap_cons, List.flatMap_nil, Ch.c, cnt_nil]; omega
  | [x0, x1, x2, x3, x4], _, _, s, p, S, next => by
    have e : crefs [x0, x1, x2, x3, x4] = #[.ref x0.a, .ref x1.a, .ref x2.a, .ref x3.a, .ref x4.a] := rfl
    rw [e] at S next
    refine J5 w s₀ b1 b2 Y A k6 Ls cc Le it3 Lg gobj g2 co lst p0 tk nm x0 x1 x2 x3 x4 hne (L := R) (S.reord (d' := [(A.ct, .arr c_list #[.ref x0.a, .ref x1.a, .ref x2.a, .ref x3.a, .ref x4.a])] ++ (chD x0.a x0.d x0.l x0.sgs ++ (chD x1.a x1.d x1.l x1.sgs ++ (chD x2.a x2.d x2.l x2.sgs ++ (chD x3.a x3.d x3.l x3.sgs ++ (chD x4.a x4.d x4.l x4.sgs ++ (genD A Le it3 Lg gobj g2 nm ++ ([(lst, .seq c_list [])] : DM))))))) ++ R) fun a => ?_) fun τ N T G s' p' _ _ S' => next s' p' _ ((show StD _ ([(A.ct, .arr c_list #[.ref x0.a, .ref x1.a, .ref x2.a, .ref x3.a, .ref x4.a])] ++ (chD x0.a x0.d x0.l x0.sgs ++ (chD x1.a x1.d x1.l x1.sgs ++ (chD x2.a x2.d x2.l x2.sgs ++ (chD x3.a x3.d x3.l x3.sgs ++ (chD x4.a x4.d x4.l x4.sgs ++ (leD A Le nm)))))) ++ R) _ s' from S').reord fun a => ?_)
    · simp only [cnt_append, chC, List.flatMap_cons, List.flatMap_nil, Ch.c, cnt_nil]; omega
    · simp only [cnt_append, chC, List.flatMap_cons, List.flatMap_nil, Ch.c, cnt_nil]; omega
  | [x0, x1, x2, x3, x4, x5], _, _, s, p, S, next => by
    have e : crefs [x0, x1, x2, x3, x4, x5] = #[.ref x0.a, .ref x1.a, .ref x2.a, .ref x3.a, .ref x4.a, .ref x5.a] := rfl
    rw [e] at S next
    refine J6 w s₀ b1 b2 Y A k6 Ls cc Le it3 Lg gobj g2 co lst p0 tk nm x0 x1 x2 x3 x4 x5 hne (L := R) (S.reord (d' := [(A.ct, .arr c_list #[.ref x0.a, .ref x1.a, .ref x2.a, .ref x3.a, .ref x4.a, .ref x5.a])] ++ (chD x0.a x0.d x0.l x0.sgs ++ (chD x1.a x1.d x1.l x1.sgs ++ (chD x2.a x2.d x2.l x2.sgs ++ (chD x3.a x3.d x3.l x3.sgs ++ (chD x4.a x4.d x4.l x4.sgs ++ (chD x5.a x5.d x5.l x5.sgs ++ (genD A Le it3 Lg gobj g2 nm ++ ([(lst, .seq c_list [])] : DM)))))))) ++ R) fun a => ?_) fun τ N T G s' p' _ _ S' => next s' p' _ ((show StD _ ([(A.ct, .arr c_list #[.ref x0.a, .ref x1.a, .ref x2.a, .ref x3.a, .ref x4.a, .ref x5.a])] ++ (chD x0.a x0.d x0.l x0.sgs ++ (chD x1.a x1.d x1.l x1.sgs ++ (chD x2.a x2.d x2.l x2.sgs ++ (chD x3.a x3.d x3.l x3.sgs ++ (chD x4.a x4.d x4.l x4.sgs ++ (chD x5.a x5.d x5.l x5.sgs ++ (leD A Le nm))))))) ++ R) _ s' from S').reord fun a => ?_)
    · simp only [cnt_append, chC, List.flatMap_cons, List.flatMap_nil, Ch.c, cnt_nil]; omega
    · simp only [cnt_append, chC, List.flatMap_cons, List.flatMap_nil, Ch.c, cnt_nil]; omega
  | [x0, x1, x2, x3, x4, x5, x6], _, _, s, p, S, next => by
    have e : crefs [x0, x1, x2, x3, x4, x5, x6] = #[.ref x0.a, .ref x1.a, .ref x2.a, .ref x3.a, .ref x4.a, .ref x5.a, .ref x6.a] := rfl
    rw [e] at S next
    refine J7 w s₀ b1 b2 Y A k6 Ls cc Le it3 Lg gobj g2 co lst p0 tk nm x0 x1 x2 x3 x4 x5 x6 hne (L := R) (S.reord (d' := [(A.ct, .arr c_list #[.ref x0.a, .ref x1.a, .ref x2.a, .ref x3.a, .ref x4.a, .ref x5.a, .ref x6.a])] ++ (chD x0.a x0.d x0.l x0.sgs ++ (chD x1.a x1.d x1.l x1.sgs ++ (chD x2.a x2.d x2.l x2.sgs ++ (chD x3.a x3.d x3.l x3.sgs ++ (chD x4.a x4.d x4.l x4.sgs ++ (chD x5.a x5.d x5.l x5.sgs ++ (chD x6.a x6.d x6.l x6.sgs ++ (genD A Le it3 Lg gobj g2 nm ++ ([(lst, .seq c_list [])] : DM))))))))) ++ R) fun a => ?_) fun τ N T G s' p' _ _ S' => next s' p' _ ((show StD _ ([(A.ct, .arr c_list #[.ref x0.a, .ref x1.a, .ref x2.a, .ref x3.a, .ref x4.a, .ref x5.a, .ref x6.a])] ++ (chD x0.a x0.d x0.l x0.sgs ++ (chD x1.a x1.d x1.l x1.sgs ++ (chD x2.a x2.d x2.l x2.sgs ++ (chD x3.a x3.d x3.l x3.sgs ++ (chD x4.a x4.d x4.l x4.sgs ++ (chD x5.a x5.d x5.l x5.sgs ++ (chD x6.a x6.d x6.l x6.sgs ++ (leD A Le nm)))))))) ++ R) _ s' from S').reord fun a => ?_)
    · simp only [cnt_append, chC, List.flatMap_cons, List.flatMap_nil, Ch.c, cnt_nil]; omega
    · simp only [cnt_append, chC, List.flatMap_cons, List.flatMap_nil, Ch.c, cnt_nil]; omega
  | [x0, x1, x2, x3, x4, x5, x6, x7], _, _, s, p, S, next => by
    have e : crefs [x0, x1, x2, x3, x4, x5, x6, x7] = #[.ref x0.a, .ref x1.a, .ref x2.a, .ref x3.a, .ref x4.a, .ref x5.a, .ref x6.a, .ref x7.a] := rfl
    rw [e] at S next
    refine J8 w s₀ b1 b2 Y A k6 Ls cc Le it3 Lg gobj g2 co lst p0 tk nm x0 x1 x2 x3 x4 x5 x6 x7 hne (L := R) (S.reord (d' := [(A.ct, .arr c_list #[.ref x0.a, .ref x1.a, .ref x2.a, .ref x3.a, .ref x4.a, .ref x5.a, .ref x6.a, .ref x7.a])] ++ (chD x0.a x0.d x0.l x0.sgs ++ (chD x1.a x1.d x1.l x1.sgs ++ (chD x2.a x2.d x2.l x2.sgs ++ (chD x3.a x3.d x3.l x3.sgs ++ (chD x4.a x4.d x4.l x4.sgs ++ (chD x5.a x5.d x5.l x5.sgs ++ (chD x6.a x6.d x6.l x6.sgs ++ (chD x7.a x7.d x7.l x7.sgs ++ (genD A Le it3 Lg gobj g2 nm ++ ([(lst, .seq c_list [])] : DM)))))))))) ++ R) fun a => ?_) fun τ N T G s' p' _ _ S' => next s' p' _ ((show StD _ ([(A.ct, .arr c_list #[.ref x0.a, .ref x1.a, .ref x2.a, .ref x3.a, .ref x4.a, .ref x5.a, .ref x6.a, .ref x7.a])] ++ (chD x0.a x0.d x0.l x0.sgs ++ (chD x1.a x1.d x1.l x1.sgs ++ (chD x2.a x2.d x2.l x2.sgs ++ (chD x3.a x3.d x3.l x3.sgs ++ (chD x4.a x4.d x4.l x4.sgs ++ (chD x5.a x5.d x5.l x5.sgs ++ (chD x6.a x6.d x6.l x6.sgs ++ (chD x7.a x7.d x7.l x7.sgs ++ (leD A Le nm))))))))) ++ R) _ s' from S').reord fun a => ?_)
    · simp only [cnt_append, chC, List.flatMap_cons, List.flatMap_nil, Ch.c, cnt_nil]; omega
    · simp only [cnt_append, chC, List.flatMap_cons, List.flatMap_nil, Ch.c, cnt_nil]; omega
  | [x0, x1, x2, x3, x4, x5, x6, x7, x8], _, _, s, p, S, next => by
    have e : crefs [x0, x1, x2, x3, x4, x5, x6, x7, x8] = #[.ref x0.a, .ref x1.a, .ref x2.a, .ref x3.a, .ref x4.a, .ref x5.a, .ref x6.a, .ref x7.a, .ref x8.a] := rfl
    rw [e] at S next
    refine J9 w s₀ b1 b2 Y A k6 Ls cc Le it3 Lg gobj g2 co lst p0 tk nm x0 x1 x2 x3 x4 x5 x6 x7 x8 hne (L := R) (S.reord (d' := [(A.ct, .arr c_list #[.ref x0.a, .ref x1.a, .ref x2.a, .ref x3.a, .ref x4.a, .ref x5.a, .ref x6.a, .ref x7.a, .ref x8.a])] ++ (chD x0.a x0.d x0.l x0.sgs ++ (chD x1.a x1.d x1.l x1.sgs ++ (chD x2.a x2.d x2.l x2.sgs ++ (chD x3.a x3.d x3.l x3.sgs ++ (chD x4.a x4.d x4.l x4.sgs ++ (chD x5.a x5.d x5.l x5.sgs ++ (chD x6.a x6.d x6.l x6.sgs ++ (chD x7.a x7.d x7.l x7.sgs ++ (chD x8.a x8.d x8.l x8.sgs ++ (genD A Le it3 Lg gobj g2 nm ++ ([(lst, .seq c_list [])] : DM))))))))))) ++ R) fun a => ?_) fun τ N T G s' p' _ _ S' => next s' p' _ ((show StD _ ([(A.ct, .arr c_list #[.ref x0.a, .ref x1.a, .ref x2.a, .ref x3.a, .ref x4.a, .ref x5.a, .ref x6.a, .ref x7.a, .ref x8.a])] ++ (chD x0.a x0.d x0.l x0.sgs ++ (chD x1.a x1.d x1.l x1.sgs ++ (chD x2.a x2.d x2.l x2.sgs ++ (chD x3.a x3.d x3.l x3.sgs ++ (chD x4.a x4.d x4.l x4.sgs ++ (chD x5.a x5.d x5.l x5.sgs ++ (chD x6.a x6.d x6.l x6.sgs ++ (chD x7.a x7.d x7.l x7.sgs ++ (chD x8.a x8.d x8.l x8.sgs ++ (leD A Le nm)))))))))) ++ R) _ s' from S').reord fun a => ?_)
    · simp only [cnt_append, chC, List.flatMap_cons, List.flatMap_nil, Ch.c, cnt_nil]; omega
    · simp only [cnt_append, chC, List.flatMap_cons, List.flatMap_nil, Ch.c, cnt_nil]; omega
  | [x0, x1, x2, x3, x4, x5, x6, x7, x8, x9], _, _, s, p, S, next => by
    have e : crefs [x0, x1, x2, x3, x4, x5, x6, x7, x8, x9] = #[.ref x0.a, .ref x1.a, .ref x2.a, .ref x3.a, .ref x4.a, .ref x5.a, .ref x6.a, .ref x7.a, .ref x8.a, .ref x9.a] := rfl
    rw [e] at S next
    refine J10 w s₀ b1 b2 Y A k6 Ls cc Le it3 Lg gobj g2 co lst p0 tk nm x0 x1 x2 x3 x4 x5 x6 x7 x8 x9 hne (L := R) (S.reord (d' := [(A.ct, .arr c_list #[.ref x0.a, .ref x1.a, .ref x2.a, .ref x3.a, .ref x4.a, .ref x5.a, .ref x6.a, .ref x7.a, .ref x8.a, .ref x9.a])] ++ (chD x0.a x0.d x0.l x0.sgs ++ (chD x1.a x1.d x1.l x1.sgs ++ (chD x2.a x2.d x2.l x2.sgs ++ (chD x3.a x3.d x3.l x3.sgs ++ (chD x4.a x4.d x4.l x4.sgs ++ (chD x5.a x5.d x5.l x5.sgs ++ (chD x6.a x6.d x6.l x6.sgs ++ (chD x7.a x7.d x7.l x7.sgs ++ (chD x8.a x8.d x8.l x8.sgs ++ (chD x9.a x9.d x9.l x9.sgs ++ (genD A Le it3 Lg gobj g2 nm ++ ([(lst, .seq c_list [])] : DM)))))))))))) ++ R) fun a => ?_) fun τ N T G s' p' _ _ S' => next s' p' _ ((show StD _ ([(A.ct, .arr c_list #[.ref x0.a, .ref x1.a, .ref x2.a, .ref x3.a, .ref x4.a, .ref x5.a, .ref x6.a, .ref x7.a, .ref x8.a, .ref x9.a])] ++ (chD x0.a x0.d x0.l x0.sgs ++ (chD x1.a x1.d x1.l x1.sgs ++ (chD x2.a x2.d x2.l x2.sgs ++ (chD x3.a x3.d x3.l x3.sgs ++ (chD x4.a x4.d x4.l x4.sgs ++ (chD x5.a x5.d x5.l x5.sgs ++ (chD x6.a x6.d x6.l x6.sgs ++ (chD x7.a x7.d x7.l x7.sgs ++ (chD x8.a x8.d x8.l x8.sgs ++ (chD x9.a x9.d x9.l x9.sgs ++ (leD A Le nm))))))))))) ++ R) _ s' from S').reord fun a => ?_)
    · simp only [cnt_append, chC, List.flatMap_cons, List.flatMap_nil, Ch.c, cnt_nil]; omega
    · simp only [cnt_append, chC, List.flatMap_cons, List.flatMap_nil, Ch.c, cnt_nil]; omega
  | [x0, x1, x2, x3, x4, x5, x6, x7, x8, x9, x10], _, _, s, p, S, next => by
    have e : crefs [x0, x1, x2, x3, x4, x5, x6, x7, x8, x9, x10] = #[.ref x0.a, .ref x1.a, .ref x2.a, .ref x3.a, .ref x4.a, .ref x5.a, .ref x6.a, .ref x7.a, .ref x8.a, .ref x9.a, .ref x10.a] := rfl
    rw [e] at S next
    refine J11 w s₀ b1 b2 Y A k6 Ls cc Le it3 Lg gobj g2 co lst p0 tk nm x0 x1 x2 x3 x4 x5 x6 x7 x8 x9 x10 hne (L := R) (S.reord (d' := [(A.ct, .arr c_list #[.ref x0.a, .ref x1.a, .ref x2.a, .ref x3.a, .ref x4.a, .ref x5.a, .ref x6.a, .ref x7.a, .ref x8.a, .ref x9.a, .ref x10.a])] ++ (chD x0.a x0.d x0.l x0.sgs ++ (chD x1.a x1.d x1.l x1.sgs ++ (chD x2.a x2.d x2.l x2.sgs ++ (chD x3.a x3.d x3.l x3.sgs ++ (chD x4.a x4.d x4.l x4.sgs ++ (chD x5.a x5.d x5.l x5.sgs ++ (chD x6.a x6.d x6.l x6.sgs ++ (chD x7.a x7.d x7.l x7.sgs ++ (chD x8.a x8.d x8.l x8.sgs ++ (chD x9.a x9.d x9.l x9.sgs ++ (chD x10.a x10.d x10.l x10.sgs ++ (genD A Le it3 Lg gobj g2 nm ++ ([(lst, .seq c_list [])] : DM))))))))))))) ++ R) fun a => ?_) fun τ N T G s' p' _ _ S' => next s' p' _ ((show StD _ ([(A.ct, .arr c_list #[.ref x0.a, .ref x1.a, .ref x2.a, .ref x3.a, .ref x4.a, .ref x5.a, .ref x6.a, .ref x7.a, .ref x8.a, .ref x9.a, .ref x10.a])] ++ (chD x0.a x0.d x0.l x0.sgs ++ (chD x1.a x1.d x1.l x1.sgs ++ (chD x2.a x2.d x2.l x2.sgs ++ (chD x3.a x3.d x3.l x3.sgs ++ (chD x4.a x4.d x4.l x4.sgs ++ (chD x5.a x5.d x5.l x5.sgs ++ (chD x6.a x6.d x6.l x6.sgs ++ (chD x7.a x7.d x7.l x7.sgs ++ (chD x8.a x8.d x8.l x8.sgs ++ (chD x9.a x9.d x9.l x9.sgs ++ (chD x10.a x10.d x10.l x10.sgs ++ (leD A Le nm)))))))))))) ++ R) _ s' from S').reord fun a => ?_)
    · simp only [cnt_append, chC, List.flatMap_cons, List.flatMap_nil, Ch.c, cnt_nil]; omega
    · simp only [cnt_append, chC, List.flatMap_cons, List.flatMap_nil, Ch.c, cnt_nil]; omega
  | [x0, x1, x2, x3, x4, x5, x6, x7, x8, x9, x10, x11], _, _, s, p, S, next => by
    have e : crefs [x0, x1, x2, x3, x4, x5, x6, x7, x8, x9, x10, x11] = #[.ref x0.a, .ref x1.a, .ref x2.a, .ref x3.a, .ref x4.a, .ref x5.a, .ref x6.a, .ref x7.a, .ref x8.a, .ref x9.a, .ref x10.a, .ref x11.a] := rfl
    rw [e] at S next
    refine J12 w s₀ b1 b2 Y A k6 Ls cc Le it3 Lg gobj g2 co lst p0 tk nm x0 x1 x2 x3 x4 x5 x6 x7 x8 x9 x10 x11 hne (L := R) (S.reord (d' := [(A.ct, .arr c_list #[.ref x0.a, .ref x1.a, .ref x2.a, .ref x3.a, .ref x4.a, .ref x5.a, .ref x6.a, .ref x7.a, .ref x8.a, .ref x9.a, .ref x10.a, .ref x11.a])] ++ (chD x0.a x0.d x0.l x0.sgs ++ (chD x1.a x1.d x1.l x1.sgs ++ (chD x2.a x2.d x2.l x2.sgs ++ (chD x3.a x3.d x3.l x3.sgs ++ (chD x4.a x4.d x4.l x4.sgs ++ (chD x5.a x5.d x5.l x5.sgs ++ (chD x6.a x6.d x6.l x6.sgs ++ (chD x7.a x7.d x7.l x7.sgs ++ (chD x8.a x8.d x8.l x8.sgs ++ (chD x9.a x9.d x9.l x9.sgs ++ (chD x10.a x10.d x10.l x10.sgs ++ (chD x11.a x11.d x11.l x11.sgs ++ (genD A Le it3 Lg gobj g2 nm ++ ([(lst, .seq c_list [])] : DM)))))))))))))) ++ R) fun a => ?_) fun τ N T G s' p' _ _ S' => next s' p' _ ((show StD _ ([(A.ct, .arr c_list #[.ref x0.a, .ref x1.a, .ref x2.a, .ref x3.a, .ref x4.a, .ref x5.a, .ref x6.a, .ref x7.a, .ref x8.a, .ref x9.a, .ref x10.a, .ref x11.a])] ++ (chD x0.a x0.d x0.l x0.sgs ++ (chD x1.a x1.d x1.l x1.sgs ++ (chD x2.a x2.d x2.l x2.sgs ++ (chD x3.a x3.d x3.l x3.sgs ++ (chD x4.a x4.d x4.l x4.sgs ++ (chD x5.a x5.d x5.l x5.sgs ++ (chD x6.a x6.d x6.l x6.sgs ++ (chD x7.a x7.d x7.l x7.sgs ++ (chD x8.a x8.d x8.l x8.sgs ++ (chD x9.a x9.d x9.l x9.sgs ++ (chD x10.a x10.d x10.l x10.sgs ++ (chD x11.a x11.d x11.l x11.sgs ++ (leD A Le nm))))))))))))) ++ R) _ s' from S').reord fun a => ?_)
    · simp only [cnt_append, chC, List.flatMap_cons, List.flatMap_nil, Ch.c, cnt_nil]; omega
    · simp only [cnt_append, chC, List.flatMap_cons, List.flatMap_nil, Ch.c, cnt_nil]; omega
  | [x0, x1, x2, x3, x4, x5, x6, x7, x8, x9, x10, x11, x12], _, _, s, p, S, next => by
    have e : crefs [x0, x1, x2, x3, x4, x5, x6, x7, x8, x9, x10, x11, x12] = #[.ref x0.a, .ref x1.a, .ref x2.a, .ref x3.a, .ref x4.a, .ref x5.a, .ref x6.a, .ref x7.a, .ref x8.a, .ref x9.a, .ref x10.a, .ref x11.a, .ref x12.a] := rfl
    rw [e] at S next
    refine J13 w s₀ b1 b2 Y A k6 Ls cc Le it3 Lg gobj g2 co lst p0 tk nm x0 x1 x2 x3 x4 x5 x6 x7 x8 x9 x10 x11 x12 hne (L := R) (S.reord (d' := [(A.ct, .arr c_list #[.ref x0.a, .ref x1.a, .ref x2.a, .ref x3.a, .ref x4.a, .ref x5.a, .ref x6.a, .ref x7.a, .ref x8.a, .ref x9.a, .ref x10.a, .ref x11.a, .ref x12.a])] ++ (chD x0.a x0.d x0.l x0.sgs ++ (chD x1.a x1.d x1.l x1.sgs ++ (chD x2.a x2.d x2.l x2.sgs ++ (chD x3.a x3.d x3.l x3.sgs ++ (chD x4.a x4.d x4.l x4.sgs ++ (chD x5.a x5.d x5.l x5.sgs ++ (chD x6.a x6.d x6.l x6.sgs ++ (chD x7.a x7.d x7.l x7.sgs ++ (chD x8.a x8.d x8.l x8.sgs ++ (chD x9.a x9.d x9.l x9.sgs ++ (chD x10.a x10.d x10.l x10.sgs ++ (chD x11.a x11.d x11.l x11.sgs ++ (chD x12.a x12.d x12.l x12.sgs ++ (genD A Le it3 Lg gobj g2 nm ++ ([(lst, .seq c_list [])] : DM))))))))))))))) ++ R) fun a => ?_) fun τ N T G s' p' _ _ S' => next s' p' _ ((show StD _ ([(A.ct, .arr c_list #[.ref x0.a, .ref x1.a, .ref x2.a, .ref x3.a, .ref x4.a, .ref x5.a, .ref x6.a, .ref x7.a, .ref x8.a, .ref x9.a, .ref x10.a, .ref x11.a, .ref x12.a])] ++ (chD x0.a x0.d x0.l x0.sgs ++ (chD x1.a x1.d x1.l x1.sgs ++ (chD x2.a x2.d x2.l x2.sgs ++ (chD x3.a x3.d x3.l x3.sgs ++ (chD x4.a x4.d x4.l x4.sgs ++ (chD x5.a x5.d x5.l x5.sgs ++ (chD x6.a x6.d x6.l x6.sgs ++ (chD x7.a x7.d x7.l x7.sgs ++ (chD x8.a x8.d x8.l x8.sgs ++ (chD x9.a x9.d x9.l x9.sgs ++ (chD x10.a x10.d x10.l x10.sgs ++ (chD x11.a x11.d x11.l x11.sgs ++ (chD x12.a x12.d x12.l x12.sgs ++ (leD A Le nm)))))))))))))) ++ R) _ s' from S').reord fun a => ?_)
    · simp only [cnt_append, chC, List.flatMap_cons, List.flatMap_nil, Ch.c, cnt_nil]; omega
    · simp only [cnt_append, chC, List.flatMap_cons, List.flatMap_nil, Ch.c, cnt_nil]; omega
  | [x0, x1, x2, x3, x4, x5, x6, x7, x8, x9, x10, x11, x12, x13], _, _, s, p, S, next => by
    have e : crefs [x0, x1, x2, x3, x4, x5, x6, x7, x8, x9, x10, x11, x12, x13] = #[.ref x0.a, .ref x1.a, .ref x2.a, .ref x3.a, .ref x4.a, .ref x5.a, .ref x6.a, .ref x7.a, .ref x8.a, .ref x9.a, .ref x10.a, .ref x11.a, .ref x12.a, .ref x13.a] := rfl
    rw [e] at S next
    refine J14 w s₀ b1 b2 Y A k6 Ls cc Le it3 Lg gobj g2 co lst p0 tk nm x0 x1 x2 x3 x4 x5 x6 x7 x8 x9 x10 x11 x12 x13 hne (L := R) (S.reord (d' := [(A.ct, .arr c_list #[.ref x0.a, .ref x1.a, .ref x2.a, .ref x3.a, .ref x4.a, .ref x5.a, .ref x6.a, .ref x7.a, .ref x8.a, .ref x9.a, .ref x10.a, .ref x11.a, .ref x12.a, .ref x13.a])] ++ (chD x0.a x0.d x0.l x0.sgs ++ (chD x1.a x1.d x1.l x1.sgs ++ (chD x2.a x2.d x2.l x2.sgs ++ (chD x3.a x3.d x3.l x3.sgs ++ (chD x4.a x4.d x4.l x4.sgs ++ (chD x5.a x5.d x5.l x5.sgs ++ (chD x6.a x6.d x6.l x6.sgs ++ (chD x7.a x7.d x7.l x7.sgs ++ (chD x8.a x8.d x8.l x8.sgs ++ (chD x9.a x9.d x9.l x9.sgs ++ (chD x10.a x10.d x10.l x10.sgs ++ (chD x11.a x11.d x11.l x11.sgs ++ (chD x12.a x12.d x12.l x12.sgs ++ (chD x13.a x13.d x13.l x13.sgs ++ (genD A Le it3 Lg gobj g2 nm ++ ([(lst, .seq c_list [])] : DM)))))))))))))))) ++ R) fun a => ?_) fun τ N T G s' p' _ _ S' => next s' p' _ ((show StD _ ([(A.ct, .arr c_list #[.ref x0.a, .ref x1.a, .ref x2.a, .ref x3.a, .ref x4.a, .ref x5.a, .ref x6.a, .ref x7.a, .ref x8.a, .ref x9.a, .ref x10.a, .ref x11.a, .ref x12.a, .ref x13.a])] ++ (chD x0.a x0.d x0.l x0.sgs ++ (chD x1.a x1.d x1.l x1.sgs ++ (chD x2.a x2.d x2.l x2.sgs ++ (chD x3.a x3.d x3.l x3.sgs ++ (chD x4.a x4.d x4.l x4.sgs ++ (chD x5.a x5.d x5.l x5.sgs ++ (chD x6.a x6.d x6.l x6.sgs ++ (chD x7.a x7.d x7.l x7.sgs ++ (chD x8.a x8.d x8.l x8.sgs ++ (chD x9.a x9.d x9.l x9.sgs ++ (chD x10.a x10.d x10.l x10.sgs ++ (chD x11.a x11.d x11.l x11.sgs ++ (chD x12.a x12.d x12.l x12.sgs ++ (chD x13.a x13.d x13.l x13.sgs ++ (leD A Le nm))))))))))))))) ++ R) _ s' from S').reord fun a => ?_)
    · simp only [cnt_append, chC, List.flatMap_cons, List.flatMap_nil, Ch.c, cnt_nil]; omega
    · simp only [cnt_append, chC, List.flatMap_cons, List.flatMap_nil, Ch.c, cnt_nil]; omega
  | [x0, x1, x2, x3, x4, x5, x6, x7, x8, x9, x10, x11, x12, x13, x14], _, _, s, p, S, next => by
    have e : crefs [x0, x1, x2, x3, x4, x5, x6, x7, x8, x9, x10, x11, x12, x13, x14] = #[.ref x0.a, .ref x1.a, .ref x2.a, .ref x3.a, .ref x4.a, .ref x5.a, .ref x6.a, .ref x7.a, .ref x8.a, .ref x9.a, .ref x10.a, .ref x11.a, .ref x12.a, .ref x13.a, .ref x14.a] := rfl
    rw [e] at S next
    refine J15 w s₀ b1 b2 Y A k6 Ls cc Le it3 Lg gobj g2 co lst p0 tk nm x0 x1 x2 x3 x4 x5 x6 x7 x8 x9 x10 x11 x12 x13 x14 hne (L := R) (S.reord (d' := [(A.ct, .arr c_list #[.ref x0.a, .ref x1.a, .ref x2.a, .ref x3.a, .ref x4.a, .ref x5.a, .ref x6.a, .ref x7.a, .ref x8.a, .ref x9.a, .ref x10.a, .ref x11.a, .ref x12.a, .ref x13.a, .ref x14.a])] ++ (chD x0.a x0.d x0.l x0.sgs ++ (chD x1.a x1.d x1.l x1.sgs ++ (chD x2.a x2.d x2.l x2.sgs ++ (chD x3.a x3.d x3.l x3.sgs ++ (chD x4.a x4.d x4.l x4.sgs ++ (chD x5.a x5.d x5.l x5.sgs ++ (chD x6.a x6.d x6.l x6.sgs ++ (chD x7.a x7.d x7.l x7.sgs ++ (chD x8.a x8.d x8.l x8.sgs ++ (chD x9.a x9.d x9.l x9.sgs ++ (chD x10.a x10.d x10.l x10.sgs ++ (chD x11.a x11.d x11.l x11.sgs ++ (chD x12.a x12.d x12.l x12.sgs ++ (chD x13.a x13.d x13.l x13.sgs ++ (chD x14.a x14.d x14.l x14.sgs ++ (genD A Le it3 Lg gobj g2 nm ++ ([(lst, .seq c_list [])] : DM))))))))))))))))) ++ R) fun a => ?_) fun τ N T G s' p' _ _ S' => next s' p' _ ((show StD _ ([(A.ct, .arr c_list #[.ref x0.a, .ref x1.a, .ref x2.a, .ref x3.a, .ref x4.a, .ref x5.a, .ref x6.a, .ref x7.a, .ref x8.a, .ref x9.a, .ref x10.a, .ref x11.a, .ref x12.a, .ref x13.a, .ref x14.a])] ++ (chD x0.a x0.d x0.l x0.sgs ++ (chD x1.a x1.d x1.l x1.sgs ++ (chD x2.a x2.d x2.l x2.sgs ++ (chD x3.a x3.d x3.l x3.sgs ++ (chD x4.a x4.d x4.l x4.sgs ++ (chD x5.a x5.d x5.l x5.sgs ++ (chD x6.a x6.d x6.l x6.sgs ++ (chD x7.a x7.d x7.l x7.sgs ++ (chD x8.a x8.d x8.l x8.sgs ++ (chD x9.a x9.d x9.l x9.sgs ++ (chD x10.a x10.d x10.l x10.sgs ++ (chD x11.a x11.d x11.l x11.sgs ++ (chD x12.a x12.d x12.l x12.sgs ++ (chD x13.a x13.d x13.l x13.sgs ++ (chD x14.a x14.d x14.l x14.sgs ++ (leD A Le nm)))))))))))))))) ++ R) _ s' from S').reord fun a => ?_)
    · simp only [cnt_append, chC, List.flatMap_cons, List.flatMap_nil, Ch.c, cnt_nil]; omega
    · simp only [cnt_append, chC, List.flatMap_cons, List.flatMap_nil, Ch.c, cnt_nil]; omega
  | [x0, x1, x2, x3, x4, x5, x6, x7, x8, x9, x10, x11, x12, x13, x14, x15], _, _, s, p, S, next => by
    have e : crefs [x0, x1, x2, x3, x4, x5, x6, x7, x8, x9, x10, x11, x12, x13, x14, x15] = #[.ref x0.a, .ref x1.a, .ref x2.a, .ref x3.a, .ref x4.a, .ref x5.a, .ref x6.a, .ref x7.a, .ref x8.a, .ref x9.a, .ref x10.a, .ref x11.a, .ref x12.a, .ref x13.a, .ref x14.a, .ref x15.a] := rfl
    rw [e] at S next
    refine J16 w s₀ b1 b2 Y A k6 Ls cc Le it3 Lg gobj g2 co lst p0 tk nm x0 x1 x2 x3 x4 x5 x6 x7 x8 x9 x10 x11 x12 x13 x14 x15 hne (L := R) (S.reord (d' := [(A.ct, .arr c_list #[.ref x0.a, .ref x1.a, .ref x2.a, .ref x3.a, .ref x4.a, .ref x5.a, .ref x6.a, .ref x7.a, .ref x8.a, .ref x9.a, .ref x10.a, .ref x11.a, .ref x12.a, .ref x13.a, .ref x14.a, .ref x15.a])] ++ (chD x0.a x0.d x0.l x0.sgs ++ (chD x1.a x1.d x1.l x1.sgs ++ (chD x2.a x2.d x2.l x2.sgs ++ (chD x3.a x3.d x3.l x3.sgs ++ (chD x4.a x4.d x4.l x4.sgs ++ (chD x5.a x5.d x5.l x5.sgs ++ (chD x6.a x6.d x6.l x6.sgs ++ (chD x7.a x7.d x7.l x7.sgs ++ (chD x8.a x8.d x8.l x8.sgs ++ (chD x9.a x9.d x9.l x9.sgs ++ (chD x10.a x10.d x10.l x10.sgs ++ (chD x11.a x11.d x11.l x11.sgs ++ (chD x12.a x12.d x12.l x12.sgs ++ (chD x13.a x13.d x13.l x13.sgs ++ (chD x14.a x14.d x14.l x14.sgs ++ (chD x15.a x15.d x15.l x15.sgs ++ (genD A Le it3 Lg gobj g2 nm ++ ([(lst, .seq c_list [])] : DM)))))))))))))))))) ++ R) fun a => ?_) fun τ N T G s' p' _ _ S' => next s' p' _ ((show StD _ ([(A.ct, .arr c_list #[.ref x0.a, .ref x1.a, .ref x2.a, .ref x3.a, .ref x4.a, .ref x5.a, .ref x6.a, .ref x7.a, .ref x8.a, .ref x9.a, .ref x10.a, .ref x11.a, .ref x12.a, .ref x13.a, .ref x14.a, .ref x15.a])] ++ (chD x0.a x0.d x0.l x0.sgs ++ (chD x1.a x1.d x1.l x1.sgs ++ (chD x2.a x2.d x2.l x2.sgs ++ (chD x3.a x3.d x3.l x3.sgs ++ (chD x4.a x4.d x4.l x4.sgs ++ (chD x5.a x5.d x5.l x5.sgs ++ (chD x6.a x6.d x6.l x6.sgs ++ (chD x7.a x7.d x7.l x7.sgs ++ (chD x8.a x8.d x8.l x8.sgs ++ (chD x9.a x9.d x9.l x9.sgs ++ (chD x10.a x10.d x10.l x10.sgs ++ (chD x11.a x11.d x11.l x11.sgs ++ (chD x12.a x12.d x12.l x12.sgs ++ (chD x13.a x13.d x13.l x13.sgs ++ (chD x14.a x14.d x14.l x14.sgs ++ (chD x15.a x15.d x15.l x15.sgs ++ (leD A Le nm))))))))))))))))) ++ R) _ s' from S').reord fun a => ?_)
    · simp only [cnt_append, chC, List.flatMap_cons, List.flatMap_nil, Ch.c, cnt_nil]; omega
    · simp only [cnt_append, chC, List.flatMap_cons, List.flatMap_nil, Ch.c, cnt_nil]; omega
  | _ :: _ :: _ :: _ :: _ :: _ :: _ :: _ :: _ :: _ :: _ :: _ :: _ :: _ :: _ :: _ ::  _ :: _, _, h, _, _, _, _ => by simp only [List.length_cons] at h; omega
end
end Mine
end

section
set_option maxRecDepth 100000
set_option maxHeartbeats 4000000
namespace Mine
open PySem PySem.W PySem.W.X
section
variable {w : World} {s₀ : Shared} {b1 b2 : Bool} (Y : Sys (K5 w s₀ b1 b2)) (A : LA) (v16 : Value) (k6 : Result → Sem Fin)
theorem item0 {l : List CO} {p : CO → Bool} {o : CO} (h : l.find? p = some o) : ItemAt (refs (l.filter p)) 0 (.ref o.a) := by
  refine ⟨Int.le_refl 0, by decide, ?_⟩
  show (refs (l.filter p))[0]? = _
  rw [refs_get, ← List.head?_eq_getElem?, List.head?_filter, h]
  rfl
theorem lexA (chs : List Ch) (cls : List CO) (hc : cls.length ≤ 100) (got : Array Value) (R : DM) (p : Nat) (x : Ch) (hx : chs[p]? = some x) (o : CO) (ho : cls.find? (fun o => inS o.hd x.sg) = some o) (e : Bool) (k : Nat) (pb : Option Addr) (hat : At chs p e k pb)
    {s : Shared} {pos : Pos} (S : StD (K5 w s₀ b1 b2) (lexDM w.params A v16 e k pb #[] (crefs chs) (refs cls) got none (.ref A.fst) ++ (chM chs ++ (clsM cls ++ R))) (GR A) s)
    (next : ∀ s' p' La Ls cc, StD (K5 w s₀ b1 b2) (lexDM w.params A v16 false (p + 1) none (crefs [x]) (crefs chs) (refs cls) got none (.ref A.fst) ++ (lsD Ls o.nm o.hd o.rv o.tv o.dv ++ (laD A La o.rv.val ++ (chM chs ++ (clsM cls ++ R))))) (GR A) s' →
      Y.H s' ⟨denF (arLoop w.params La), arLoop w.params La, p', fsAR w.params A k6 false Ls cc La⟩) :
    Y.H s ⟨denF (cInner w.params A), cInner w.params A, pos, fs0 w.params A k6⟩ := by
  obtain ⟨Rx, hR⟩ := ch_split (List.mem_of_getElem? hx)
  obtain ⟨Ro, hO⟩ := cls_split (List.mem_of_find?_eq_some ho)
  have hne : cls ≠ [] := by intro h; rw [h] at ho; cases ho
  obtain ⟨ko, hko⟩ : ∃ ko, cls.getLast?.map CO.a = some ko := by
    rw [List.getLast?_eq_some_getLast hne]; exact ⟨_, rfl⟩
  have hk : (crefs chs)[p]? = some (.ref x.a) := by rw [crefs_get, hx]; rfl
  have S1 := S.reord (d' := lexDM w.params A v16 e k pb #[] (crefs chs) (refs cls) got none (.ref A.fst) ++ chD x.a x.d x.l x.sgs ++ (locD x ++ (Rx ++ (clsM cls ++ R)))) fun a => by
    simp only [cnt_append, hR]; omega
  have rest : ∀ (s' : Shared) (p' : Pos) (N : Nat), StD (K5 w s₀ b1 b2) (lexDM w.params A v16 false (p + 1) none #[.ref x.a] (crefs chs) (refs cls) got none (.ref A.fst) ++ (chD x.a x.d x.l x.sgs ++ stD A N (N + 1) x.a (N + 3) 0 #[] none) ++ (locD x ++ (Rx ++ (clsM cls ++ R)))) (GR A) s' →
      Y.H s' ⟨denF (oComp w.params A N (N + 1) (N + 3)).c, (oComp w.params A N (N + 1) (N + 3)).c, p', fsC w.params A k6 N (N + 1) (N + 3)⟩ := by
    intro s' p' N S'
    refine CS1 w s₀ b1 b2 Y A v16 (crefs chs) (refs cls) got k6 (p + 1) none N (N + 1) (N + 3) x.a x.d x.l x.sgs S' fun τ N' T G s'' p'' _ _ S'' => ?_
    refine lexCls Y A v16 k6 (crefs chs) got (p + 1) x N (N + 1) (N + 3) cls hc (locD x ++ (Rx ++ R)) cls [] rfl ((show StD (K5 w s₀ b1 b2) (lexDM w.params A v16 false (p + 1) none #[.ref x.a] (crefs chs) (refs cls) got none (.ref A.fst) ++ (chD x.a x.d x.l x.sgs ++ stD A N (N + 1) x.a (N + 3) 0 (refs []) none) ++ (locD x ++ (Rx ++ (clsM cls ++ R)))) (GR A) s'' from S'').reord fun a => ?_) fun s3 p3 S3 => ?_
    · simp only [cnt_append, List.length_nil, List.filter_nil, List.getLast?_nil, Option.map_none]; omega
    rw [hko] at S3
    have S4 := S3.reord (d' := lexDM w.params A v16 false (p + 1) none #[.ref x.a] (crefs chs) (refs cls) got none (.ref A.fst) ++ (chD x.a x.d x.l x.sgs ++ (stD A N (N + 1) x.a (N + 3) cls.length (refs (cls.filter fun o => inS o.hd x.sg)) (some ko) ++ kD o.a o.nm o.hd o.rv o.tv o.dv)) ++ (svD o.rv o.ry ++ (svD o.tv o.ty ++ (Ro ++ (locD x ++ (Rx ++ R)))))) fun a => by
      simp only [cnt_append, hO]; omega
    refine A3 w s₀ b1 b2 Y A v16 (crefs chs) (refs cls) got k6 (p + 1) N (N + 1) (N + 3) x.a x.d x.l x.sgs cls.length _ ko o.a o.nm o.hd o.rv o.tv o.dv (by rw [refs_get, List.getElem?_eq_none (Nat.le_refl _)]; rfl) (item0 ho) S4 fun τ N4 T G s5 p5 _ _ S5 => ?_
    refine next s5 p5 _ _ _ ((show StD (K5 w s₀ b1 b2) (lexDM w.params A v16 false (p + 1) none (crefs [x]) (crefs chs) (refs cls) got none (.ref A.fst) ++ (chD x.a x.d x.l x.sgs ++ (lsD N o.nm o.hd o.rv o.tv o.dv ++ (laD A (N4 + 5) o.rv.val ++ kD o.a o.nm o.hd o.rv o.tv o.dv))) ++ (svD o.rv o.ry ++ (svD o.tv o.ty ++ (Ro ++ (locD x ++ (Rx ++ R)))))) (GR A) s5 from S5).reord fun a => ?_)
    simp only [cnt_append, hO, hR]; omega
  rcases hat with ⟨rfl, rfl, rfl⟩ | ⟨y, hy, rfl, rfl, rfl⟩ | ⟨h, -⟩
  · exact A1n w s₀ b1 b2 Y A v16 (crefs chs) (refs cls) got k6 _ x.a x.d x.l x.sgs hk S1 fun τ N T G s' p' _ _ S' => rest s' p' N S'
  · rw [hx] at hy; cases hy
    exact A1p w s₀ b1 b2 Y A v16 (crefs chs) (refs cls) got k6 _ x.a x.d x.l x.sgs S1 fun τ N T G s' p' _ _ S' => rest s' p' N S'
  · rw [h, List.getElem?_eq_none (Nat.le_refl _)] at hx; cases hx

noncomputable def mid (chs : List Ch) (o : CO) (p : Nat) : Nat := p + 1 + runLen o.rv o.ry (chs.drop (p + 1))
noncomputable def fin (chs : List Ch) (o : CO) (p : Nat) : Nat := mid chs o p + runLen o.tv o.ty (chs.drop (mid chs o p))
noncomputable def took (chs : List Ch) (o : CO) (p : Nat) (x : Ch) : List Ch := ([x] ++ (chs.drop (p + 1)).takeWhile fun y => svIn o.rv o.ry y.sg) ++ (chs.drop (mid chs o p)).takeWhile fun y => svIn o.tv o.ty y.sg
theorem runLen_le (va : SV) (vy : Array Value) (l : List Ch) : runLen va vy l ≤ l.length := by
  unfold runLen; exact (List.takeWhile_prefix _).length_le
theorem mid_le {chs : List Ch} {o : CO} {p : Nat} (h : p < chs.length) : mid chs o p ≤ chs.length := by
  unfold mid
  have := runLen_le o.rv o.ry (chs.drop (p + 1))
  rw [List.length_drop] at this
  omega
theorem mid_gt (chs : List Ch) (o : CO) (p : Nat) : p < mid chs o p := by unfold mid; omega
theorem fin_gt (chs : List Ch) (o : CO) (p : Nat) : p < fin chs o p := by have := mid_gt chs o p; unfold fin; omega
theorem fin_le {chs : List Ch} {o : CO} {p : Nat} (h : p < chs.length) : fin chs o p ≤ chs.length := by
  unfold fin
  have h1 := mid_le (o := o) h
  have := runLen_le o.tv o.ty (chs.drop (mid chs o p))
  rw [List.length_drop] at this
  omega
theorem took_length {chs : List Ch} (o : CO) (p : Nat) (x : Ch) : (took chs o p x).length = fin chs o p - p := by
  unfold took fin mid runLen
  simp only [List.length_append, List.length_singleton]
  omega
theorem lexB (chs : List Ch) (hn : chs.length ≤ 100) (cls : List CO) (got : Array Value) (R : DM) (p : Nat) (x : Ch) (hx : chs[p]? = some x) (o : CO) (ho : o ∈ cls) (hok : o.ok) (La Ls cc : Addr)
    {s : Shared} {pos : Pos} (S : StD (K5 w s₀ b1 b2) (lexDM w.params A v16 false (p + 1) none (crefs [x]) (crefs chs) (refs cls) got none (.ref A.fst) ++ (lsD Ls o.nm o.hd o.rv o.tv o.dv ++ (laD A La o.rv.val ++ (chM chs ++ (clsM cls ++ R))))) (GR A) s)
    (next : ∀ s' p' La' e' k' pb', AtS chs (fin chs o p) e' k' pb' → StD (K5 w s₀ b1 b2) (lexDM w.params A v16 e' k' pb' (crefs (took chs o p x)) (crefs chs) (refs cls) got none (.ref A.fst) ++ (lsD Ls o.nm o.hd o.rv o.tv o.dv ++ (chM chs ++ (clsM cls ++ R)))) (GR A) s' →
      Y.H s' ⟨.pure (.done .next), arLoop w.params La', p', fsAR w.params A k6 true Ls cc La'⟩) :
    Y.H s ⟨denF (arLoop w.params La), arLoop w.params La, pos, fsAR w.params A k6 false Ls cc La⟩ := by
  obtain ⟨Ro, hO⟩ := cls_split ho
  have hlt : p < chs.length := (List.getElem?_eq_some_iff.mp hx).1
  refine arAll Y A v16 k6 false (refs cls) got La Ls cc o.rv o.ry hok.1 chs hn (lsD Ls o.nm o.hd o.rv o.tv o.dv ++ (kD o.a o.nm o.hd o.rv o.tv o.dv ++ (svD o.tv o.ty ++ (Ro ++ R)))) _ (p + 1) false (p + 1) none [x] rfl (by omega) (by simp) (.inl ⟨rfl, rfl, rfl⟩) (S.reord fun a => by simp only [cnt_append, hO]; omega) fun s1 p1 e1 k1 pb1 h1 S1 => ?_
  refine R1 w s₀ b1 b2 Y A v16 (crefs chs) (refs cls) got k6 e1 k1 pb1 (crefs ([x] ++ (chs.drop (p + 1)).takeWhile fun y => svIn o.rv o.ry y.sg)) Ls cc La o.nm o.hd o.rv o.tv o.dv (L := chM chs ++ (clsM cls ++ R)) (S1.mem_drop (e := laD A La o.rv.val) fun a => by simp only [cnt_append, hO]; omega) fun τ N T G s2 p2 _ _ S2 => ?_
  refine arAll Y A v16 k6 true (refs cls) got (N + 0) Ls cc o.tv o.ty hok.2 chs hn (lsD Ls o.nm o.hd o.rv o.tv o.dv ++ (kD o.a o.nm o.hd o.rv o.tv o.dv ++ (svD o.rv o.ry ++ (Ro ++ R)))) _ (mid chs o p) e1 k1 pb1 ([x] ++ (chs.drop (p + 1)).takeWhile fun y => svIn o.rv o.ry y.sg) rfl (mid_le hlt) ?_ h1.at (S2.reord fun a => by simp only [cnt_append, hO]; omega) fun s3 p3 e3 k3 pb3 h3 S3 => ?_
  · simp only [List.length_append, List.length_singleton]; unfold mid runLen; omega
  · exact next s3 p3 _ e3 k3 pb3 h3 (S3.mem_drop (e := laD A (N + 0) o.tv.val) fun a => by simp only [cnt_append, hO, took]; omega)
end
end Mine
end

section
set_option maxRecDepth 100000
set_option maxHeartbeats 4000000
namespace Mine
open PySem PySem.W PySem.W.X
section
variable {w : World} {s₀ : Shared} {b1 b2 : Bool} (Y : Sys (K5 w s₀ b1 b2)) (A : LA) (v16 : Value) (k6 : Result → Sem Fin)
theorem takeWhile_take {α : Type} (f : α → Bool) (l : List α) : l.takeWhile f = l.take (l.takeWhile f).length := List.prefix_iff_eq_take.mp (List.takeWhile_prefix f)
theorem took_eq {chs : List Ch} {o : CO} {p : Nat} {x : Ch} (hx : chs[p]? = some x) : took chs o p x = (chs.drop p).take (fin chs o p - p) := by
  have e1 : (chs.drop (p + 1)).takeWhile (fun y => svIn o.rv o.ry y.sg) = (chs.drop (p + 1)).take (runLen o.rv o.ry (chs.drop (p + 1))) := takeWhile_take ..
  have e2 : (chs.drop (mid chs o p)).takeWhile (fun y => svIn o.tv o.ty y.sg) = (chs.drop (mid chs o p)).take (runLen o.tv o.ty (chs.drop (mid chs o p))) := takeWhile_take ..
  unfold took
  rw [e1, e2]
  have h : fin chs o p - p = 1 + runLen o.rv o.ry (chs.drop (p + 1)) + runLen o.tv o.ty (chs.drop (mid chs o p)) := by unfold fin mid; omega
  have e3 : (chs.drop p).drop (1 + runLen o.rv o.ry (chs.drop (p + 1))) = chs.drop (mid chs o p) := by
    rw [List.drop_drop]; congr 1; unfold mid; omega
  have e4 : (chs.drop p).take 1 = [x] := by rw [drop_at hx]; rfl
  have e5 : (chs.drop p).drop 1 = chs.drop (p + 1) := by rw [List.drop_drop]
  rw [h, List.take_add, List.take_add, e3, e4, e5]
theorem took_cons (chs : List Ch) (o : CO) (p : Nat) (x : Ch) : ∃ t, took chs o p x = x :: t := ⟨_, rfl⟩
theorem took_split {chs : List Ch} {o : CO} {p : Nat} {x : Ch} (hx : chs[p]? = some x) : ∃ t R, took chs o p x = x :: t ∧ ∀ a, cnt a (chM chs) = cnt a (chC (took chs o p x)) + cnt a (locD x) + cnt a R := by
  obtain ⟨t, ht⟩ := took_cons chs o p x
  have hs : chs = chs.take p ++ (took chs o p x ++ (chs.drop p).drop (fin chs o p - p)) := by
    rw [took_eq hx, List.take_append_drop, List.take_append_drop]
  have hc : ∀ (l : List Ch) a, cnt a (chM l) = cnt a (chC l) + cnt a (l.flatMap locD) := by
    intro l a
    induction l with
    | nil => simp [chM, chC, cnt_nil]
    | cons y l ih =>
      show cnt a ((y :: l).flatMap fun x => x.c ++ locD x) = cnt a ((y :: l).flatMap Ch.c) + cnt a ((y :: l).flatMap locD)
      rw [List.flatMap_cons, List.flatMap_cons, List.flatMap_cons, cnt_append, cnt_append, cnt_append, cnt_append]
      have : cnt a (l.flatMap fun x => x.c ++ locD x) = cnt a (l.flatMap Ch.c) + cnt a (l.flatMap locD) := ih
      omega
  refine ⟨t, t.flatMap locD ++ (chM (chs.take p) ++ chM ((chs.drop p).drop (fin chs o p - p))), ht, fun a => ?_⟩
  have e : cnt a (chM chs) = cnt a (chM (chs.take p)) + (cnt a (chM (took chs o p x)) + cnt a (chM ((chs.drop p).drop (fin chs o p - p)))) := by
    conv => lhs; rw [hs]
    unfold chM
    rw [cnt_flatMap, cnt_flatMap]
  rw [e, hc (took chs o p x), cnt_append, cnt_append, ht, List.flatMap_cons, cnt_append]
  omega
theorem lex_ct (e : Bool) (k : Nat) (pb : Option Addr) (xs cs ks got : Array Value) (tb : Option Addr) (st : VD) (P : Params) (a) : cnt a (lexDM P A v16 e k pb xs cs ks got tb st) = cnt a [(A.ct, .arr c_list xs)] + cnt a ((lexDM P A v16 e k pb xs cs ks got tb st).eraseIdx 5) :=
  cnt_at (i := 5) rfl a
theorem lexD (chs : List Ch) (hn : chs.length ≤ 16) (cls : List CO) (G : List (Addr × Row)) (hG : G.length ≤ 100) (fr co : Option Addr) (R : DM) (p : Nat) (x : Ch) (hx : chs[p]? = some x) (o : CO) (La Ls cc : Addr) (e : Bool) (k : Nat) (pb : Option Addr)
    {s : Shared} {pos : Pos} (S : StD (K5 w s₀ b1 b2) (lexDM w.params A v16 e k pb (crefs (took chs o p x)) (crefs chs) (refs cls) (rrefs G) none (.ref A.fst) ++ (lsD Ls o.nm o.hd o.rv o.tv false ++ (chM chs ++ (rowM G ++ (adD A fr ++ (tabD co ++ R)))))) (GR A) s)
    (next : ∀ s' p' u fr' co', StD (K5 w s₀ b1 b2) (lexDM w.params A v16 e k pb #[] (crefs chs) (refs cls) (rrefs (G ++ [(u, ⟨o.nm, ⟨⟨(took chs o p x).map (·.sg)⟩⟩, x.row, x.col, x.file⟩)])) none (.ref A.fst) ++ (chM chs ++ (rowM (G ++ [(u, ⟨o.nm, ⟨⟨(took chs o p x).map (·.sg)⟩⟩, x.row, x.col, x.file⟩)]) ++ (adD A fr' ++ (tabD co' ++ R))))) (GR A) s' →
      Y.H s' ⟨denF (cInner w.params A), cInner w.params A, p', fs0 w.params A k6⟩) :
    Y.H s ⟨.pure (.done .next), arLoop w.params La, pos, fsAR w.params A k6 true Ls cc La⟩ := by
  obtain ⟨t, Rx, ht, hR⟩ := took_split (o := o) hx
  obtain ⟨X, hX⟩ : ∃ X, took chs o p x = X := ⟨_, rfl⟩
  have hlen : X.length ≤ 16 := by
    have h1 := took_length (chs := chs) o p x
    have h2 := fin_le (o := o) (List.getElem?_eq_some_iff.mp hx).1
    rw [hX] at h1
    omega
  rw [hX] at S next ht hR
  have hpos : 1 ≤ X.length := by rw [ht]; simp
  have h0 : ItemAt (crefs X) 0 (.ref x.a) := by
    refine ⟨Int.le_refl 0, by decide, ?_⟩
    show (crefs X)[0]? = _
    rw [crefs_get, ht]; rfl
  have hxs : (crefs X).size ≤ sizeLine := by rw [crefs_size]; exact le_line (by omega)
  have hgs : (rrefs G).size ≤ sizeLine := by rw [show (rrefs G).size = G.length by simp [rrefs]]; exact le_line hG
  have hC : ∀ a, cnt a (chC X) = cnt a (chD x.a x.d x.l x.sgs) + cnt a (chC t) := by
    intro a; rw [ht]; show cnt a ((x :: t).flatMap Ch.c) = _; rw [List.flatMap_cons, cnt_append]; rfl
  -- behind the emit: the token is given out
  have out : ∀ (s' : Shared) (p' : Pos) (tok td : Addr) (co' : Option Addr), StD (K5 w s₀ b1 b2) (lexDM w.params A v16 e k pb #[] (crefs chs) (refs cls) (rrefs G) (some tok) (.ref A.fst) ++ (chC X ++ (locD x ++ (tokD tok td o.nm ⟨⟨X.map (·.sg)⟩⟩ x.l ++ (Rx ++ (rowM G ++ (adD A fr ++ (tabD co' ++ R)))))))) (GR A) s' →
      Y.H s' ⟨denF (cInner w.params A), cInner w.params A, p', fs0 w.params A k6⟩ := by
    intro s' p' tok td co' S'
    have S1 := S'.reord (d' := lexDM w.params A v16 e k pb #[] (crefs chs) (refs cls) (rrefs G) (some tok) (.ref A.fst) ++ (adD A fr ++ (locD x ++ tokD tok td o.nm ⟨⟨X.map (·.sg)⟩⟩ x.l)) ++ (chC X ++ (Rx ++ (rowM G ++ (tabD co' ++ R))))) fun a => by simp only [cnt_append]; omega
    have fin : ∀ (s2 : Shared) (p2 : Pos) (N : Nat), StD (K5 w s₀ b1 b2) (lexDM w.params A v16 e k pb #[] (crefs chs) (refs cls) ((rrefs G).push (.ref N)) none (.ref A.fst) ++ (adD A (some tok) ++ (locD x ++ (tokD tok td o.nm ⟨⟨X.map (·.sg)⟩⟩ x.l ++ gotD N o.nm ⟨⟨X.map (·.sg)⟩⟩ x))) ++ (chC X ++ (Rx ++ (rowM G ++ (tabD co' ++ R))))) (GR A) s2 →
        Y.H s2 ⟨denF (cInner w.params A), cInner w.params A, p2, fs0 w.params A k6⟩ := by
      intro s2 p2 N S2
      refine next s2 p2 N (some tok) co' ?_
      have eg : (rrefs G).push (.ref N) = rrefs (G ++ [(N, ⟨o.nm, ⟨⟨X.map (·.sg)⟩⟩, x.row, x.col, x.file⟩)]) := rrefs_push G (N, ⟨o.nm, ⟨⟨X.map (·.sg)⟩⟩, x.row, x.col, x.file⟩)
      rw [eg] at S2
      refine S2.mem_drop (e := tokD tok td o.nm ⟨⟨X.map (·.sg)⟩⟩ x.l) fun a => ?_
      have er : cnt a (rowM (G ++ [(N, ⟨o.nm, ⟨⟨X.map (·.sg)⟩⟩, x.row, x.col, x.file⟩)])) = cnt a (rowM G) + cnt a (gotD N o.nm ⟨⟨X.map (·.sg)⟩⟩ x) := by
        unfold rowM; rw [List.map_append, cnt_append]; rfl
      simp only [cnt_append, er, hR]; omega
    cases fr with
    | none => exact Y0 w s₀ b1 b2 Y A v16 (crefs chs) (refs cls) (rrefs G) k6 e k pb tok td o.nm _ x hgs S1 fun τ N T G' s2 p2 _ _ S2 => fin s2 p2 N S2
    | some f => exact Y1 w s₀ b1 b2 Y A v16 (crefs chs) (refs cls) (rrefs G) k6 e k pb tok td o.nm _ x f hgs S1 fun τ N T G' s2 p2 _ _ S2 => fin s2 p2 N S2
  -- the join
  have join : ∀ (s' : Shared) (p' : Pos) (Le it3 Lg gobj g2 co' : Addr) (tk : Tok), StD (K5 w s₀ b1 b2) (lexDM w.params A v16 e k pb (crefs X) (crefs chs) (refs cls) (rrefs G) none (.ref A.fst) ++ (genD A Le it3 Lg gobj g2 o.nm ++ (chC X ++ (locD x ++ (Rx ++ (rowM G ++ (adD A fr ++ (tabD (some co') ++ R)))))))) [(g2, genC w.params A Le it3 Lg co'), (A.g, .running)] s' →
      Y.H s' ⟨denF (cJoin tk gobj), cJoin tk gobj, p', fsJ w.params A k6 Ls cc Le 0 0⟩ := by
    intro s' p' Le it3 Lg gobj g2 co' tk S'
    have S1 := S'.reord (d' := genD A Le it3 Lg gobj g2 o.nm ++ (lexDM w.params A v16 e k pb (crefs X) (crefs chs) (refs cls) (rrefs G) none (.ref A.fst) ++ (chC X ++ (locD x ++ (Rx ++ (rowM G ++ (adD A fr ++ (tabD (some co') ++ R)))))))) fun a => by simp only [cnt_append]; omega
    refine J0 w s₀ b1 b2 Y A k6 Ls cc Le it3 Lg gobj g2 co' tk o.nm S1 fun τ N T G' s2 p2 _ _ S2 => ?_
    have hne : N ≠ gobj := by
      have h := S2.apart
      intro e
      rw [e] at h
      simp [genD] at h
    refine joinAll Y A k6 Ls cc Le it3 Lg gobj g2 co' N p' tk o.nm hne ((lexDM w.params A v16 e k pb (crefs X) (crefs chs) (refs cls) (rrefs G) none (.ref A.fst)).eraseIdx 5 ++ (locD x ++ (Rx ++ (rowM G ++ (adD A fr ++ (tabD (some co') ++ R)))))) X hpos hlen (S2.reord fun a => ?_) fun s3 p3 tok S3 => ?_
    · simp only [cnt_append, lex_ct A v16 e k pb (crefs X)]; omega
    have S4 := S3.reord (d' := lexDM w.params A v16 e k pb (crefs X) (crefs chs) (refs cls) (rrefs G) none (.ref A.fst) ++ (leD A Le o.nm ++ (chD x.a x.d x.l x.sgs ++ locD x)) ++ (chC t ++ (Rx ++ (rowM G ++ (adD A fr ++ (tabD (some co') ++ R)))))) fun a => by
      simp only [cnt_append, lex_ct A v16 e k pb (crefs X), hC]; omega
    refine E1 w s₀ b1 b2 Y A v16 (crefs chs) (refs cls) (rrefs G) k6 e k pb (crefs X) Ls cc Le gobj tk tok o.nm _ x h0 hxs S4 fun τ N4 T4 G4 s5 p5 _ _ S5 => ?_
    refine out s5 p5 (N4 + 1) (N4 + 0) (some co') (S5.reord fun a => ?_)
    simp only [cnt_append, hC]; omega
  cases co with
  | none =>
    have S1 := S.reord (d' := lexDM w.params A v16 e k pb (crefs X) (crefs chs) (refs cls) (rrefs G) none (.ref A.fst) ++ (lsD Ls o.nm o.hd o.rv o.tv false ++ tabD none) ++ (chC X ++ (locD x ++ (Rx ++ (rowM G ++ (adD A fr ++ R)))))) fun a => by simp only [cnt_append, hR]; omega
    refine R2e0 w s₀ b1 b2 Y A v16 (crefs chs) (refs cls) (rrefs G) k6 e k pb (crefs X) Ls cc La o.nm o.hd o.rv o.tv S1 fun τ N T G' s2 p2 _ _ S2 => ?_
    exact join s2 p2 (N + 0) (N + 1) (N + 5) (N + 6) G' (N + 4) (T + 2) (S2.mem_drop (e := lsD Ls o.nm o.hd o.rv o.tv false) fun a => by simp only [cnt_append]; omega)
  | some co =>
    have S1 := S.reord (d' := lexDM w.params A v16 e k pb (crefs X) (crefs chs) (refs cls) (rrefs G) none (.ref A.fst) ++ (lsD Ls o.nm o.hd o.rv o.tv false ++ tabD (some co)) ++ (chC X ++ (locD x ++ (Rx ++ (rowM G ++ (adD A fr ++ R)))))) fun a => by simp only [cnt_append, hR]; omega
    refine R2e1 w s₀ b1 b2 Y A v16 (crefs chs) (refs cls) (rrefs G) k6 e k pb (crefs X) Ls cc La o.nm o.hd o.rv o.tv co S1 fun τ N T G' s2 p2 _ _ S2 => ?_
    exact join s2 p2 (N + 0) (N + 1) (N + 2) (N + 3) G' co (T + 2) (S2.mem_drop (e := lsD Ls o.nm o.hd o.rv o.tv false) fun a => by simp only [cnt_append]; omega)
end
end Mine
end

section
set_option maxRecDepth 100000
set_option maxHeartbeats 4000000
namespace Mine
open PySem PySem.W PySem.W.X
noncomputable def rowAt (chs : List Ch) (o : CO) (p : Nat) (x : Ch) : Row := ⟨o.nm, ⟨⟨(took chs o p x).map (·.sg)⟩⟩, x.row, x.col, x.file⟩
noncomputable def rowsFrom (chs : List Ch) (cls : List CO) : Nat → Nat → List Row
  | 0, _ => []
  | m + 1, p => match chs[p]? with
    | none => []
    | some x => match cls.find? (fun o => inS o.hd x.sg) with
      | none => []
      | some o => (if o.dv then [] else [rowAt chs o p x]) ++ rowsFrom chs cls m (fin chs o p)
section
variable {w : World} {s₀ : Shared} {b1 b2 : Bool} (Y : Sys (K5 w s₀ b1 b2)) (A : LA) (v16 : Value) (k6 : Result → Sem Fin)
theorem lexC (chs : List Ch) (cls : List CO) (got : Array Value) (R : DM) (X : List Ch) (hX : X.length ≤ 100) (o : CO) (La Ls cc : Addr) (e : Bool) (k : Nat) (pb : Option Addr)
    {s : Shared} {pos : Pos} (S : StD (K5 w s₀ b1 b2) (lexDM w.params A v16 e k pb (crefs X) (crefs chs) (refs cls) got none (.ref A.fst) ++ (lsD Ls o.nm o.hd o.rv o.tv true ++ R)) (GR A) s)
    (next : ∀ s' p', StD (K5 w s₀ b1 b2) (lexDM w.params A v16 e k pb #[] (crefs chs) (refs cls) got none (.ref A.fst) ++ R) (GR A) s' → Y.H s' ⟨denF (cInner w.params A), cInner w.params A, p', fs0 w.params A k6⟩) :
    Y.H s ⟨.pure (.done .next), arLoop w.params La, pos, fsAR w.params A k6 true Ls cc La⟩ :=
  R2d w s₀ b1 b2 Y A v16 (crefs chs) (refs cls) got k6 e k pb (crefs X) Ls cc La o.nm o.hd o.rv o.tv (by rw [crefs_size]; exact le_line hX) (L := R) (S.reord fun a => by simp only [cnt_append]; omega) fun τ N T G s' p' _ _ S' => next s' p' S'
theorem lexAll (chs : List Ch) (hn : chs.length ≤ 16) (cls : List CO) (hc : cls.length ≤ 100) (hall : ∀ x ∈ chs, ∃ o, cls.find? (fun o => inS o.hd x.sg) = some o) (hok : ∀ o ∈ cls, o.ok) (v : LV) (r tl : SV) (R : DM) :
    ∀ (m p : Nat) (e : Bool) (k : Nat) (pb : Option Addr) (G : List (Addr × Row)) (fr co : Option Addr), chs.length - p ≤ m → p ≤ chs.length → At chs p e k pb → (p = chs.length → e = true) → G.length + (chs.length - p) ≤ 100 → ∀ {s : Shared} {pos : Pos},
    StD (K5 w s₀ b1 b2) (lexDM w.params A v16 e k pb #[] (crefs chs) (refs cls) (rrefs G) none (.ref A.fst) ++ (chM chs ++ (clsM cls ++ (rowM G ++ (adD A fr ++ (tabD co ++ (l0D0 A v r tl ++ (([(A.cat, .cell none)] : DM) ++ R)))))))) (GR A) s →
    (∀ s' p' du G' co', G'.map (·.2) = G.map (·.2) ++ rowsFrom chs cls m p → StD (K5 w s₀ b1 b2) (l0D1 A v r tl du ++ (([(A.cat, .cell (some (.int 0)))] : DM) ++ (clsD A (refs cls) ++ (accD A (rrefs G') ++ (([(du, .seq c_list [])] : DM) ++ (chM chs ++ (clsM cls ++ (rowM G' ++ (tabD co' ++ R))))))))) [] s' →
      Y.H s' ⟨denF (cDue w.params A), cDue w.params A, p', fsD w.params A k6⟩) →
    Y.H s ⟨denF (cInner w.params A), cInner w.params A, pos, fs0 w.params A k6⟩ := by
  -- the text's end
  have last : ∀ (p : Nat) (k : Nat) (pb : Option Addr) (e : Bool) (G : List (Addr × Row)) (fr co : Option Addr), p = chs.length → At chs p e k pb → e = true → ∀ {s : Shared} {pos : Pos},
      StD (K5 w s₀ b1 b2) (lexDM w.params A v16 e k pb #[] (crefs chs) (refs cls) (rrefs G) none (.ref A.fst) ++ (chM chs ++ (clsM cls ++ (rowM G ++ (adD A fr ++ (tabD co ++ (l0D0 A v r tl ++ (([(A.cat, .cell none)] : DM) ++ R)))))))) (GR A) s →
      (∀ s' p' du, StD (K5 w s₀ b1 b2) (l0D1 A v r tl du ++ (([(A.cat, .cell (some (.int 0)))] : DM) ++ (clsD A (refs cls) ++ (accD A (rrefs G) ++ (([(du, .seq c_list [])] : DM) ++ (chM chs ++ (clsM cls ++ (rowM G ++ (tabD co ++ R))))))))) [] s' →
        Y.H s' ⟨denF (cDue w.params A), cDue w.params A, p', fsD w.params A k6⟩) →
      Y.H s ⟨denF (cInner w.params A), cInner w.params A, pos, fs0 w.params A k6⟩ := by
    intro p k pb e G fr co hp hat he s pos S next
    have hpb : pb = none := by
      rcases hat with ⟨h, -⟩ | ⟨x, -, h, -⟩ | ⟨-, -, -, h⟩
      · rw [h] at he; cases he
      · rw [h] at he; cases he
      · exact h
    subst he hpb
    have S1 := S.reord (d' := lexDM w.params A v16 true k none #[] (crefs chs) (refs cls) (rrefs G) none (.ref A.fst) ++ (l0D0 A v r tl ++ (([(A.cat, .cell none)] : DM) ++ adD A fr)) ++ (chM chs ++ (clsM cls ++ (rowM G ++ (tabD co ++ R))))) fun a => by simp only [cnt_append]; omega
    cases fr with
    | none => exact EOF0 w s₀ b1 b2 Y A v16 (crefs chs) (refs cls) (rrefs G) k6 k v r tl S1 fun τ N T G' s' p' _ _ S' => next s' p' (N + 7) (S'.reord fun a => by simp only [cnt_append]; omega)
    | some f => exact EOF1 w s₀ b1 b2 Y A v16 (crefs chs) (refs cls) (rrefs G) k6 k v r tl f S1 fun τ N T G' s' p' _ _ S' => next s' p' (N + 7) (S'.reord fun a => by simp only [cnt_append]; omega)
  intro m
  induction m with
  | zero =>
    intro p e k pb G fr co hm hp hat hend hG s pos S next
    have hpn : p = chs.length := by omega
    refine last p k pb e G fr co hpn hat (hend hpn) S fun s' p' du S' => next s' p' du G co ?_ S'
    simp [rowsFrom]
  | succ m ih =>
    intro p e k pb G fr co hm hp hat hend hG s pos S next
    by_cases hpn : p = chs.length
    · refine last p k pb e G fr co hpn hat (hend hpn) S fun s' p' du S' => next s' p' du G co ?_ S'
      have : chs[p]? = none := List.getElem?_eq_none (by omega)
      simp [rowsFrom, this]
    have hlt : p < chs.length := by omega
    have hx : chs[p]? = some chs[p] := List.getElem?_eq_getElem hlt
    obtain ⟨o, ho⟩ := hall chs[p] (List.getElem_mem hlt)
    have hmem : o ∈ cls := List.mem_of_find?_eq_some ho
    have hf := fin_gt chs o p
    have hfl := fin_le (o := o) hlt
    have hrow : rowsFrom chs cls (m + 1) p = (if o.dv then [] else [rowAt chs o p chs[p]]) ++ rowsFrom chs cls m (fin chs o p) := by
      show (match chs[p]? with | none => [] | some x => match cls.find? (fun o : CO => inS o.hd x.sg) with | none => [] | some o => (if o.dv then [] else [rowAt chs o p x]) ++ rowsFrom chs cls m (fin chs o p)) = _
      rw [hx]
      show (match cls.find? (fun o : CO => inS o.hd chs[p].sg) with | none => [] | some o => (if o.dv then [] else [rowAt chs o p chs[p]]) ++ rowsFrom chs cls m (fin chs o p)) = _
      rw [ho]
    refine lexA Y A v16 k6 chs cls hc (rrefs G) (rowM G ++ (adD A fr ++ (tabD co ++ (l0D0 A v r tl ++ (([(A.cat, .cell none)] : DM) ++ R))))) p chs[p] hx o ho e k pb hat S fun s1 p1 La Ls cc S1 => ?_
    refine lexB Y A v16 k6 chs (by omega) cls (rrefs G) (rowM G ++ (adD A fr ++ (tabD co ++ (l0D0 A v r tl ++ (([(A.cat, .cell none)] : DM) ++ R))))) p chs[p] hx o hmem (hok o hmem) La Ls cc S1 fun s2 p2 La2 e2 k2 pb2 h2 S2 => ?_
    have hend2 : fin chs o p = chs.length → e2 = true := by
      intro h
      rcases h2 with ⟨y, hy, -⟩ | ⟨-, h, -⟩
      · rw [h, List.getElem?_eq_none (Nat.le_refl _)] at hy; cases hy
      · exact h
    cases hdv : o.dv with
    | true =>
      rw [hdv] at S2
      refine lexC Y A v16 k6 chs cls (rrefs G) (chM chs ++ (clsM cls ++ (rowM G ++ (adD A fr ++ (tabD co ++ (l0D0 A v r tl ++ (([(A.cat, .cell none)] : DM) ++ R))))))) (took chs o p chs[p]) (by rw [took_length]; omega) o La2 Ls cc e2 k2 pb2 S2 fun s3 p3 S3 => ?_
      refine ih (fin chs o p) e2 k2 pb2 G fr co (by omega) hfl h2.at hend2 (by omega) S3 fun s4 p4 du G' co2 hG' S4 => next s4 p4 du G' co2 ?_ S4
      rw [hG', hrow, hdv]; rfl
    | false =>
      rw [hdv] at S2
      refine lexD Y A v16 k6 chs hn cls G (by omega) fr co (clsM cls ++ (l0D0 A v r tl ++ (([(A.cat, .cell none)] : DM) ++ R))) p chs[p] hx o La2 Ls cc e2 k2 pb2 (S2.reord fun a => by simp only [cnt_append]; omega) fun s3 p3 u fr' co' S3 => ?_
      refine ih (fin chs o p) e2 k2 pb2 (G ++ [(u, ⟨o.nm, ⟨⟨(took chs o p chs[p]).map (·.sg)⟩⟩, chs[p].row, chs[p].col, chs[p].file⟩)]) fr' co' (by omega) hfl h2.at hend2 (by simp only [List.length_append, List.length_singleton]; omega) (S3.reord fun a => by simp only [cnt_append]; omega) fun s4 p4 du G' co2 hG' S4 => next s4 p4 du G' co2 ?_ S4
      rw [hG', hrow, hdv, List.map_append, List.append_assoc]; rfl
end
end Mine
end

section
set_option maxRecDepth 100000
set_option maxHeartbeats 4000000
namespace Mine
open PySem PySem.W PySem.W.X
section
variable {w : World} {s₀ : Shared} {b1 b2 : Bool} (Y : Sys (K5 w s₀ b1 b2)) (A : LA) (k6 : Result → Sem Fin)
noncomputable def endOf (va : SV) (vy : Array Value) (l : List Nat) (st : Nat) : Nat := st + ((l.drop st).takeWhile fun c => svIn va vy c).length
theorem tw_in {α : Type} (f : α → Bool) : ∀ (l : List α) (j : Nat) (x : α), j < (l.takeWhile f).length → l[j]? = some x → f x = true
  | [], j, x, h, _ => by simp at h
  | y :: l, j, x, h, e => by
    cases hy : f y with
    | false => rw [List.takeWhile_cons, hy] at h; simp at h
    | true =>
      rw [List.takeWhile_cons, hy] at h
      cases j with
      | zero => cases e; exact hy
      | succ j => exact tw_in f l j x (by simpa using h) (by simpa using e)
theorem tw_out {α : Type} (f : α → Bool) : ∀ (l : List α) (x : α), l[(l.takeWhile f).length]? = some x → f x = false
  | [], x, e => by simp at e
  | y :: l, x, e => by
    cases hy : f y with
    | false => rw [List.takeWhile_cons, hy] at e; simp at e; rw [← e]; exact hy
    | true =>
      rw [List.takeWhile_cons, hy] at e
      exact tw_out f l x (by simpa using e)
theorem endOf_le (va : SV) (vy : Array Value) (l : List Nat) {st : Nat} (h : st ≤ l.length) : endOf va vy l st ≤ l.length := by
  unfold endOf
  have := (List.takeWhile_prefix (l := l.drop st) (fun c => svIn va vy c)).length_le
  rw [List.length_drop] at this
  omega
theorem endOf_in {va : SV} {vy : Array Value} {l : List Nat} {st i c : Nat} (h1 : st ≤ i) (h2 : i < endOf va vy l st) (h : l[i]? = some c) : svIn va vy c = true := by
  refine tw_in (fun c => svIn va vy c) (l.drop st) (i - st) c (by unfold endOf at h2; omega) ?_
  rw [List.getElem?_drop, show st + (i - st) = i by omega]; exact h
theorem endOf_out {va : SV} {vy : Array Value} {l : List Nat} {st c : Nat} (h : l[endOf va vy l st]? = some c) : svIn va vy c = false := by
  refine tw_out (fun c => svIn va vy c) (l.drop st) c ?_
  rw [List.getElem?_drop]; exact h
def Found (E xx : Nat) (rs : Array Value) : Prop := (∀ (j : Nat) (v : Value), rs[j]? = some v → ∃ (i : Nat) (t : Tok), v = Value.int (i : Int) t ∧ E ≤ i) ∧ (xx ≤ E → rs = #[]) ∧ (E < xx → ∃ t, rs[0]? = some (Value.int (E : Int) t)) ∧ rs.size ≤ xx
theorem Found.skip {E xx : Nat} {rs : Array Value} (h : Found E xx rs) (hne : xx ≠ E) : Found E (xx + 1) rs :=
  ⟨h.1, fun h' => h.2.1 (by omega), fun h' => h.2.2.1 (by omega), by have := h.2.2.2; omega⟩
theorem Found.push {E xx : Nat} {rs : Array Value} (h : Found E xx rs) (hge : E ≤ xx) (t : Tok) : Found E (xx + 1) (rs.push (.int (xx : Int) t)) := by
  refine ⟨fun j v hj => ?_, fun h' => by omega, fun h' => ?_, by rw [Array.size_push]; have := h.2.2.2; omega⟩
  · rw [Array.getElem?_push] at hj
    split at hj
    · cases hj; exact ⟨xx, t, rfl, hge⟩
    · exact h.1 j v hj
  · by_cases he : E = xx
    · have := h.2.1 (by omega)
      subst this he
      exact ⟨t, by simp⟩
    · obtain ⟨t', h0⟩ := h.2.2.1 (by omega)
      refine ⟨t', ?_⟩
      rw [Array.getElem?_push, if_neg]
      · exact h0
      · intro hz
        have := (Array.getElem?_eq_some_iff.mp h0).1
        omega
theorem leLoop (sgs : List Nat) (tk : Tok) (x : RF) (q : Addr) (st : Nat) (va : SV) (vy : Array Value) (hv : svOk va vy) (hn : sgs.length ≤ 50) (R : DM) : ∀ (m xx : Nat) (rs : Array Value) (fo : Option Int), sgs.length - xx = m → st ≤ xx → xx ≤ sgs.length → Found (endOf va vy sgs st) xx rs → ∀ {s : Shared} {pos : Pos},
    StD (K5 w s₀ b1 b2) (leM q ⟨⟨sgs⟩⟩ tk st va xx ((sgs.length : Int) - xx) rs fo ++ (svD va vy ++ R)) [] s →
    (∀ s' p' rs' fo', Found (endOf va vy sgs st) sgs.length rs' → StD (K5 w s₀ b1 b2) (leM q ⟨⟨sgs⟩⟩ tk st va sgs.length 0 rs' fo' ++ (svD va vy ++ R)) [] s' → Y.H s' ⟨denF (cLC w.params q), cLC w.params q, p', fsLC w.params A k6 x q⟩) →
    Y.H s ⟨denF (cLC w.params q), cLC w.params q, pos, fsLC w.params A k6 x q⟩ := by
  intro m
  induction m with
  | zero =>
    intro xx rs fo hm h1 h2 hF s pos S next
    have e : xx = sgs.length := by omega
    subst e
    rw [Int.sub_self] at S
    exact next s pos rs fo hF S
  | succ m ih =>
    intro xx rs fo hm h1 h2 hF s pos S next
    have hlt : xx < sgs.length := by omega
    have hc : sgs[xx]? = some sgs[xx] := List.getElem?_eq_getElem hlt
    have hleft : (0 : Int) < (sgs.length : Int) - xx := by omega
    have hch : CharAt ⟨⟨sgs⟩⟩ xx sgs[xx] := ⟨by omega, by omega, by simp⟩
    have hsz : rs.size ≤ sizeLine := le_line (by have := hF.2.2.2; omega)
    have eL : (sgs.length : Int) - xx - 1 = (sgs.length : Int) - ((xx + 1 : Nat) : Int) := by omega
    have miss : svIn va vy sgs[xx] = true → Found (endOf va vy sgs st) (xx + 1) rs := fun hb => hF.skip fun he => by
      have := endOf_out (va := va) (vy := vy) (l := sgs) (st := st) (c := sgs[xx]) (by rw [← he]; exact hc)
      rw [this] at hb; cases hb
    have hit : ∀ t : Tok, svIn va vy sgs[xx] = false → Found (endOf va vy sgs st) (xx + 1) (rs.push (.int (xx : Int) t)) := fun t hb => hF.push (by
      rcases Nat.lt_or_ge xx (endOf va vy sgs st) with h | h
      · rw [endOf_in h1 h hc] at hb; cases hb
      · exact h) t
    cases va with
    | s vs vt =>
      have S1 : StD (K5 w s₀ b1 b2) (leM q ⟨⟨sgs⟩⟩ tk st (.s vs vt) xx ((sgs.length : Int) - xx) rs fo ++ R) [] s := S
      cases hb : svIn (.s vs vt) vy sgs[xx] with
      | true =>
        refine LT_miss_s w s₀ b1 b2 Y A ⟨⟨sgs⟩⟩ tk k6 x q st xx _ rs fo sgs[xx] vs vt hleft hch hb S1 fun τ N T G s' p' _ _ S' => ?_
        rw [eL] at S'
        exact ih (xx + 1) rs _ (by omega) (by omega) (by omega) (miss hb) S' next
      | false =>
        refine LT_hit_s w s₀ b1 b2 Y A ⟨⟨sgs⟩⟩ tk k6 x q st xx _ rs fo sgs[xx] vs vt hleft hch hb hsz S1 fun τ N T G s' p' _ _ S' => ?_
        rw [eL] at S'
        exact ih (xx + 1) _ _ (by omega) (by omega) (by omega) (hit _ hb) S' next
    | l vl =>
      have S1 : StD (K5 w s₀ b1 b2) (leM q ⟨⟨sgs⟩⟩ tk st (.l vl) xx ((sgs.length : Int) - xx) rs fo ++ vlD vl vy ++ R) [] s := S.reord fun a => by simp only [cnt_append, svD]; omega
      cases hb : svIn (.l vl) vy sgs[xx] with
      | true =>
        refine LT_miss_l w s₀ b1 b2 Y A ⟨⟨sgs⟩⟩ tk k6 x q st xx _ rs fo sgs[xx] vl vy hleft hch ⟨hv, hb⟩ S1 fun τ N T G s' p' _ _ S' => ?_
        rw [eL] at S'
        exact ih (xx + 1) rs _ (by omega) (by omega) (by omega) (miss hb) (S'.reord fun a => by simp only [cnt_append, svD]; first | omega | (exact Nat.add_assoc ..)) next
      | false =>
        refine LT_hit_l w s₀ b1 b2 Y A ⟨⟨sgs⟩⟩ tk k6 x q st xx _ rs fo sgs[xx] vl vy hleft hch ⟨hv, hb⟩ hsz S1 fun τ N T G s' p' _ _ S' => ?_
        rw [eL] at S'
        exact ih (xx + 1) _ _ (by omega) (by omega) (by omega) (hit _ hb) (S'.reord fun a => by simp only [cnt_append, svD]; first | omega | (exact Nat.add_assoc ..)) next
theorem minLoop (x : RF) (q it l sa : Addr) (E : Nat) (xs : Array Value) (hall : ∀ (j : Nat) (v : Value), xs[j]? = some v → ∃ (i : Nat) (t : Tok), v = Value.int (i : Int) t ∧ E ≤ i) (R : DM) : ∀ (m k : Nat), xs.size - k = m → ∀ {s : Shared} {pos : Pos},
    StD (K5 w s₀ b1 b2) (minM it l sa k xs (some (E : Int)) ++ R) [] s →
    (∀ s' p' tok, StD (K5 w s₀ b1 b2) R [] s' → Y.H s' ⟨x.k (.ok (.ret (.int (E : Int) tok))), cDue w.params A, p', fsD w.params A k6⟩) →
    Y.H s ⟨denF (cMin it sa), cMin it sa, pos, fsM w.params A k6 x q⟩ := by
  intro m
  induction m with
  | zero =>
    intro k hm s pos S next
    exact M_end w s₀ b1 b2 Y A k6 x q it l sa k xs E (Array.getElem?_eq_none (by omega)) S fun τ N T G s' p' _ _ S' => next s' p' _ S'
  | succ m ih =>
    intro k hm s pos S next
    have hlt : k < xs.size := by omega
    obtain ⟨i, t, e, hi⟩ := hall k xs[k] (Array.getElem?_eq_getElem hlt)
    refine M_ge w s₀ b1 b2 Y A k6 x q it l sa k xs E i t (by rw [Array.getElem?_eq_getElem hlt, e]) (by simp; omega) S fun τ N T G s' p' _ _ S' => ?_
    exact ih (k + 1) (by omega) S' next
theorem lawEnd (sgs : List Nat) (tk : Tok) (x : RF) (st : Nat) (tt : Tok) (va : SV) (vy : Array Value) (hv : svOk va vy) (hn : sgs.length ≤ 50) (hst : st ≤ sgs.length) (R : DM) {s : Shared} {pos : Pos}
    (S : StD (K5 w s₀ b1 b2) (svD va vy ++ R) [] s)
    (next : ∀ s' p' tok, StD (K5 w s₀ b1 b2) (svD va vy ++ R) [] s' → Y.H s' ⟨x.k (.ok (.ret (.int (endOf va vy sgs st : Int) tok))), cDue w.params A, p', fsD w.params A k6⟩) :
    Y.H s ⟨denF (cLE ⟨⟨sgs⟩⟩ tk st tt va), cLE ⟨⟨sgs⟩⟩ tk st tt va, pos, fsL w.params A k6 x⟩ := by
  have hl : ((⟨⟨sgs⟩⟩ : Str).length : Int) = (sgs.length : Int) := rfl
  refine LE0 w s₀ b1 b2 Y A ⟨⟨sgs⟩⟩ tk k6 x st va tt (by rw [hl]; omega) (by omega) (by rw [hl]; omega) (by rw [hl]; omega) (L := svD va vy ++ R) S fun τ N T G s1 p1 _ _ S1 => ?_
  refine leLoop Y A k6 sgs tk x N st va vy hv hn R _ st #[] none rfl (Nat.le_refl _) hst ⟨fun j v h => by simp at h, fun _ => rfl, fun h => by unfold endOf at h; omega, by simp⟩ S1 fun s2 p2 rs fo hF S2 => ?_
  have hE := endOf_le va vy sgs hst
  -- behind the comprehension
  have tail : ∀ (s3 : Shared) (p3 : Pos) (it l sa : Addr) (t : Tok), StD (K5 w s₀ b1 b2) (minM it l sa 0 (rs ++ (#[.int (((⟨⟨sgs⟩⟩ : Str)).length : Int) t] : Array Value)) none ++ (svD va vy ++ R)) [] s3 →
      Y.H s3 ⟨denF (cMin it sa), cMin it sa, p3, fsM w.params A k6 x N⟩ := by
    intro s3 p3 it l sa t S3
    have h0 : ∃ t0, (rs ++ (#[.int (((⟨⟨sgs⟩⟩ : Str)).length : Int) t] : Array Value))[0]? = some (.int (endOf va vy sgs st : Int) t0) := by
      by_cases h : endOf va vy sgs st < sgs.length
      · obtain ⟨t0, e⟩ := hF.2.2.1 h
        refine ⟨t0, ?_⟩
        rw [Array.getElem?_append_left (Array.getElem?_eq_some_iff.mp e).1]
        exact e
      · have e : endOf va vy sgs st = sgs.length := by omega
        have hr := hF.2.1 (by omega)
        refine ⟨t, ?_⟩
        rw [hr, e]; rfl
    obtain ⟨t0, h0⟩ := h0
    refine M_first w s₀ b1 b2 Y A k6 x N it l sa 0 _ _ t0 h0 S3 fun τ N' T' G' s4 p4 _ _ S4 => ?_
    refine minLoop Y A k6 x N it l sa (endOf va vy sgs st) _ (fun j v hj => ?_) (svD va vy ++ R) _ 1 rfl S4 next
    rw [Array.getElem?_append] at hj
    split at hj
    · exact hF.1 j v hj
    · have hjv : v = Value.int (((⟨⟨sgs⟩⟩ : Str)).length : Int) t := by
        have : j - rs.size = 0 := by
          rcases Nat.eq_zero_or_pos (j - rs.size) with h | h
          · exact h
          · rw [Array.getElem?_eq_none (by simp; omega)] at hj; cases hj
        rw [this] at hj
        cases hj; rfl
      exact ⟨sgs.length, t, hjv, hE⟩
  have hsz : rs.size + 1 ≤ sizeLine := by have := hF.2.2.2; exact le_line (by omega)
  cases fo with
  | none => exact LE1n w s₀ b1 b2 Y A ⟨⟨sgs⟩⟩ tk k6 x N st _ va rs (by rw [hl]; omega) hsz S2 fun τ N' T' G' s3 p3 _ _ S3 => tail s3 p3 _ _ _ _ S3
  | some fo => exact LE1s w s₀ b1 b2 Y A ⟨⟨sgs⟩⟩ tk k6 x N st _ va rs fo (by rw [hl]; omega) hsz S2 fun τ N' T' G' s3 p3 _ _ S3 => tail s3 p3 _ _ _ _ S3
end
end Mine
end

section
set_option maxRecDepth 100000
set_option maxHeartbeats 4000000
namespace Mine
open PySem PySem.W PySem.W.X
theorem takeWhile_map' {α β : Type} (f : α → β) (p : β → Bool) : ∀ l : List α, (l.map f).takeWhile p = (l.takeWhile fun x => p (f x)).map f
  | [] => rfl
  | x :: l => by
    rw [List.map_cons, List.takeWhile_cons, List.takeWhile_cons]
    cases p (f x) <;> simp [takeWhile_map' f p l]
theorem endOf_run (va : SV) (vy : Array Value) (chs : List Ch) (st : Nat) : endOf va vy (chs.map (·.sg)) st = st + runLen va vy (chs.drop st) := by
  unfold endOf runLen
  rw [← List.map_drop, takeWhile_map', List.length_map]
theorem indices_run (a b n : Nat) (hab : a ≤ b) (hb : b ≤ n) : Builtin.Str.strSliceIndices (some (a : Int)) (some (b : Int)) 1 n = (List.range (b - a)).map (a + ·) := by
  unfold Builtin.Str.strSliceIndices
  have h1 : ¬ ((a : Int) < 0) := by omega
  have h2 : ¬ ((b : Int) < 0) := by omega
  simp only [h1, h2, if_false, show (1 : Int) > 0 by decide, if_true]
  rw [show max (0 : Int) (min (a : Int) n) = (a : Int) by omega, show max (0 : Int) (min (b : Int) n) = (b : Int) by omega]
  exact sliceRange_one a b
theorem slice_text (l : List Nat) (a b : Nat) (hab : a ≤ b) (hb : b ≤ l.length) (hl : l.length ≤ 100) : SSliceL ⟨⟨l⟩⟩ (some (a : Int)) (some (b : Int)) ⟨⟨(l.drop a).take (b - a)⟩⟩ (decide (b - a = l.length)) := by
  have hi := indices_run a b (⟨⟨l⟩⟩ : Str).length hab hb
  have hlen : (⟨⟨l⟩⟩ : Str).length = l.length := rfl
  refine ⟨?_, ?_⟩
  · show ((l.drop a).take (b - a)).length ≤ sizeLine
    exact le_line (by simp; omega)
  · by_cases h : b - a = l.length
    · rw [decide_eq_true h]
      refine ⟨?_, ?_⟩
      · have ha : a = 0 := by omega
        subst ha
        rw [h, List.drop_zero, List.take_length]
      · rw [hi]; simp [hlen]; exact h
    · rw [decide_eq_false h]
      refine ⟨?_, ?_⟩
      · rw [hi, pick_run]
      · rw [hi]; simp [hlen]; exact h
section
variable {w : World} {s₀ : Shared} {b1 b2 : Bool} (Y : Sys (K5 w s₀ b1 b2)) (A : LA) (k6 : Result → Sem Fin)
theorem dueCls (v : LV) (r tl : SV) (du : Addr) (sgs : List Nat) (tk : Tok) (x : XD) (p : Nat) (sg : Nat) (hsg : sgs[p]? = some sg) (hp : p < 1000) (q : Addr) (cls : List CO) (hc : cls.length ≤ 100) (R : DM) : ∀ (l2 l1 : List CO), cls = l1 ++ l2 → ∀ {s : Shared} {pos : Pos},
    StD (K5 w s₀ b1 b2) (dD A v r tl du x p ⟨⟨sgs⟩⟩ tk (refs cls) ++ (dcD A q l1.length (refs (l1.filter fun o => inS o.hd sg)) (l1.getLast?.map CO.a) ++ (clsM cls ++ R))) [] s →
    (∀ s' p', StD (K5 w s₀ b1 b2) (dD A v r tl du x p ⟨⟨sgs⟩⟩ tk (refs cls) ++ (dcD A q cls.length (refs (cls.filter fun o => inS o.hd sg)) (cls.getLast?.map CO.a) ++ (clsM cls ++ R))) [] s' →
      Y.H s' ⟨denF (cDC w.params A q), cDC w.params A q, p', fsDC w.params A k6 q⟩) →
    Y.H s ⟨denF (cDC w.params A q), cDC w.params A q, pos, fsDC w.params A k6 q⟩ := by
  intro l2
  induction l2 with
  | nil =>
    intro l1 e s pos S next
    rw [List.append_nil] at e
    subst e
    exact next _ _ S
  | cons o l2 ih =>
    intro l1 e s pos S next
    have ho : o ∈ cls := by rw [e]; simp
    obtain ⟨Ro, hR⟩ := cls_split ho
    have hj : (refs cls)[l1.length]? = some (.ref o.a) := by rw [refs_get, e]; simp
    have hch : CharAt ⟨⟨sgs⟩⟩ p sg := ⟨by omega, by omega, by simpa using hsg⟩
    have hlen : (l1.filter fun o => inS o.hd sg).length ≤ 100 := by
      have h1 := List.length_filter_le (fun o : CO => inS o.hd sg) l1
      have h2 : cls.length = l1.length + (l2.length + 1) := by rw [e]; simp
      omega
    have step : ∀ (s' : Shared) (p' : Pos), StD (K5 w s₀ b1 b2) (dD A v r tl du x p ⟨⟨sgs⟩⟩ tk (refs cls) ++ (dcD A q (l1.length + 1) (refs ((l1 ++ [o]).filter fun o => inS o.hd sg)) (some o.a) ++ kD o.a o.nm o.hd o.rv o.tv o.dv) ++ (svD o.rv o.ry ++ (svD o.tv o.ty ++ (Ro ++ R)))) [] s' →
        Y.H s' ⟨denF (cDC w.params A q), cDC w.params A q, p', fsDC w.params A k6 q⟩ := by
      intro s' p' S'
      refine ih (l1 ++ [o]) (by rw [e]; simp) (S'.reord fun a => ?_) next
      simp only [cnt_append, hR, List.length_append, List.length_singleton, List.getLast?_append, List.getLast?_singleton, Option.some_or, Option.map_some]
      omega
    have S1 := S.reord (d' := (dD A v r tl du x p ⟨⟨sgs⟩⟩ tk (refs cls) ++ (dcD A q l1.length (refs (l1.filter fun o => inS o.hd sg)) (l1.getLast?.map CO.a) ++ kD o.a o.nm o.hd o.rv o.tv o.dv) ++ (svD o.rv o.ry ++ (svD o.tv o.ty ++ (Ro ++ R))))) fun a => by
      simp only [cnt_append, hR]; omega
    cases hb : inS o.hd sg with
    | true =>
      refine DTt w s₀ b1 b2 Y A v r tl du ⟨⟨sgs⟩⟩ tk (refs cls) k6 x p q _ _ _ sg o.a o.nm o.hd o.rv o.tv o.dv hj hch hb (by rw [refs_size]; exact le_line hlen) S1 fun τ N T G s' p' _ _ S' => step s' p' ?_
      rw [List.filter_append, show [o].filter (fun o => inS o.hd sg) = [o] by simp [hb], ← refs_push]
      exact S'
    | false =>
      refine DTf w s₀ b1 b2 Y A v r tl du ⟨⟨sgs⟩⟩ tk (refs cls) k6 x p q _ _ _ sg o.a o.nm o.hd o.rv o.tv o.dv hj hch hb S1 fun τ N T G s' p' _ _ S' => step s' p' ?_
      rw [List.filter_append, show [o].filter (fun o => inS o.hd sg) = [] by simp [hb], List.append_nil]
      exact S'
noncomputable def plD (x : Addr × Ch) : DM := [(x.1, .seq c_tuple [.int x.2.row, .int x.2.col, .str x.2.file])]
noncomputable def plM (l : List (Addr × Ch)) : DM := l.flatMap plD
def prefs (l : List (Addr × Ch)) : Array Value := ⟨l.map fun x => .ref x.1⟩
theorem XD.next_next (x : XD) (a b : Str) (c d : Bool) : (x.next a c).next b d = x.next b d := by cases x <;> rfl
theorem dueAll (P : List (Addr × Ch)) (hn : P.length ≤ 16) (cls : List CO) (hc : cls.length ≤ 100) (hall : ∀ x ∈ P.map (·.2), ∃ o, cls.find? (fun o => inS o.hd x.sg) = some o) (hok : ∀ o ∈ cls, o.ok) (du : Addr) (tk : Tok) (R : DM) :
    ∀ (m p : Nat) (v : LV) (r tl : SV) (x : XD) (D : List (Addr × Row)), P.length - p ≤ m → p ≤ P.length → v.size = (P.length : Int) → D.length + (P.length - p) ≤ 100 → ∀ {s : Shared} {pos : Pos},
    StD (K5 w s₀ b1 b2) (dD A v r tl du x p ⟨⟨(P.map (·.2)).map (·.sg)⟩⟩ tk (refs cls) ++ (([(du, .arr c_list (rrefs D))] : DM) ++ (([(v.pls, .arr c_list (prefs P))] : DM) ++ (plM P ++ (clsM cls ++ (rowM D ++ R)))))) [] s →
    (∀ s' p' v' r' tl' x' D', D'.map (·.2) = D.map (·.2) ++ rowsFrom (P.map (·.2)) cls m p → v'.size = (P.length : Int) → StD (K5 w s₀ b1 b2) (dD A v' r' tl' du x' P.length ⟨⟨(P.map (·.2)).map (·.sg)⟩⟩ tk (refs cls) ++ (([(du, .arr c_list (rrefs D'))] : DM) ++ (rowM D' ++ R))) [] s' →
      Y.H s' ⟨denF (cDue w.params A), cDue w.params A, p', fsD w.params A k6⟩) →
    Y.H s ⟨denF (cDue w.params A), cDue w.params A, pos, fsD w.params A k6⟩ := by
  obtain ⟨chs, hchs⟩ : ∃ chs, P.map (·.2) = chs := ⟨_, rfl⟩
  have hcl : chs.length = P.length := by rw [← hchs, List.length_map]
  rw [hchs] at hall ⊢
  intro m
  induction m with
  | zero =>
    intro p v r tl x D hm hp hsz hD s pos S next
    have e : p = P.length := by omega
    subst e
    exact next s pos v r tl x D (by simp [rowsFrom]) hsz (S.mem_drop (e := ([(v.pls, .arr c_list (prefs P))] : DM) ++ (plM P ++ clsM cls)) fun a => by simp only [cnt_append]; omega)
  | succ m ih =>
    intro p v r tl x D hm hp hsz hD s pos S next
    by_cases hpn : p = P.length
    · subst hpn
      refine next s pos v r tl x D ?_ hsz (S.mem_drop (e := ([(v.pls, .arr c_list (prefs P))] : DM) ++ (plM P ++ clsM cls)) fun a => by simp only [cnt_append]; omega)
      have : chs[P.length]? = none := List.getElem?_eq_none (by omega)
      simp [rowsFrom, this]
    have hlt : p < chs.length := by omega
    have hx : chs[p]? = some chs[p] := List.getElem?_eq_getElem hlt
    obtain ⟨o, ho⟩ := hall chs[p] (List.getElem_mem hlt)
    have hmem : o ∈ cls := List.mem_of_find?_eq_some ho
    obtain ⟨Ro, hO⟩ := cls_split hmem
    have hf := fin_gt chs o p
    have hfl := fin_le (o := o) hlt
    have hml := mid_le (o := o) hlt
    have hrow : rowsFrom chs cls (m + 1) p = (if o.dv then [] else [rowAt chs o p chs[p]]) ++ rowsFrom chs cls m (fin chs o p) := by
      show (match chs[p]? with | none => [] | some x => match cls.find? (fun o : CO => inS o.hd x.sg) with | none => [] | some o => (if o.dv then [] else [rowAt chs o p x]) ++ rowsFrom chs cls m (fin chs o p)) = _
      rw [hx]
      show (match cls.find? (fun o : CO => inS o.hd chs[p].sg) with | none => [] | some o => (if o.dv then [] else [rowAt chs o p chs[p]]) ++ rowsFrom chs cls m (fin chs o p)) = _
      rw [ho]
    obtain ⟨sgs, hsgs⟩ : ∃ sgs, chs.map (·.sg) = sgs := ⟨_, rfl⟩
    have hsl : sgs.length = chs.length := by rw [← hsgs, List.length_map]
    have hsg : sgs[p]? = some chs[p].sg := by rw [← hsgs, List.getElem?_map, hx]; rfl
    rw [hsgs] at S next ih
    have hmid : endOf o.rv o.ry sgs (p + 1) = mid chs o p := by rw [← hsgs, endOf_run]; rfl
    have hfin : endOf o.tv o.ty sgs (mid chs o p) = fin chs o p := by rw [← hsgs, endOf_run]; rfl
    have hne : cls ≠ [] := by intro h; rw [h] at ho; cases ho
    obtain ⟨ko, hko⟩ : ∃ ko, cls.getLast?.map CO.a = some ko := by
      rw [List.getLast?_eq_some_getLast hne]; exact ⟨_, rfl⟩
    refine D0 w s₀ b1 b2 Y A v r tl du ⟨⟨sgs⟩⟩ tk (refs cls) k6 x p (by rw [hsz]; simp; omega) S fun τ N T G s1 p1 _ _ S1 => ?_
    refine dueCls Y A k6 v r tl du sgs tk x p chs[p].sg hsg (by omega) N cls hc (([(du, .arr c_list (rrefs D))] : DM) ++ (([(v.pls, .arr c_list (prefs P))] : DM) ++ (plM P ++ (rowM D ++ R)))) cls [] rfl ((show StD (K5 w s₀ b1 b2) (dD A v r tl du x p ⟨⟨sgs⟩⟩ tk (refs cls) ++ dcD A N 0 (refs []) none ++ (([(du, .arr c_list (rrefs D))] : DM) ++ (([(v.pls, .arr c_list (prefs P))] : DM) ++ (plM P ++ (clsM cls ++ (rowM D ++ R)))))) [] s1 from S1).reord fun a => ?_) fun s2 p2 S2 => ?_
    · simp only [cnt_append, List.length_nil, List.filter_nil, List.getLast?_nil, Option.map_none]; omega
    rw [hko] at S2
    have S3 := S2.reord (d' := dD A v r tl du x p ⟨⟨sgs⟩⟩ tk (refs cls) ++ (dcD A N cls.length (refs (cls.filter fun o => inS o.hd chs[p].sg)) (some ko) ++ kD o.a o.nm o.hd o.rv o.tv o.dv) ++ (svD o.rv o.ry ++ (svD o.tv o.ty ++ (Ro ++ (([(du, .arr c_list (rrefs D))] : DM) ++ (([(v.pls, .arr c_list (prefs P))] : DM) ++ (plM P ++ (rowM D ++ R)))))))) fun a => by
      simp only [cnt_append, hO]; omega
    refine D1 w s₀ b1 b2 Y A v r tl du ⟨⟨sgs⟩⟩ tk (refs cls) k6 x p N cls.length _ ko o.a o.nm o.hd o.rv o.tv o.dv (by rw [refs_get, List.getElem?_eq_none (Nat.le_refl _)]; rfl) (item0 ho) S3 fun τ3 N3 T3 G3 s3 p3 _ _ S4 => ?_
    rw [fs_I]
    refine lawEnd Y A k6 sgs tk (rI w.params A ⟨⟨sgs⟩⟩ tk) (p + 1) _ o.rv o.ry (hok o hmem).1 (by omega) (by omega) (dD A (v.hd o.hd) o.rv o.tv du (x.next o.nm o.dv) p ⟨⟨sgs⟩⟩ tk (refs cls) ++ (kD o.a o.nm o.hd o.rv o.tv o.dv ++ (svD o.tv o.ty ++ (Ro ++ (([(du, .arr c_list (rrefs D))] : DM) ++ (([(v.pls, .arr c_list (prefs P))] : DM) ++ (plM P ++ (rowM D ++ R)))))))) (S4.reord fun a => by simp only [cnt_append]; omega) fun s5 p5 te S5 => ?_
    rw [hmid]
    have S6 := S5.reord (d' := dD A (v.hd o.hd) o.rv o.tv du (x.next o.nm o.dv) p ⟨⟨sgs⟩⟩ tk (refs cls) ++ (svD o.rv o.ry ++ (kD o.a o.nm o.hd o.rv o.tv o.dv ++ (svD o.tv o.ty ++ (Ro ++ (([(du, .arr c_list (rrefs D))] : DM) ++ (([(v.pls, .arr c_list (prefs P))] : DM) ++ (plM P ++ (rowM D ++ R))))))))) fun a => by simp only [cnt_append]; omega
    refine D2 w s₀ b1 b2 Y A (v.hd o.hd) o.rv o.tv du ⟨⟨sgs⟩⟩ tk (refs cls) k6 x p o.nm o.dv (mid chs o p) te S6 fun τ6 N6 T6 G6 s6 p6 _ _ S7 => ?_
    rw [fs_O]
    refine lawEnd Y A k6 sgs tk (rO w.params A ⟨⟨sgs⟩⟩ tk) (mid chs o p) _ o.tv o.ty (hok o hmem).2 (by omega) (by omega) (dD A (v.hd o.hd) o.rv o.tv du (x.next o.nm o.dv) p ⟨⟨sgs⟩⟩ tk (refs cls) ++ (kD o.a o.nm o.hd o.rv o.tv o.dv ++ (svD o.rv o.ry ++ (Ro ++ (([(du, .arr c_list (rrefs D))] : DM) ++ (([(v.pls, .arr c_list (prefs P))] : DM) ++ (plM P ++ (rowM D ++ R)))))))) (S7.reord fun a => by simp only [cnt_append]; omega) fun s8 p8 te2 S8 => ?_
    rw [hfin]
    cases hdv : o.dv with
    | true =>
      rw [hdv] at S8
      have S9 := S8.reord (d' := dD A (v.hd o.hd) o.rv o.tv du (x.next o.nm true) p ⟨⟨sgs⟩⟩ tk (refs cls) ++ (([(du, .arr c_list (rrefs D))] : DM) ++ (([(v.pls, .arr c_list (prefs P))] : DM) ++ (plM P ++ (clsM cls ++ (rowM D ++ R)))))) fun a => by simp only [cnt_append, hO, hdv]; omega
      refine D3d w s₀ b1 b2 Y A (v.hd o.hd) o.rv o.tv du ⟨⟨sgs⟩⟩ tk (refs cls) k6 x p o.nm (fin chs o p) te2 S9 fun τ9 N9 T9 G9 s9 p9 _ _ S10 => ?_
      refine ih (fin chs o p) (v.hd o.hd) o.rv o.tv _ D (by omega) (by omega) hsz (by omega) S10 fun s' p' v' r' tl' x' D' hD' hv' S' => next s' p' v' r' tl' x' D' ?_ hv' S'
      rw [hD', hrow, hdv]; rfl
    | false =>
      rw [hdv] at S8
      have hPp : P[p]? = some P[p] := List.getElem?_eq_getElem (by omega)
      have hP2 : P[p].2 = chs[p] := by
        have : (P.map (·.2))[p]? = some P[p].2 := by rw [List.getElem?_map, hPp]; rfl
        rw [hchs, hx] at this
        exact (Option.some.inj this).symm
      obtain ⟨Rp, hRp⟩ := cnt_split plD (List.getElem_mem (show p < P.length by omega))
      have S9 := S8.reord (d' := dD A (v.hd o.hd) o.rv o.tv du (x.next o.nm false) p ⟨⟨sgs⟩⟩ tk (refs cls) ++ (([(du, .arr c_list (rrefs D))] : DM) ++ (([(v.pls, .arr c_list (prefs P))] : DM) ++ plD P[p])) ++ (Rp ++ (clsM cls ++ (rowM D ++ R)))) fun a => by
        have := hRp a
        rw [show P.flatMap plD = plM P from rfl] at this
        simp only [cnt_append, hO, hdv, this]; omega
      have hy := slice_text sgs p (fin chs o p) (by omega) (by omega) (by omega)
      have hyt : (sgs.drop p).take (fin chs o p - p) = (took chs o p chs[p]).map (·.sg) := by
        rw [took_eq hx, ← hsgs, List.map_take, List.map_drop]
      rw [hyt] at hy
      have hit : ItemAt (prefs P) p (.ref P[p].1) := ⟨by omega, by omega, by simp [prefs, hPp]⟩
      refine D3k w s₀ b1 b2 Y A (v.hd o.hd) o.rv o.tv du ⟨⟨sgs⟩⟩ tk (refs cls) k6 x p o.nm (fin chs o p) te2 (rrefs D) (prefs P) P[p].1 P[p].2.row P[p].2.col P[p].2.file _ _ hy hit (by rw [show (rrefs D).size = D.length by simp [rrefs]]; exact le_line (by omega)) S9 fun τ9 N9 T9 G9 s9 p9 _ _ S10 => ?_
      have er : rowAt chs o p chs[p] = ⟨o.nm, ⟨⟨(took chs o p chs[p]).map (·.sg)⟩⟩, P[p].2.row, P[p].2.col, P[p].2.file⟩ := by rw [hP2]; rfl
      refine ih (fin chs o p) (v.hd o.hd) o.rv o.tv ((x.next o.nm false).fin (fin chs o p)) (D ++ [(N9 + 2, rowAt chs o p chs[p])]) (by omega) (by omega) hsz (by simp; omega) ((show StD (K5 w s₀ b1 b2) (dD A (v.hd o.hd) o.rv o.tv du ((x.next o.nm false).fin (fin chs o p)) (fin chs o p) ⟨⟨sgs⟩⟩ tk (refs cls) ++ (([(du, .arr c_list ((rrefs D).push (.ref (N9 + 2))))] : DM) ++ (([(v.pls, .arr c_list (prefs P))] : DM) ++ (plD P[p] ++ ([(N9 + 2, rowD (rowAt chs o p chs[p]))] : DM)))) ++ (Rp ++ (clsM cls ++ (rowM D ++ R)))) [] s9 from er ▸ S10).reord fun a => ?_) fun s' p' v' r' tl' x' D' hD' hv' S' => next s' p' v' r' tl' x' D' ?_ hv' S'
      · have e1 : rrefs (D ++ [(N9 + 2, rowAt chs o p chs[p])]) = (rrefs D).push (.ref (N9 + 2)) := (rrefs_push D (N9 + 2, rowAt chs o p chs[p])).symm
        have e2 : cnt a (rowM (D ++ [(N9 + 2, rowAt chs o p chs[p])])) = cnt a (rowM D) + cnt a ([(N9 + 2, rowD (rowAt chs o p chs[p]))] : DM) := by
          unfold rowM; rw [List.map_append, cnt_append]; rfl
        have := hRp a
        rw [show P.flatMap plD = plM P from rfl] at this
        simp only [cnt_append, e1, e2, this, LV.hd]; omega
      · rw [hD', hrow, hdv, List.map_append, List.append_assoc]; rfl
end
end Mine
end

section
set_option maxRecDepth 100000
set_option maxHeartbeats 4000000
namespace Mine
open PySem PySem.W PySem.W.X
section
variable {w : World} {s₀ : Shared} {b1 b2 : Bool} (Y : Sys (K5 w s₀ b1 b2)) (A : LA) (k6 : Result → Sem Fin)
theorem rowM_mem {l : List (Addr × Row)} {j : Nat} (h : j < l.length) : (l[j].1, rowD l[j].2) ∈ rowM l := List.mem_map.mpr ⟨l[j], List.getElem_mem h, rfl⟩
theorem finish (v : LV) (r tl : SV) (du : Addr) (tx : Str) (tk : Tok) (ks : Array Value) (x : XD) (n : Nat) (hsz : v.size = (n : Int)) (G D : List (Addr × Row)) (hGD : G.map (·.2) = D.map (·.2)) (R : DM) {s : Shared} {pos : Pos}
    (S : StD (K5 w s₀ b1 b2) (dD A v r tl du x n tx tk ks ++ (([(du, .arr c_list (rrefs D))] : DM) ++ (([(A.acc, .arr c_list (rrefs G))] : DM) ++ (rowM G ++ (rowM D ++ R))))) [] s)
    (last : ∀ s' p', StD (K5 w s₀ b1 b2) R [] s' → Y.H s' ⟨k6 (.ok (.ret (.bool true))), .builtin b_caller {}, p', []⟩) :
    Y.H s ⟨denF (cDue w.params A), cDue w.params A, pos, fsD w.params A k6⟩ := by
  have S1 := S.reord (d' := dD A v r tl du x n tx tk ks ++ ([(A.acc, .arr c_list (rrefs G)), (du, .arr c_list (rrefs D))] : DM) ++ (rowM G ++ (rowM D ++ R))) fun a => by
    have : cnt a ([(A.acc, .arr c_list (rrefs G)), (du, .arr c_list (rrefs D))] : DM) = cnt a ([(A.acc, .arr c_list (rrefs G))] : DM) + cnt a ([(du, .arr c_list (rrefs D))] : DM) := cnt_cons ..
    simp only [cnt_append, this]; omega
  refine D4 w s₀ b1 b2 Y A v r tl du tx tk ks k6 x n (rrefs G) (rrefs D) (by rw [hsz]; simp) S1 fun τ N T G' s2 p2 _ _ S2 => ?_
  rw [fs_E]
  have hlen : G.length = D.length := by have := congrArg List.length hGD; simpa using this
  have hap := S2.apart
  refine Y.eqList S2 (l := A.acc) (b := du) (xs := rrefs G) (ys := rrefs D) (by simp) (by simp) (by simp [rrefs, hlen]) (fun j h1 h2 => ?_) (Nat.le_of_ble_eq_true ?_) ?_
  · have g1 : j < G.length := by simpa [rrefs] using h1
    have g2 : j < D.length := by omega
    refine ⟨G[j].1, D[j].1, G[j].2, by simp [rrefs], by simp [rrefs], fun e => ?_, List.mem_append_right _ (List.mem_append_left _ (rowM_mem g1)), List.mem_append_right _ (List.mem_append_right _ (List.mem_append_left _ ?_))⟩
    · rw [List.map_append, List.map_append, List.map_append] at hap
      have h3 := (List.nodup_append.mp hap).2.1
      have h4 := (List.nodup_append.mp h3).2.2
      refine h4 G[j].1 (List.mem_map.mpr ⟨_, rowM_mem g1, rfl⟩) D[j].1 (List.mem_map.mpr ⟨_, List.mem_append_left _ (rowM_mem g2), rfl⟩) e
    · have e : G[j].2 = D[j].2 := by
        have := congrArg (fun l => l[j]?) hGD
        simp only [List.getElem?_map, List.getElem?_eq_getElem g1, List.getElem?_eq_getElem g2, Option.map_some, Option.some.injEq] at this
        exact this
      rw [e]; exact rowM_mem g2
  · exact units_E w.params A k6 du
  · exact D5 w s₀ b1 b2 Y A k6 du (L := R) (S2.mem_drop (d' := [] ++ R) (e := dD A v r tl du x n tx tk ks ++ (([(A.acc, .arr c_list (rrefs G)), (du, .arr c_list (rrefs D))] : DM) ++ (rowM G ++ rowM D))) fun a => by simp only [cnt_append, cnt_nil]; omega) fun τ N T G s3 p3 _ _ S3 => last s3 p3 S3
theorem tailAll (P : List (Addr × Ch)) (hn : P.length ≤ 16) (h0 : 0 < P.length) (cls : List CO) (hc : cls.length ≤ 100) (hall : ∀ x ∈ P.map (·.2), ∃ o, cls.find? (fun o => inS o.hd x.sg) = some o) (hok : ∀ o ∈ cls, o.ok) (v16 : Value) (v : LV) (hsz : v.size = (P.length : Int)) (r tl : SV) (tk : Tok) (R : DM) {s : Shared} {pos : Pos}
    (S : StD (K5 w s₀ b1 b2) (lexDM w.params A v16 false 0 none #[] (crefs (P.map (·.2))) (refs cls) #[] none (.ref A.fst) ++ (l0D0 A v r tl ++ (([(A.cat, .cell none)] : DM) ++ (([(A.ctx, .cell (some (.raw (.str ⟨⟨(P.map (·.2)).map (·.sg)⟩⟩ tk))))] : DM) ++ (([(v.pls, .arr c_list (prefs P))] : DM) ++ (adD A none ++ (tabD none ++ (chM (P.map (·.2)) ++ (clsM cls ++ (plM P ++ R)))))))))) (GR A) s)
    (last : ∀ s' p' co', StD (K5 w s₀ b1 b2) (tabD co' ++ R) [] s' → Y.H s' ⟨k6 (.ok (.ret (.bool true))), .builtin b_caller {}, p', []⟩) :
    Y.H s ⟨denF (cInner w.params A), cInner w.params A, pos, fs0 w.params A k6⟩ := by
  have hl : (P.map (·.2)).length = P.length := List.length_map ..
  have S' : StD (K5 w s₀ b1 b2) (lexDM w.params A v16 false 0 none #[] (crefs (P.map (·.2))) (refs cls) (rrefs []) none (.ref A.fst) ++ (l0D0 A v r tl ++ (([(A.cat, .cell none)] : DM) ++ (([(A.ctx, .cell (some (.raw (.str ⟨⟨(P.map (·.2)).map (·.sg)⟩⟩ tk))))] : DM) ++ (([(v.pls, .arr c_list (prefs P))] : DM) ++ (adD A none ++ (tabD none ++ (chM (P.map (·.2)) ++ (clsM cls ++ (plM P ++ R)))))))))) (GR A) s := S
  refine lexAll Y A v16 k6 (P.map (·.2)) (by omega) cls hc hall hok v r tl (([(A.ctx, .cell (some (.raw (.str ⟨⟨(P.map (·.2)).map (·.sg)⟩⟩ tk))))] : DM) ++ (([(v.pls, .arr c_list (prefs P))] : DM) ++ (plM P ++ R))) P.length 0 false 0 none [] none none (by omega) (by omega) (.inl ⟨rfl, rfl, rfl⟩) (fun h => by omega) (by simp; omega) (S'.reord fun a => ?_) fun s1 p1 du G co' hG S1 => ?_
  · simp only [cnt_append, show rowM [] = [] from rfl, cnt_nil]; omega
  have S2 : StD (K5 w s₀ b1 b2) ((du, .arr c_list (rrefs [])) :: (dD A v r tl du .o (0 : Nat) ⟨⟨(P.map (·.2)).map (·.sg)⟩⟩ tk (refs cls) ++ (([(v.pls, .arr c_list (prefs P))] : DM) ++ (plM P ++ (clsM cls ++ (accD A (rrefs G) ++ (rowM G ++ (chM (P.map (·.2)) ++ (tabD co' ++ R))))))))) [] s1 := by
    refine StD.recast (a := du) (o := .seq c_list []) (o' := .arr c_list (rrefs [])) (fun τ n => ⟨τ, n, rfl⟩) (S1.reord fun a => ?_)
    have e : dD A v r tl du .o (0 : Nat) ⟨⟨(P.map (·.2)).map (·.sg)⟩⟩ tk (refs cls) = l0D1 A v r tl du ++ (([(A.cat, .cell (some (.int 0)))] : DM) ++ (([(A.ctx, .cell (some (.raw (.str ⟨⟨(P.map (·.2)).map (·.sg)⟩⟩ tk))))] : DM) ++ clsD A (refs cls))) := rfl
    rw [cnt_cons, e]
    simp only [cnt_append]; omega
  refine dueAll Y A k6 P hn cls hc hall hok du tk (accD A (rrefs G) ++ (rowM G ++ (chM (P.map (·.2)) ++ (tabD co' ++ R)))) P.length 0 v r tl .o [] (by omega) (by omega) hsz (by simp; omega) (S2.reord fun a => ?_) fun s3 p3 v3 r3 tl3 x3 D hD hv3 S3 => ?_
  · rw [cnt_cons]
    simp only [cnt_append, show rowM [] = [] from rfl, cnt_nil]; omega
  refine finish Y A k6 v3 r3 tl3 du ⟨⟨(P.map (·.2)).map (·.sg)⟩⟩ tk (refs cls) x3 P.length hv3 G D (by rw [hG, hD]) (tabD co' ++ R) (S3.mem_drop (e := chM (P.map (·.2))) fun a => ?_) fun s4 p4 S4 => last s4 p4 co' S4
  simp only [cnt_append, accD]; omega
end
end Mine
end

section
set_option maxRecDepth 100000
set_option maxHeartbeats 4000000
namespace Mine
open PySem PySem.W PySem.W.X
def Sm (n : Nat) (h : Str) : Prop := h.cps.toList.length ≤ n ∧ ∀ c ∈ h.cps.toList, c < 128
def SmV (vs : List (Str × Tok)) : Prop := ∀ p ∈ vs, ∃ c, p.1 = ⟨⟨[c]⟩⟩ ∧ c < 128
theorem sgn_one : ∀ k, ∃ c, sgn k = [c] ∧ c < 128
  | 0 => ⟨97, rfl, by decide⟩
  | 1 => ⟨98, rfl, by decide⟩
  | 2 => ⟨55, rfl, by decide⟩
  | 3 => ⟨32, rfl, by decide⟩
  | 4 => ⟨46, rfl, by decide⟩
  | _ + 5 => ⟨10, rfl, by decide⟩
theorem glue_fold : ∀ (l : List (Str × Tok)) (acc : Array Nat) (n : Nat), acc.toList.length ≤ n → (∀ c ∈ acc.toList, c < 128) → SmV l →
    ((l.map (·.1)).foldl (fun acc p => acc ++ (⟨⟨[]⟩⟩ : Str).cps ++ p.cps) acc).toList.length ≤ n + l.length ∧ ∀ c ∈ ((l.map (·.1)).foldl (fun acc p => acc ++ (⟨⟨[]⟩⟩ : Str).cps ++ p.cps) acc).toList, c < 128
  | [], acc, n, h1, h2, _ => ⟨h1, h2⟩
  | p :: l, acc, n, h1, h2, h => by
    obtain ⟨c, hc, hlt⟩ := h p (List.mem_cons_self ..)
    have := glue_fold l (acc ++ (⟨⟨[]⟩⟩ : Str).cps ++ p.1.cps) (n + 1) (by rw [hc]; simp; simpa using h1) (by
      rw [hc]; intro x hx
      simp at hx
      rcases hx with hx | hx
      · exact h2 x (by simpa using hx)
      · rw [hx]; exact hlt) fun q hq => h q (List.mem_cons_of_mem _ hq)
    refine ⟨?_, this.2⟩
    have h3 := this.1
    simp only [List.length_cons]
    show ((l.map (·.1)).foldl (fun acc p => acc ++ (⟨⟨[]⟩⟩ : Str).cps ++ p.cps) (acc ++ (⟨⟨[]⟩⟩ : Str).cps ++ p.1.cps)).toList.length ≤ _
    omega
theorem glue0_sm {vs : List (Str × Tok)} {n : Nat} (h : SmV vs) (hn : vs.length ≤ n) : Sm n (glue0 vs) := by
  match vs, h, hn with
  | [], _, _ => exact ⟨Nat.zero_le _, fun c hc => by simp [glue0] at hc⟩
  | [p], h, hn =>
    obtain ⟨c, hc, hlt⟩ := h p (List.mem_cons_self ..)
    refine ⟨?_, ?_⟩
    · show p.1.cps.toList.length ≤ n
      rw [hc]; exact hn
    · show ∀ c ∈ p.1.cps.toList, c < 128
      rw [hc]; intro x hx
      have : x = c := by simpa using hx
      rw [this]; exact hlt
  | p :: q :: r, h, hn =>
    obtain ⟨c, hc, hlt⟩ := h p (List.mem_cons_self ..)
    have h1 : ∀ x ∈ p.1.cps.toList, x < 128 := by
      rw [hc]; intro x hx
      have : x = c := by simpa using hx
      rw [this]; exact hlt
    have := glue_fold (q :: r) p.1.cps 1 (by rw [hc]; exact Nat.le_refl _) h1 fun x hx => h x (List.mem_cons_of_mem _ hx)
    exact ⟨Nat.le_trans this.1 (by simp only [List.length_cons] at hn ⊢; omega), this.2⟩
theorem len_fold : ∀ (l : List (Str × Tok)) (n : Nat), SmV l → (l.map (·.1)).foldl (fun (a : Nat) (s : Str) => a + s.length + (⟨⟨[]⟩⟩ : Str).length) n = n + l.length
  | [], n, _ => rfl
  | p :: l, n, h => by
    obtain ⟨c, hc, hlt⟩ := h p (List.mem_cons_self ..)
    show (l.map (·.1)).foldl (fun (a : Nat) (s : Str) => a + s.length + (⟨⟨[]⟩⟩ : Str).length) (n + p.1.length + (⟨⟨[]⟩⟩ : Str).length) = _
    rw [len_fold l _ fun q hq => h q (List.mem_cons_of_mem _ hq), hc]
    show n + 1 + 0 + l.length = n + (l.length + 1)
    omega
theorem joinOk {vs : List (Str × Tok)} (h : SmV vs) (hn : vs.length ≤ 50) : JoinOk vs := by
  refine ⟨le_line (Nat.le_trans (glue0_sm h hn).1 (by omega)), ?_⟩
  show decide (_ > sizeLine) = false
  rw [decide_eq_false_iff_not]
  have : (vs.map (·.1)).toArray.foldl (fun (a : Nat) (s : Str) => a + s.length + (⟨⟨[]⟩⟩ : Str).length) 0 = 0 + vs.length := by
    rw [List.foldl_toArray]; exact len_fold vs 0 h
  rw [this]
  have : vs.length ≤ sizeLine := le_line (by omega)
  omega
theorem strValues_push (vs : List (Str × Tok)) (x : Str) (t : Tok) : (strValues vs).toArray.push (.str x t) = (strValues (vs ++ [(x, t)])).toArray := by simp [strValues]
section
variable {w : World} {s₀ : Shared} {b1 b2 : Bool} (Y : Sys (K5 w s₀ b1 b2)) (A : LA) (z : Addr) (k6 : Result → Sem Fin)
theorem lsStep0 (x : RF) (m : Int) (q tz : Addr) (vs : List (Str × Tok)) (hv : SmV vs) (hn : vs.length ≤ 0) (R : DM) {s : Shared} {pos : Pos}
    (S : StD (K5 w s₀ b1 b2) (lsM q m (strValues vs).toArray 0 ++ R) [] s)
    (next : ∀ s' p' vs', SmV vs' → vs'.length ≤ 1 → StD (K5 w s₀ b1 b2) (lsM q m (strValues vs').toArray 1 ++ R) [] s' → Y.H s' ⟨denF (cLT w.params q), cLT w.params q, p', fsLS w.params A k6 z x q tz⟩) :
    Y.H s ⟨denF (cLT w.params q), cLT w.params q, pos, fsLS w.params A k6 z x q tz⟩ := by
  refine LS_0 w s₀ b1 b2 Y A z k6 x m q tz _ S fun τ N T G s1 p1 _ _ S1 => ?_
  refine Y.own (own_comp' (V0 w.params 0) (cLT w.params q) (q + 3) (N + 0) (tup_LS w.params q)) rfl S1 fun s2 p2 S2 => ?_
  have hs : (strValues vs).toArray.size ≤ sizeLine := le_line (by simp [strValues]; omega)
  cases hb : ((m.fdiv 1).fmod 2 == 1) with
  | true =>
    refine LS_0_1 w s₀ b1 b2 Y A z k6 x m q tz (N + 0) (T + 0) _ hb hs S2 fun τ' N' T' G' s3 p3 _ _ S3 => ?_
    rw [strValues_push] at S3
    refine next s3 p3 (vs ++ [(⟨⟨sgn 0⟩⟩, T + 0)]) (fun p hp => ?_) (by simp only [List.length_append, List.length_singleton]; omega) S3
    rcases List.mem_append.mp hp with h | h
    · exact hv p h
    · cases List.mem_singleton.mp h
      obtain ⟨c, hc, hlt⟩ := sgn_one 0
      exact ⟨c, by rw [hc], hlt⟩
  | false => exact LS_0_0 w s₀ b1 b2 Y A z k6 x m q tz (N + 0) (T + 0) _ hb S2 fun τ' N' T' G' s3 p3 _ _ S3 => next s3 p3 vs hv (by omega) S3
theorem lsStep1 (x : RF) (m : Int) (q tz : Addr) (vs : List (Str × Tok)) (hv : SmV vs) (hn : vs.length ≤ 1) (R : DM) {s : Shared} {pos : Pos}
    (S : StD (K5 w s₀ b1 b2) (lsM q m (strValues vs).toArray 1 ++ R) [] s)
    (next : ∀ s' p' vs', SmV vs' → vs'.length ≤ 2 → StD (K5 w s₀ b1 b2) (lsM q m (strValues vs').toArray 2 ++ R) [] s' → Y.H s' ⟨denF (cLT w.params q), cLT w.params q, p', fsLS w.params A k6 z x q tz⟩) :
    Y.H s ⟨denF (cLT w.params q), cLT w.params q, pos, fsLS w.params A k6 z x q tz⟩ := by
  refine LS_1 w s₀ b1 b2 Y A z k6 x m q tz _ S fun τ N T G s1 p1 _ _ S1 => ?_
  refine Y.own (own_comp' (V0 w.params 0) (cLT w.params q) (q + 3) (N + 0) (tup_LS w.params q)) rfl S1 fun s2 p2 S2 => ?_
  have hs : (strValues vs).toArray.size ≤ sizeLine := le_line (by simp [strValues]; omega)
  cases hb : ((m.fdiv 2).fmod 2 == 1) with
  | true =>
    refine LS_1_1 w s₀ b1 b2 Y A z k6 x m q tz (N + 0) (T + 0) _ hb hs S2 fun τ' N' T' G' s3 p3 _ _ S3 => ?_
    rw [strValues_push] at S3
    refine next s3 p3 (vs ++ [(⟨⟨sgn 1⟩⟩, T + 0)]) (fun p hp => ?_) (by simp only [List.length_append, List.length_singleton]; omega) S3
    rcases List.mem_append.mp hp with h | h
    · exact hv p h
    · cases List.mem_singleton.mp h
      obtain ⟨c, hc, hlt⟩ := sgn_one 1
      exact ⟨c, by rw [hc], hlt⟩
  | false => exact LS_1_0 w s₀ b1 b2 Y A z k6 x m q tz (N + 0) (T + 0) _ hb S2 fun τ' N' T' G' s3 p3 _ _ S3 => next s3 p3 vs hv (by omega) S3
theorem lsStep2 (x : RF) (m : Int) (q tz : Addr) (vs : List (Str × Tok)) (hv : SmV vs) (hn : vs.length ≤ 2) (R : DM) {s : Shared} {pos : Pos}
    (S : StD (K5 w s₀ b1 b2) (lsM q m (strValues vs).toArray 2 ++ R) [] s)
    (next : ∀ s' p' vs', SmV vs' → vs'.length ≤ 3 → StD (K5 w s₀ b1 b2) (lsM q m (strValues vs').toArray 3 ++ R) [] s' → Y.H s' ⟨denF (cLT w.params q), cLT w.params q, p', fsLS w.params A k6 z x q tz⟩) :
    Y.H s ⟨denF (cLT w.params q), cLT w.params q, pos, fsLS w.params A k6 z x q tz⟩ := by
  refine LS_2 w s₀ b1 b2 Y A z k6 x m q tz _ S fun τ N T G s1 p1 _ _ S1 => ?_
  refine Y.own (own_comp' (V0 w.params 0) (cLT w.params q) (q + 3) (N + 0) (tup_LS w.params q)) rfl S1 fun s2 p2 S2 => ?_
  have hs : (strValues vs).toArray.size ≤ sizeLine := le_line (by simp [strValues]; omega)
  cases hb : ((m.fdiv 4).fmod 2 == 1) with
  | true =>
    refine LS_2_1 w s₀ b1 b2 Y A z k6 x m q tz (N + 0) (T + 0) _ hb hs S2 fun τ' N' T' G' s3 p3 _ _ S3 => ?_
    rw [strValues_push] at S3
    refine next s3 p3 (vs ++ [(⟨⟨sgn 2⟩⟩, T + 0)]) (fun p hp => ?_) (by simp only [List.length_append, List.length_singleton]; omega) S3
    rcases List.mem_append.mp hp with h | h
    · exact hv p h
    · cases List.mem_singleton.mp h
      obtain ⟨c, hc, hlt⟩ := sgn_one 2
      exact ⟨c, by rw [hc], hlt⟩
  | false => exact LS_2_0 w s₀ b1 b2 Y A z k6 x m q tz (N + 0) (T + 0) _ hb S2 fun τ' N' T' G' s3 p3 _ _ S3 => next s3 p3 vs hv (by omega) S3
theorem lsStep3 (x : RF) (m : Int) (q tz : Addr) (vs : List (Str × Tok)) (hv : SmV vs) (hn : vs.length ≤ 3) (R : DM) {s : Shared} {pos : Pos}
    (S : StD (K5 w s₀ b1 b2) (lsM q m (strValues vs).toArray 3 ++ R) [] s)
    (next : ∀ s' p' vs', SmV vs' → vs'.length ≤ 4 → StD (K5 w s₀ b1 b2) (lsM q m (strValues vs').toArray 4 ++ R) [] s' → Y.H s' ⟨denF (cLT w.params q), cLT w.params q, p', fsLS w.params A k6 z x q tz⟩) :
    Y.H s ⟨denF (cLT w.params q), cLT w.params q, pos, fsLS w.params A k6 z x q tz⟩ := by
  refine LS_3 w s₀ b1 b2 Y A z k6 x m q tz _ S fun τ N T G s1 p1 _ _ S1 => ?_
  refine Y.own (own_comp' (V0 w.params 0) (cLT w.params q) (q + 3) (N + 0) (tup_LS w.params q)) rfl S1 fun s2 p2 S2 => ?_
  have hs : (strValues vs).toArray.size ≤ sizeLine := le_line (by simp [strValues]; omega)
  cases hb : ((m.fdiv 8).fmod 2 == 1) with
  | true =>
    refine LS_3_1 w s₀ b1 b2 Y A z k6 x m q tz (N + 0) (T + 0) _ hb hs S2 fun τ' N' T' G' s3 p3 _ _ S3 => ?_
    rw [strValues_push] at S3
    refine next s3 p3 (vs ++ [(⟨⟨sgn 3⟩⟩, T + 0)]) (fun p hp => ?_) (by simp only [List.length_append, List.length_singleton]; omega) S3
    rcases List.mem_append.mp hp with h | h
    · exact hv p h
    · cases List.mem_singleton.mp h
      obtain ⟨c, hc, hlt⟩ := sgn_one 3
      exact ⟨c, by rw [hc], hlt⟩
  | false => exact LS_3_0 w s₀ b1 b2 Y A z k6 x m q tz (N + 0) (T + 0) _ hb S2 fun τ' N' T' G' s3 p3 _ _ S3 => next s3 p3 vs hv (by omega) S3
theorem lsStep4 (x : RF) (m : Int) (q tz : Addr) (vs : List (Str × Tok)) (hv : SmV vs) (hn : vs.length ≤ 4) (R : DM) {s : Shared} {pos : Pos}
    (S : StD (K5 w s₀ b1 b2) (lsM q m (strValues vs).toArray 4 ++ R) [] s)
    (next : ∀ s' p' vs', SmV vs' → vs'.length ≤ 5 → StD (K5 w s₀ b1 b2) (lsM q m (strValues vs').toArray 5 ++ R) [] s' → Y.H s' ⟨denF (cLT w.params q), cLT w.params q, p', fsLS w.params A k6 z x q tz⟩) :
    Y.H s ⟨denF (cLT w.params q), cLT w.params q, pos, fsLS w.params A k6 z x q tz⟩ := by
  refine LS_4 w s₀ b1 b2 Y A z k6 x m q tz _ S fun τ N T G s1 p1 _ _ S1 => ?_
  refine Y.own (own_comp' (V0 w.params 0) (cLT w.params q) (q + 3) (N + 0) (tup_LS w.params q)) rfl S1 fun s2 p2 S2 => ?_
  have hs : (strValues vs).toArray.size ≤ sizeLine := le_line (by simp [strValues]; omega)
  cases hb : ((m.fdiv 16).fmod 2 == 1) with
  | true =>
    refine LS_4_1 w s₀ b1 b2 Y A z k6 x m q tz (N + 0) (T + 0) _ hb hs S2 fun τ' N' T' G' s3 p3 _ _ S3 => ?_
    rw [strValues_push] at S3
    refine next s3 p3 (vs ++ [(⟨⟨sgn 4⟩⟩, T + 0)]) (fun p hp => ?_) (by simp only [List.length_append, List.length_singleton]; omega) S3
    rcases List.mem_append.mp hp with h | h
    · exact hv p h
    · cases List.mem_singleton.mp h
      obtain ⟨c, hc, hlt⟩ := sgn_one 4
      exact ⟨c, by rw [hc], hlt⟩
  | false => exact LS_4_0 w s₀ b1 b2 Y A z k6 x m q tz (N + 0) (T + 0) _ hb S2 fun τ' N' T' G' s3 p3 _ _ S3 => next s3 p3 vs hv (by omega) S3
theorem lsStep5 (x : RF) (m : Int) (q tz : Addr) (vs : List (Str × Tok)) (hv : SmV vs) (hn : vs.length ≤ 5) (R : DM) {s : Shared} {pos : Pos}
    (S : StD (K5 w s₀ b1 b2) (lsM q m (strValues vs).toArray 5 ++ R) [] s)
    (next : ∀ s' p' vs', SmV vs' → vs'.length ≤ 6 → StD (K5 w s₀ b1 b2) (lsM q m (strValues vs').toArray 6 ++ R) [] s' → Y.H s' ⟨denF (cLT w.params q), cLT w.params q, p', fsLS w.params A k6 z x q tz⟩) :
    Y.H s ⟨denF (cLT w.params q), cLT w.params q, pos, fsLS w.params A k6 z x q tz⟩ := by
  refine LS_5 w s₀ b1 b2 Y A z k6 x m q tz _ S fun τ N T G s1 p1 _ _ S1 => ?_
  refine Y.own (own_comp' (V0 w.params 0) (cLT w.params q) (q + 3) (N + 0) (tup_LS w.params q)) rfl S1 fun s2 p2 S2 => ?_
  have hs : (strValues vs).toArray.size ≤ sizeLine := le_line (by simp [strValues]; omega)
  cases hb : ((m.fdiv 32).fmod 2 == 1) with
  | true =>
    refine LS_5_1 w s₀ b1 b2 Y A z k6 x m q tz (N + 0) (T + 0) _ hb hs S2 fun τ' N' T' G' s3 p3 _ _ S3 => ?_
    rw [strValues_push] at S3
    refine next s3 p3 (vs ++ [(⟨⟨sgn 5⟩⟩, T + 0)]) (fun p hp => ?_) (by simp only [List.length_append, List.length_singleton]; omega) S3
    rcases List.mem_append.mp hp with h | h
    · exact hv p h
    · cases List.mem_singleton.mp h
      obtain ⟨c, hc, hlt⟩ := sgn_one 5
      exact ⟨c, by rw [hc], hlt⟩
  | false => exact LS_5_0 w s₀ b1 b2 Y A z k6 x m q tz (N + 0) (T + 0) _ hb S2 fun τ' N' T' G' s3 p3 _ _ S3 => next s3 p3 vs hv (by omega) S3
theorem lawSet (x : RF) (m : Int) (tm : Tok) (R : DM) {s : Shared} {pos : Pos} (S : StD (K5 w s₀ b1 b2) R [] s)
    (next : ∀ s' p' (h : Str) (th : Tok), Sm 6 h → StD (K5 w s₀ b1 b2) R [] s' → Y.H s' ⟨x.k (.ok (.ret (.str h th))), cF1 w.params A z, p', fsF1 w.params A k6 z⟩) :
    Y.H s ⟨denF (cLS m tm), cLS m tm, pos, fsS w.params A k6 z x⟩ := by
  refine LS0 w s₀ b1 b2 Y A z k6 x m tm (L := R) S fun τ N T G s0 p0 _ _ S0 => ?_
  refine lsStep0 Y A z k6 x m N T [] (fun _ h => nomatch h) (Nat.le_refl _) R S0 fun s1 p1 v1 h1 n1 S1 => ?_
  refine lsStep1 Y A z k6 x m N T v1 h1 n1 R S1 fun s2 p2 v2 h2 n2 S2 => ?_
  refine lsStep2 Y A z k6 x m N T v2 h2 n2 R S2 fun s3 p3 v3 h3 n3 S3 => ?_
  refine lsStep3 Y A z k6 x m N T v3 h3 n3 R S3 fun s4 p4 v4 h4 n4 S4 => ?_
  refine lsStep4 Y A z k6 x m N T v4 h4 n4 R S4 fun s5 p5 v5 h5 n5 S5 => ?_
  refine lsStep5 Y A z k6 x m N T v5 h5 n5 R S5 fun s6 p6 v6 h6 n6 S6 => ?_
  exact LS_end w s₀ b1 b2 Y A z k6 x m N T v6 (joinOk h6 (by omega)) S6 fun τ' N' T' G' s7 p7 _ _ S7 => next s7 p7 _ _ (glue0_sm h6 n6) S7
theorem ascii_of {h : Str} {n : Nat} (hs : Sm n h) : h.cps.all (· < 128) = true := by
  rw [← Array.all_toList]
  exact List.all_eq_true.mpr fun c hc => decide_eq_true (hs.2 c hc)
theorem lawList (x : RF) (tx : Tok) (R : DM) : ∀ (h : Str), Sm 6 h → ∀ {s : Shared} {pos : Pos}, StD (K5 w s₀ b1 b2) R [] s →
    (∀ s' p' l (ys : Array Value), (∀ y ∈ ys, ∃ z t, y = Value.str z t) → StD (K5 w s₀ b1 b2) (([(l, .arr c_list ys)] : DM) ++ R) [] s' → Y.H s' ⟨x.k (.ok (.ret (.ref l))), cF1 w.params A z, p', fsF1 w.params A k6 z⟩) →
    Y.H s ⟨denF (cList h tx), cList h tx, pos, fsS w.params A k6 z x⟩
  | ⟨⟨[]⟩⟩, hs, s, pos, S, next => LL_0 w s₀ b1 b2 Y A z k6 x  tx (ascii_of hs) (L := R) S fun τ N T G s1 p1 _ _ S1 => next s1 p1 _ _ (fun y hy => by simp at hy) S1
  | ⟨⟨[c0]⟩⟩, hs, s, pos, S, next => LL_1 w s₀ b1 b2 Y A z k6 x c0 tx (ascii_of hs) (L := R) S fun τ N T G s1 p1 _ _ S1 => next s1 p1 _ _ (fun y hy => by
      simp at hy
      exact ⟨_, _, hy⟩) S1
  | ⟨⟨[c0, c1]⟩⟩, hs, s, pos, S, next => LL_2 w s₀ b1 b2 Y A z k6 x c0 c1 tx (ascii_of hs) (L := R) S fun τ N T G s1 p1 _ _ S1 => next s1 p1 _ _ (fun y hy => by
      simp at hy
      rcases hy with rfl | rfl <;> exact ⟨_, _, rfl⟩) S1
  | ⟨⟨[c0, c1, c2]⟩⟩, hs, s, pos, S, next => LL_3 w s₀ b1 b2 Y A z k6 x c0 c1 c2 tx (ascii_of hs) (L := R) S fun τ N T G s1 p1 _ _ S1 => next s1 p1 _ _ (fun y hy => by
      simp at hy
      rcases hy with rfl | rfl | rfl <;> exact ⟨_, _, rfl⟩) S1
  | ⟨⟨[c0, c1, c2, c3]⟩⟩, hs, s, pos, S, next => LL_4 w s₀ b1 b2 Y A z k6 x c0 c1 c2 c3 tx (ascii_of hs) (L := R) S fun τ N T G s1 p1 _ _ S1 => next s1 p1 _ _ (fun y hy => by
      simp at hy
      rcases hy with rfl | rfl | rfl | rfl <;> exact ⟨_, _, rfl⟩) S1
  | ⟨⟨[c0, c1, c2, c3, c4]⟩⟩, hs, s, pos, S, next => LL_5 w s₀ b1 b2 Y A z k6 x c0 c1 c2 c3 c4 tx (ascii_of hs) (L := R) S fun τ N T G s1 p1 _ _ S1 => next s1 p1 _ _ (fun y hy => by
      simp at hy
      rcases hy with rfl | rfl | rfl | rfl | rfl <;> exact ⟨_, _, rfl⟩) S1
  | ⟨⟨[c0, c1, c2, c3, c4, c5]⟩⟩, hs, s, pos, S, next => LL_6 w s₀ b1 b2 Y A z k6 x c0 c1 c2 c3 c4 c5 tx (ascii_of hs) (L := R) S fun τ N T G s1 p1 _ _ S1 => next s1 p1 _ _ (fun y hy => by
      simp at hy
      rcases hy with rfl | rfl | rfl | rfl | rfl | rfl <;> exact ⟨_, _, rfl⟩) S1
  | ⟨⟨_ :: _ :: _ :: _ :: _ :: _ :: _ ::  _⟩⟩, hs, _, _, _, _ => absurd hs.1 (by simp only [List.length_cons]; omega)
end
end Mine
end

section
set_option maxRecDepth 100000
set_option maxHeartbeats 4000000
namespace Mine
open PySem PySem.W PySem.W.X
def AllInt (a : Array Value) : Prop := ∀ (j : Nat) (v : Value), a[j]? = some v → ∃ (i : Int) (t : Tok), v = Value.int i t
section
variable {w : World} {s₀ : Shared} {b1 b2 : Bool} (Y : Sys (K5 w s₀ b1 b2)) (A : LA) (z : Addr) (k6 : Result → Sem Fin)
theorem clsM_push (cls : List CO) (o : CO) (a) : cnt a (clsM (cls ++ [o])) = cnt a (clsM cls) + cnt a o.dm := by
  unfold clsM; rw [cnt_flatMap]; simp
theorem clsTurn (sz : Int) (ns ks cs : Array Value) (j : Nat) (x : PX) (e : Option Int) (n : Int) (tn : Tok) (hj : cs[j]? = some (.int n tn)) (hj4 : j < 4) (hks : ks.size ≤ 50) (R : DM) {s : Shared} {pos : Pos}
    (S : StD (K5 w s₀ b1 b2) (p1D A z sz x.e0 ns ks cs j e ++ R) [] s)
    (next : ∀ s' p' (o : CO) msk, o.ok → StD (K5 w s₀ b1 b2) (p1D A z sz (PX.f j n msk o.hd o.rv o.tv).e0 ns (ks.push (.ref o.a)) cs (j + 1) (some n) ++ (o.dm ++ R)) [] s' → Y.H s' ⟨denF (cF1 w.params A z), cF1 w.params A z, p', fsF1 w.params A k6 z⟩) :
    Y.H s ⟨denF (cF1 w.params A z), cF1 w.params A z, pos, fsF1 w.params A k6 z⟩ := by
  have hnm : (((⟨⟨[75]⟩⟩) : Str) ++ (⟨⟨[48 + j]⟩⟩)).length ≤ sizeLine := by show 2 ≤ sizeLine; decide
  have hk : ks.size ≤ sizeLine := le_line (by omega)
  refine PF1a w s₀ b1 b2 Y A z k6 sz ns ks cs j x e n tn hj S fun τ N T G s1 p1 _ _ S1 => ?_
  refine Y.own (own_for' (V0 w.params 0) (cF1 w.params A z) (z + 3) (N + 0) (tup_F1 w.params A z)) rfl S1 fun s2 p2 S2 => ?_
  refine PF1b w s₀ b1 b2 Y A z k6 sz ns ks cs j x n tn (N + 0) (L := R) S2 fun τ3 N3 T3 G3 s3 p3 _ _ S3 => ?_
  rw [fs_S1]
  refine lawSet Y A z k6 (rS1 w.params A z) _ _ _ S3 fun s4 p4 h th hh S4 => ?_
  refine PF2 w s₀ b1 b2 Y A z k6 sz ns ks cs j x n (mskOf n j) h th S4 fun τ5 N5 T5 G5 s5 p5 _ _ S5 => ?_
  rw [fs_S2]
  refine lawSet Y A z k6 (rS2 w.params A z) _ _ _ S5 fun s6 p6 rx tr hr S6 => ?_
  refine PF3 w s₀ b1 b2 Y A z k6 sz ns ks cs j x n (mskOf n j) h rx tr S6 fun τ7 N7 T7 G7 s7 p7 _ _ S7 => ?_
  rw [fs_S3]
  refine lawSet Y A z k6 (rS3 w.params A z) _ _ _ S7 fun s8 p8 tx tt ht S8 => ?_
  cases hev : (n.fmod 2 != 0) with
  | false =>
    refine PF4e w s₀ b1 b2 Y A z k6 sz ns ks cs j x n (mskOf n j) h rx tx tr tt _ hev hj4 hnm rfl hk S8 fun τ9 N9 T9 G9 s9 p9 _ _ S9 => ?_
    refine next s9 p9 ⟨N9 + 0, kName j, h, .s rx tr, .s tx tt, decide (n.fmod 6 > 3), #[], #[]⟩ (mskOf n j) ⟨trivial, trivial⟩ ((show StD (K5 w s₀ b1 b2) (p1D A z sz (PX.f j n (mskOf n j) h (.s rx tr) (.s tx tt)).e0 ns (ks.push (.ref (N9 + 0))) cs (j + 1) (some n) ++ kD (N9 + 0) (kName j) h (.s rx tr) (.s tx tt) (decide (n.fmod 6 > 3)) ++ R) [] s9 from S9).reord fun a => ?_)
    simp only [cnt_append, CO.dm, svD, cnt_nil]; omega
  | true =>
    refine PF4o w s₀ b1 b2 Y A z k6 sz ns ks cs j x n (mskOf n j) h rx tx tr tt hev S8 fun τ9 N9 T9 G9 s9 p9 _ _ S9 => ?_
    rw [fs_S4]
    refine lawList Y A z k6 (rS4 w.params A z) tr _ rx hr S9 fun s10 p10 l1 y1 hy1 S10 => ?_
    have S11 := S10.reord (d' := (enD (z + 3) (z + 2) .none (j + 1) (intD (some n)) ++ p1C A z sz (pE4 (j : Int) n (mskOf n j) h (.s rx tr) (.s tx tt)) ns ks cs (j + 1)) ++ ([(l1, .arr c_list y1)] : DM) ++ R) fun a => by simp only [cnt_append]; omega
    refine PF5o w s₀ b1 b2 Y A z k6 sz ns ks cs j n (mskOf n j) h rx tx tr tt l1 y1 S11 fun τ12 N12 T12 G12 s12 p12 _ _ S12 => ?_
    rw [fs_S5]
    refine lawList Y A z k6 (rS5 w.params A z l1) tt _ tx ht S12 fun s13 p13 l2 y2 hy2 S13 => ?_
    have S14 := S13.reord (d' := (enD (z + 3) (z + 2) .none (j + 1) (intD (some n)) ++ p1C A z sz (pE4 (j : Int) n (mskOf n j) h (.s rx tr) (.s tx tt)) ns ks cs (j + 1)) ++ ([(l1, .arr c_list y1), (l2, .arr c_list y2)] : DM) ++ R) fun a => by
      have : cnt a ([(l1, .arr c_list y1), (l2, .arr c_list y2)] : DM) = cnt a ([(l1, .arr c_list y1)] : DM) + cnt a ([(l2, .arr c_list y2)] : DM) := cnt_cons ..
      simp only [cnt_append, this]; omega
    refine PF6o w s₀ b1 b2 Y A z k6 sz ns ks cs j n (mskOf n j) h rx tx tr tt l1 l2 y1 y2 _ hj4 hnm rfl hk S14 fun τ15 N15 T15 G15 s15 p15 _ _ S15 => ?_
    refine next s15 p15 ⟨N15 + 4, kName j, h, .l l1, .l l2, decide (n.fmod 6 > 3), y1, y2⟩ (mskOf n j) ⟨hy1, hy2⟩ ((show StD (K5 w s₀ b1 b2) (p1D A z sz (PX.f j n (mskOf n j) h (.l l1) (.l l2)).e0 ns (ks.push (.ref (N15 + 4))) cs (j + 1) (some n) ++ ([(l1, .arr c_list y1), (l2, .arr c_list y2)] : DM) ++ kD (N15 + 4) (kName j) h (.l l1) (.l l2) (decide (n.fmod 6 > 3)) ++ R) [] s15 from S15).reord fun a => ?_)
    have : cnt a ([(l1, .arr c_list y1), (l2, .arr c_list y2)] : DM) = cnt a ([(l1, .arr c_list y1)] : DM) + cnt a ([(l2, .arr c_list y2)] : DM) := cnt_cons ..
    simp only [cnt_append, CO.dm, svD, vlD, this]; omega
theorem clsAll (sz : Int) (ns cs : Array Value) (hcs : AllInt cs) (h4 : cs.size ≤ 4) (R : DM) : ∀ (m j : Nat) (x : PX) (e : Option Int) (cls : List CO), cs.size - j = m → j ≤ cs.size → cls.length ≤ j → (∀ o ∈ cls, o.ok) → (x = .o → j = 0) → ∀ {s : Shared} {pos : Pos},
    StD (K5 w s₀ b1 b2) (p1D A z sz x.e0 ns (refs cls) cs j e ++ (clsM cls ++ R)) [] s →
    (∀ s' p' (x' : PX) e' (cls' : List CO), cls'.length ≤ cs.size → (∀ o ∈ cls', o.ok) → (x' = .o → cs.size = 0) → StD (K5 w s₀ b1 b2) (p1D A z sz x'.e0 ns (refs cls') cs cs.size e' ++ (clsM cls' ++ R)) [] s' → Y.H s' ⟨denF (cF1 w.params A z), cF1 w.params A z, p', fsF1 w.params A k6 z⟩) →
    Y.H s ⟨denF (cF1 w.params A z), cF1 w.params A z, pos, fsF1 w.params A k6 z⟩ := by
  intro m
  induction m with
  | zero =>
    intro j x e cls hm hj hl hok hx s pos S next
    have ej : j = cs.size := by omega
    subst ej
    exact next s pos x e cls hl hok hx S
  | succ m ih =>
    intro j x e cls hm hj hl hok hx s pos S next
    have hlt : j < cs.size := by omega
    have hg : cs[j]? = some cs[j] := Array.getElem?_eq_getElem hlt
    obtain ⟨n, tn, hn⟩ := hcs j _ hg
    rw [hn] at hg
    refine clsTurn Y A z k6 sz ns (refs cls) cs j x e n tn hg (by omega) (by rw [refs_size]; omega) _ S fun s1 p1 o msk ho S1 => ?_
    rw [refs_push] at S1
    refine ih (j + 1) (PX.f j n msk o.hd o.rv o.tv) (some n) (cls ++ [o]) (by omega) (by omega) (by simp; omega) (fun q hq => ?_) (fun h => by cases h) (S1.reord fun a => by simp only [cnt_append, clsM_push]; omega) next
    rcases List.mem_append.mp hq with h | h
    · exact hok q h
    · cases List.mem_singleton.mp h; exact ho
end
end Mine
end

section
set_option maxRecDepth 100000
set_option maxHeartbeats 4000000
namespace Mine
open PySem PySem.W PySem.W.X
def sgL : List Nat := [97, 98, 55, 32, 46, 10]
theorem sign_at (n : Int) : ∃ sg, CharAt SIGNS (n.fmod 6) sg ∧ sg ∈ sgL := by
  have h0 : 0 ≤ n.fmod 6 := Int.fmod_nonneg_of_pos n (by decide)
  have h1 : n.fmod 6 < 6 := Int.fmod_lt_of_pos n (by decide)
  obtain ⟨k, hk⟩ := Int.eq_ofNat_of_zero_le h0
  rw [hk] at h1 ⊢
  have : k = 0 ∨ k = 1 ∨ k = 2 ∨ k = 3 ∨ k = 4 ∨ k = 5 := by omega
  rcases this with rfl | rfl | rfl | rfl | rfl | rfl
  · exact ⟨97, ⟨by decide, by decide, rfl⟩, by decide⟩
  · exact ⟨98, ⟨by decide, by decide, rfl⟩, by decide⟩
  · exact ⟨55, ⟨by decide, by decide, rfl⟩, by decide⟩
  · exact ⟨32, ⟨by decide, by decide, rfl⟩, by decide⟩
  · exact ⟨46, ⟨by decide, by decide, rfl⟩, by decide⟩
  · exact ⟨10, ⟨by decide, by decide, rfl⟩, by decide⟩
theorem file_at (x : Int) : x.fmod 3 = 0 ∨ x.fmod 3 = 1 ∨ x.fmod 3 = 2 := by
  have h0 : 0 ≤ x.fmod 3 := Int.fmod_nonneg_of_pos x (by decide)
  have h1 : x.fmod 3 < 3 := Int.fmod_lt_of_pos x (by decide)
  omega
theorem str_push (l : List Nat) (c : Nat) : (⟨⟨l⟩⟩ : Str) ++ (⟨⟨[c]⟩⟩ : Str) = ⟨⟨l ++ [c]⟩⟩ := by
  show (⟨(⟨l⟩ : Array Nat) ++ (⟨[c]⟩ : Array Nat)⟩ : Str) = _
  congr 1
  simp
noncomputable def p2D (A : LA) (z : Addr) (es : List (List Nat × VD)) (v : LV) (tk : Tok) (ns ks cs : Array Value) (P : List (Addr × Ch)) (j : Nat) (e : Option Int) : DM :=
  enD (z + 3) (z + 2) .none j (intD e) ++ p2C A z es v ⟨⟨(P.map (·.2)).map (·.sg)⟩⟩ tk ns ks cs (prefs P) (crefs (P.map (·.2))) j
theorem prefs_push (P : List (Addr × Ch)) (x : Addr × Ch) : (prefs P).push (.ref x.1) = prefs (P ++ [x]) := by simp [prefs]
theorem plM_push (P : List (Addr × Ch)) (x : Addr × Ch) (a) : cnt a (plM (P ++ [x])) = cnt a (plM P) + cnt a (plD x) := by
  unfold plM; rw [cnt_flatMap]; simp
theorem chM_push (l : List Ch) (x : Ch) (a) : cnt a (chM (l ++ [x])) = cnt a (chM l) + (cnt a x.c + cnt a (locD x)) := by
  unfold chM; rw [cnt_flatMap]; simp [cnt_append]
section
variable {w : World} {s₀ : Shared} {b1 b2 : Bool} (Y : Sys (K5 w s₀ b1 b2)) (A : LA) (z : Addr) (k6 : Result → Sem Fin)

theorem textTurn0 (v : LV) (r tl : SV) (tk : Tok) (ns ks cs : Array Value) (P : List (Addr × Ch)) (hP : P = []) (hl : P.length ≤ 50) (j : Nat) (e : Option Int) (n : Int) (tn : Tok) (hj : cs[j]? = some (.int n tn)) (R : DM) {s : Shared} {pos : Pos}
    (S : StD (K5 w s₀ b1 b2) (p2D A z (l0P A v r tl) v tk ns ks cs P j e ++ (chM (P.map (·.2)) ++ (plM P ++ R))) [] s)
    (next : ∀ s' p' (v' : LV) tk' (y : Addr × Ch), y.2.sg ∈ sgL → v'.size = v.size → v'.pls = v.pls → StD (K5 w s₀ b1 b2) (p2D A z (l0E A v' r tl) v' tk' ns ks cs (P ++ [y]) (j + 1) (some n) ++ (chM ((P ++ [y]).map (·.2)) ++ (plM (P ++ [y]) ++ R))) [] s' →
      Y.H s' ⟨denF (cF2 w.params A z), cF2 w.params A z, p', fsF2 w.params A k6 z⟩) :
    Y.H s ⟨denF (cF2 w.params A z), cF2 w.params A z, pos, fsF2 w.params A k6 z⟩ := by
  obtain ⟨sg, hsg, hin⟩ := sign_at n
  have hps : (prefs P).size ≤ sizeLine := by rw [show (prefs P).size = P.length by simp [prefs]]; exact le_line (by omega)
  have hcs : (crefs (P.map (·.2))).size ≤ sizeLine := by rw [crefs_size, List.length_map]; exact le_line (by omega)
  have done : ∀ (s' : Shared) (p' : Pos) (v' : LV) (tk' : Tok) (u : Addr) (X : Ch), X.sg = sg → v'.size = v.size → v'.pls = v.pls →
      StD (K5 w s₀ b1 b2) ((enD (z + 3) (z + 2) .none (j + 1) (intD (some n)) ++ p2C A z (l0E A v' r tl) v' ⟨⟨(P.map (·.2)).map (·.sg) ++ [sg]⟩⟩ tk' ns ks cs ((prefs P).push (.ref u)) ((crefs (P.map (·.2))).push (.ref X.a)) (j + 1)) ++ (plD (u, X) ++ (X.c ++ locD X)) ++ (chM (P.map (·.2)) ++ (plM P ++ R))) [] s' →
      Y.H s' ⟨denF (cF2 w.params A z), cF2 w.params A z, p', fsF2 w.params A k6 z⟩ := by
    intro s' p' v' tk' u X hX h1 h2 S'
    have e1 : (prefs P).push (.ref u) = prefs (P ++ [(u, X)]) := prefs_push P (u, X)
    have e2 : (crefs (P.map (·.2))).push (.ref X.a) = crefs ((P ++ [(u, X)]).map (·.2)) := by rw [crefs_push, List.map_append]; rfl
    have e3 : (P.map (·.2)).map (·.sg) ++ [sg] = ((P ++ [(u, X)]).map (·.2)).map (·.sg) := by rw [List.map_append, List.map_append, ← hX]; rfl
    rw [e1, e2, e3] at S'
    refine next s' p' v' tk' (u, X) (by show X.sg ∈ sgL; rw [hX]; exact hin) h1 h2 (S'.reord fun a => ?_)
    have e4 : cnt a (chM ((P ++ [(u, X)]).map (·.2))) = cnt a (chM (P.map (·.2))) + (cnt a X.c + cnt a (locD X)) := by rw [List.map_append]; exact chM_push ..
    simp only [cnt_append, p2D, e4, plM_push]; omega
  subst hP
  refine PTao w s₀ b1 b2 Y A z k6 v r tl ns ks cs (prefs []) (crefs []) j ⟨⟨[]⟩⟩ tk e n tn hj S fun τ N T G s1 p1 _ _ S1 => ?_
  refine Y.own (own_for' (V0 w.params 0) (cF2 w.params A z) (z + 3) (N + 0) (tup_F2 w.params A z)) rfl S1 fun s2 p2 S2 => ?_
  rcases file_at ((j : Int) + n.fdiv 9) with hf | hf | hf
  · exact PTbo0 w s₀ b1 b2 Y A z k6 v r tl ns ks cs (prefs []) (crefs []) j tk n tn (N + 0) sg hsg hf hps hcs (L := chM (([] : List (Addr × Ch)).map (·.2)) ++ (plM [] ++ R)) S2 fun τ3 N3 T3 G3 s3 p3 _ _ S3 => done s3 p3 ⟨v.size, j, n, v.msk, v.hh, v.pls, ⟨⟨[sg]⟩⟩, filOf 0, colOf n j, rowOf n j⟩ _ (N3 + 9) ⟨N3 + 14, N3 + 13, N3 + 11, N3 + 10, sg, rowOf n j, colOf n j, filOf 0⟩ rfl rfl rfl S3
  · exact PTbo1 w s₀ b1 b2 Y A z k6 v r tl ns ks cs (prefs []) (crefs []) j tk n tn (N + 0) sg hsg hf hps hcs (L := chM (([] : List (Addr × Ch)).map (·.2)) ++ (plM [] ++ R)) S2 fun τ3 N3 T3 G3 s3 p3 _ _ S3 => done s3 p3 ⟨v.size, j, n, v.msk, v.hh, v.pls, ⟨⟨[sg]⟩⟩, filOf 1, colOf n j, rowOf n j⟩ _ (N3 + 9) ⟨N3 + 14, N3 + 13, N3 + 11, N3 + 10, sg, rowOf n j, colOf n j, filOf 1⟩ rfl rfl rfl S3
  · exact PTbo2 w s₀ b1 b2 Y A z k6 v r tl ns ks cs (prefs []) (crefs []) j tk n tn (N + 0) sg hsg hf hps hcs (L := chM (([] : List (Addr × Ch)).map (·.2)) ++ (plM [] ++ R)) S2 fun τ3 N3 T3 G3 s3 p3 _ _ S3 => done s3 p3 ⟨v.size, j, n, v.msk, v.hh, v.pls, ⟨⟨[sg]⟩⟩, filOf 2, colOf n j, rowOf n j⟩ _ (N3 + 9) ⟨N3 + 14, N3 + 13, N3 + 11, N3 + 10, sg, rowOf n j, colOf n j, filOf 2⟩ rfl rfl rfl S3
theorem textTurn1 (v : LV) (r tl : SV) (tk : Tok) (ns ks cs : Array Value) (P : List (Addr × Ch)) (hP : P ≠ []) (hl : P.length ≤ 50) (j : Nat) (e : Option Int) (n : Int) (tn : Tok) (hj : cs[j]? = some (.int n tn)) (R : DM) {s : Shared} {pos : Pos}
    (S : StD (K5 w s₀ b1 b2) (p2D A z (l0E A v r tl) v tk ns ks cs P j e ++ (chM (P.map (·.2)) ++ (plM P ++ R))) [] s)
    (next : ∀ s' p' (v' : LV) tk' (y : Addr × Ch), y.2.sg ∈ sgL → v'.size = v.size → v'.pls = v.pls → StD (K5 w s₀ b1 b2) (p2D A z (l0E A v' r tl) v' tk' ns ks cs (P ++ [y]) (j + 1) (some n) ++ (chM ((P ++ [y]).map (·.2)) ++ (plM (P ++ [y]) ++ R))) [] s' →
      Y.H s' ⟨denF (cF2 w.params A z), cF2 w.params A z, p', fsF2 w.params A k6 z⟩) :
    Y.H s ⟨denF (cF2 w.params A z), cF2 w.params A z, pos, fsF2 w.params A k6 z⟩ := by
  obtain ⟨sg, hsg, hin⟩ := sign_at n
  have hps : (prefs P).size ≤ sizeLine := by rw [show (prefs P).size = P.length by simp [prefs]]; exact le_line (by omega)
  have hcs : (crefs (P.map (·.2))).size ≤ sizeLine := by rw [crefs_size, List.length_map]; exact le_line (by omega)
  have done : ∀ (s' : Shared) (p' : Pos) (v' : LV) (tk' : Tok) (u : Addr) (X : Ch), X.sg = sg → v'.size = v.size → v'.pls = v.pls →
      StD (K5 w s₀ b1 b2) ((enD (z + 3) (z + 2) .none (j + 1) (intD (some n)) ++ p2C A z (l0E A v' r tl) v' ⟨⟨(P.map (·.2)).map (·.sg) ++ [sg]⟩⟩ tk' ns ks cs ((prefs P).push (.ref u)) ((crefs (P.map (·.2))).push (.ref X.a)) (j + 1)) ++ (plD (u, X) ++ (X.c ++ locD X)) ++ (chM (P.map (·.2)) ++ (plM P ++ R))) [] s' →
      Y.H s' ⟨denF (cF2 w.params A z), cF2 w.params A z, p', fsF2 w.params A k6 z⟩ := by
    intro s' p' v' tk' u X hX h1 h2 S'
    have e1 : (prefs P).push (.ref u) = prefs (P ++ [(u, X)]) := prefs_push P (u, X)
    have e2 : (crefs (P.map (·.2))).push (.ref X.a) = crefs ((P ++ [(u, X)]).map (·.2)) := by rw [crefs_push, List.map_append]; rfl
    have e3 : (P.map (·.2)).map (·.sg) ++ [sg] = ((P ++ [(u, X)]).map (·.2)).map (·.sg) := by rw [List.map_append, List.map_append, ← hX]; rfl
    rw [e1, e2, e3] at S'
    refine next s' p' v' tk' (u, X) (by show X.sg ∈ sgL; rw [hX]; exact hin) h1 h2 (S'.reord fun a => ?_)
    have e4 : cnt a (chM ((P ++ [(u, X)]).map (·.2))) = cnt a (chM (P.map (·.2))) + (cnt a X.c + cnt a (locD X)) := by rw [List.map_append]; exact chM_push ..
    simp only [cnt_append, p2D, e4, plM_push]; omega
  refine PTaf w s₀ b1 b2 Y A z k6 v r tl ns ks cs (prefs P) (crefs (P.map (·.2))) j _ tk e n tn hj S fun τ N T G s1 p1 _ _ S1 => ?_
  have htx : ((⟨⟨(P.map (·.2)).map (·.sg)⟩⟩ : Str).length == 0) = false := by
    show (((P.map (·.2)).map (·.sg)).length == 0) = false
    rw [List.length_map, List.length_map]
    cases P with
    | nil => exact absurd rfl hP
    | cons => rfl
  have hlen : ((⟨⟨(P.map (·.2)).map (·.sg)⟩⟩ : Str) ++ (⟨⟨[sg]⟩⟩ : Str)).length ≤ sizeLine := by
    rw [str_push]
    show ((P.map (·.2)).map (·.sg) ++ [sg]).length ≤ sizeLine
    exact le_line (by simp; omega)
  refine Y.own (own_for' (V0 w.params 0) (cF2 w.params A z) (z + 3) (N + 0) (tup_F2 w.params A z)) rfl S1 fun s2 p2 S2 => ?_
  rcases file_at ((j : Int) + n.fdiv 9) with hf | hf | hf
  · refine PTbf0 w s₀ b1 b2 Y A z k6 v r tl ns ks cs (prefs P) (crefs (P.map (·.2))) j _ tk n tn (N + 0) sg hsg hf htx hlen hps hcs (L := chM (P.map (·.2)) ++ (plM P ++ R)) S2 fun τ3 N3 T3 G3 s3 p3 _ _ S3 => ?_
    rw [str_push] at S3
    exact done s3 p3 ⟨v.size, j, n, v.msk, v.hh, v.pls, ⟨⟨[sg]⟩⟩, filOf 0, colOf n j, rowOf n j⟩ _ (N3 + 9) ⟨N3 + 14, N3 + 13, N3 + 11, N3 + 10, sg, rowOf n j, colOf n j, filOf 0⟩ rfl rfl rfl S3
  · refine PTbf1 w s₀ b1 b2 Y A z k6 v r tl ns ks cs (prefs P) (crefs (P.map (·.2))) j _ tk n tn (N + 0) sg hsg hf htx hlen hps hcs (L := chM (P.map (·.2)) ++ (plM P ++ R)) S2 fun τ3 N3 T3 G3 s3 p3 _ _ S3 => ?_
    rw [str_push] at S3
    exact done s3 p3 ⟨v.size, j, n, v.msk, v.hh, v.pls, ⟨⟨[sg]⟩⟩, filOf 1, colOf n j, rowOf n j⟩ _ (N3 + 9) ⟨N3 + 14, N3 + 13, N3 + 11, N3 + 10, sg, rowOf n j, colOf n j, filOf 1⟩ rfl rfl rfl S3
  · refine PTbf2 w s₀ b1 b2 Y A z k6 v r tl ns ks cs (prefs P) (crefs (P.map (·.2))) j _ tk n tn (N + 0) sg hsg hf htx hlen hps hcs (L := chM (P.map (·.2)) ++ (plM P ++ R)) S2 fun τ3 N3 T3 G3 s3 p3 _ _ S3 => ?_
    rw [str_push] at S3
    exact done s3 p3 ⟨v.size, j, n, v.msk, v.hh, v.pls, ⟨⟨[sg]⟩⟩, filOf 2, colOf n j, rowOf n j⟩ _ (N3 + 9) ⟨N3 + 14, N3 + 13, N3 + 11, N3 + 10, sg, rowOf n j, colOf n j, filOf 2⟩ rfl rfl rfl S3
theorem textAll (r tl : SV) (ns ks cs : Array Value) (hcs : AllInt cs) (hn : cs.size ≤ 16) (R : DM) : ∀ (m j : Nat) (v : LV) (tk : Tok) (P : List (Addr × Ch)) (e : Option Int), cs.size - j = m → 0 < j → j ≤ cs.size → P.length = j → (∀ x ∈ P, x.2.sg ∈ sgL) → ∀ {s : Shared} {pos : Pos},
    StD (K5 w s₀ b1 b2) (p2D A z (l0E A v r tl) v tk ns ks cs P j e ++ (chM (P.map (·.2)) ++ (plM P ++ R))) [] s →
    (∀ s' p' (v' : LV) tk' (P' : List (Addr × Ch)) e', P'.length = cs.size → (∀ x ∈ P', x.2.sg ∈ sgL) → v'.size = v.size → StD (K5 w s₀ b1 b2) (p2D A z (l0E A v' r tl) v' tk' ns ks cs P' cs.size e' ++ (chM (P'.map (·.2)) ++ (plM P' ++ R))) [] s' →
      Y.H s' ⟨denF (cF2 w.params A z), cF2 w.params A z, p', fsF2 w.params A k6 z⟩) →
    Y.H s ⟨denF (cF2 w.params A z), cF2 w.params A z, pos, fsF2 w.params A k6 z⟩ := by
  intro m
  induction m with
  | zero =>
    intro j v tk P e hm h0 hj hl hin s pos S next
    have ej : j = cs.size := by omega
    subst ej
    exact next s pos v tk P e hl hin rfl S
  | succ m ih =>
    intro j v tk P e hm h0 hj hl hin s pos S next
    have hlt : j < cs.size := by omega
    have hg : cs[j]? = some cs[j] := Array.getElem?_eq_getElem hlt
    obtain ⟨n, tn, hn⟩ := hcs j _ hg
    rw [hn] at hg
    refine textTurn1 Y A z k6 v r tl tk ns ks cs P (fun h => by rw [h] at hl; simp at hl; omega) (by omega) j e n tn hg R S fun s1 p1 v1 tk1 y hy h1 h2 S1 => ?_
    refine ih (j + 1) v1 tk1 (P ++ [y]) (some n) (by omega) (by omega) (by omega) (by simp [hl]) (fun q hq => ?_) S1 fun s' p' v' tk' P' e' a1 a2 a3 S' => next s' p' v' tk' P' e' a1 a2 (a3.trans h1) S'
    rcases List.mem_append.mp hq with h | h
    · exact hin q h
    · cases List.mem_singleton.mp h; exact hy
end
end Mine
end

section
set_option maxRecDepth 100000
set_option maxHeartbeats 4000000
namespace Mine
open PySem PySem.W PySem.W.X
theorem AllInt.of {a : Array Value} (h : ∀ v ∈ a.toList, ∃ (i : Int) (t : Tok), v = Value.int i t) : AllInt a := fun j v hj => h v (List.mem_of_getElem? (by rw [Array.getElem?_toList]; exact hj))
theorem AllInt.to {a : Array Value} (h : AllInt a) : ∀ v ∈ a.toList, ∃ (i : Int) (t : Tok), v = Value.int i t := fun v hv => by
  obtain ⟨j, hj, e⟩ := List.mem_iff_getElem.mp hv
  exact h j v (by rw [← Array.getElem?_toList, List.getElem?_eq_getElem hj, e])
theorem restL_int (T : Nat) : ∀ v ∈ (restL T).toList, ∃ (i : Int) (t : Tok), v = Value.int i t := by
  intro v hv
  simp only [restL, List.mem_cons, List.not_mem_nil, or_false] at hv
  rcases hv with rfl | rfl | rfl | rfl | rfl | rfl | rfl | rfl | rfl | rfl | rfl | rfl | rfl | rfl | rfl | rfl | rfl | rfl | rfl | rfl | rfl <;> exact ⟨_, _, rfl⟩
theorem restL_len (T : Nat) : (restL T).toList.length = 21 := rfl
theorem pick_int {a : Array Value} (h : AllInt a) (x y : Nat) (hxy : x ≤ y) (hy : y ≤ a.size) : AllInt (slicePick a (some (x : Int)) (some (y : Int)) none) ∧ (slicePick a (some (x : Int)) (some (y : Int)) none).size = y - x := by
  rw [slicePick_run a x y hy hxy]
  refine ⟨AllInt.of fun v hv => h.to v ?_, ?_⟩
  · exact List.mem_of_mem_drop (List.mem_of_mem_take hv)
  · rw [List.size_toArray, List.length_take, List.length_drop, Array.length_toList]; omega
theorem signs_in : ∀ c ∈ sgL, inS SIGNS c = true := by
  intro c hc
  simp only [sgL, List.mem_cons, List.not_mem_nil, or_false] at hc
  rcases hc with rfl | rfl | rfl | rfl | rfl | rfl <;> (unfold inS; decide +kernel)
section
variable {w : World} {s₀ : Shared} {b1 b2 : Bool} (Y : Sys (K5 w s₀ b1 b2)) (k6 : Result → Sem Fin)
theorem lawWalk (xs : Array Value) (nn : Nat) (hxs : AllInt xs) (hx : xs.size ≤ 63) (R : DM) {s : Shared} {pos : Pos}
    (S : StD (K5 w s₀ b1 b2) (([(264, .raw (listO xs nn))] : DM) ++ (tabD none ++ (([(260, .tab [])] : DM) ++ R))) [] s)
    (last : ∀ s' p' co' vs, StD (K5 w s₀ b1 b2) (([(264, .raw (listO xs nn))] : DM) ++ (tabD co' ++ (([(260, .tab vs)] : DM) ++ R))) [] s' → Y.H s' ⟨k6 (.ok (.ret (.bool true))), .builtin b_caller {}, p', []⟩) :
    Y.H s ⟨denF (.call (.ref 263) ⟨[.ref 264], []⟩), .call (.ref 263) ⟨[.ref 264], []⟩, pos, [fCall k6]⟩ := by
  obtain ⟨ys, hys⟩ : ∃ ys, slicePick xs none (some ((21 : Nat) : Int)) none = ys := ⟨_, rfl⟩
  have ey : ys = (xs.toList.take 21).toArray := by rw [← hys]; exact slicePick_upto' xs 21
  have hyl : ys.size ≤ 21 := by rw [ey, List.size_toArray, List.length_take]; omega
  refine P0 w s₀ b1 b2 Y k6 xs ys nn ⟨le_line (by omega), hys⟩ (by omega) (by omega) S fun τ N T G s1 p1 _ _ S1 => ?_
  obtain ⟨ns, hns⟩ : ∃ ns, ys ++ slicePick (restL (T + 2)) (some (ys.size : Int)) none none = ns := ⟨_, rfl⟩
  rw [hns] at S1
  have S1 := S1.reord (d' := p0D (laN N) ns ++ (tabD none ++ (([(260, .tab [])] : DM) ++ (([(264, .raw (listO xs nn))] : DM) ++ R)))) fun a => by simp only [cnt_append]; omega
  obtain ⟨R', hR'⟩ : ∃ R', ([(264, .raw (listO xs nn))] : DM) ++ R = R' := ⟨_, rfl⟩
  rw [hR'] at S1
  have en : ns.toList = xs.toList.take 21 ++ (restL (T + 2)).toList.drop ys.size := by
    rw [← hns, slicePick_from', Array.toList_append, ey]
  have hnI : AllInt ns := AllInt.of fun v hv => by
    rw [en] at hv
    rcases List.mem_append.mp hv with h | h
    · exact hxs.to v (List.mem_of_mem_take h)
    · exact restL_int _ v (List.mem_of_mem_drop h)
  have hn21 : ns.size = 21 := by
    have : (xs.toList.take 21).length = ys.size := by rw [ey, List.size_toArray]
    rw [← Array.length_toList, en, List.length_append, List.length_drop, restL_len, this]; omega
  have hg0 : ns[0]? = some ns[0] := Array.getElem?_eq_getElem (by omega)
  obtain ⟨n0, t0, hn0⟩ := hnI 0 _ hg0
  rw [hn0] at hg0
  have q0 : 0 ≤ (n0.fdiv 3).fmod 4 := Int.fmod_nonneg_of_pos _ (by decide)
  have q1 : (n0.fdiv 3).fmod 4 < 4 := Int.fmod_lt_of_pos _ (by decide)
  have r0 : 0 ≤ n0.fmod 3 := Int.fmod_nonneg_of_pos _ (by decide)
  have r1 : n0.fmod 3 < 3 := Int.fmod_lt_of_pos _ (by decide)
  obtain ⟨q, hq⟩ := Int.eq_ofNat_of_zero_le q0
  obtain ⟨r, hr⟩ := Int.eq_ofNat_of_zero_le r0
  have hsz : ∃ sz : Nat, 16 - (n0.fdiv 3).fmod 4 * (n0.fdiv 3).fmod 4 = (sz : Int) ∧ 1 ≤ sz ∧ sz ≤ 16 := by
    rw [hq] at q1 ⊢
    have : q = 0 ∨ q = 1 ∨ q = 2 ∨ q = 3 := by omega
    rcases this with rfl | rfl | rfl | rfl
    · exact ⟨16, by decide, by decide, by decide⟩
    · exact ⟨15, by decide, by decide, by decide⟩
    · exact ⟨12, by decide, by decide, by decide⟩
    · exact ⟨7, by decide, by decide, by decide⟩
  obtain ⟨sz, esz, sz1, sz16⟩ := hsz
  obtain ⟨cs, hcs⟩ : ∃ cs, slicePick ns (some ((1 : Nat) : Int)) (some ((3 + r : Nat) : Int)) none = cs := ⟨_, rfl⟩
  have hc := pick_int hnI 1 (3 + r) (by omega) (by omega)
  rw [hcs] at hc
  have ec : (3 : Int) + n0.fmod 3 = ((3 + r : Nat) : Int) := by rw [hr]; omega
  refine P1 w s₀ b1 b2 Y (laN N) k6 ns cs n0 t0 ⟨Int.le_refl 0, by decide, hg0⟩ q0 q1 ⟨le_line (by omega), by rw [ec]; exact hcs⟩ S1 fun τ2 N2 T2 G2 s2 p2 _ _ S2 => ?_
  rw [esz] at S2
  refine clsAll Y ((laN N).skl N2) (N2 + 1) k6 sz ns cs hc.1 (by omega) (tabD none ++ (([(260, .tab [])] : DM) ++ R')) _ 0 .o none [] rfl (Nat.zero_le _) (Nat.le_refl _) (fun o h => nomatch h) (fun _ => rfl) (show StD (K5 w s₀ b1 b2) (p1D ((laN N).skl N2) (N2 + 1) sz PX.o.e0 ns (refs []) cs 0 none ++ (clsM [] ++ (tabD none ++ (([(260, .tab [])] : DM) ++ R')))) [] s2 from S2) fun s3 p3 x3 e3 cls hl hok hx3 S3 => ?_
  cases x3 with
  | o => have := hx3 rfl; omega
  | f pl nn msk hh rr tl =>
    obtain ⟨c2, hc2⟩ : ∃ c2, slicePick ns (some ((5 : Nat) : Int)) (some ((5 + sz : Nat) : Int)) none = c2 := ⟨_, rfl⟩
    have hd := pick_int hnI 5 (5 + sz) (by omega) (by omega)
    rw [hc2] at hd
    have e5 : (5 : Int) + (sz : Int) = ((5 + sz : Nat) : Int) := by omega
    refine PE w s₀ b1 b2 Y ((laN N).skl N2) (N2 + 1) k6 sz ns (refs cls) cs cs.size pl nn msk hh rr tl e3 c2 (Array.getElem?_eq_none (Nat.le_refl _)) (by rw [refs_size]; exact le_line (by omega)) ⟨le_line (by omega), by rw [e5]; exact hc2⟩ S3 fun τ4 N4 T4 G4 s4 p4 _ _ S4 => ?_
    obtain ⟨A, hA⟩ : ∃ A, ((laN N).skl N2).scl (N4 + 5) = A := ⟨_, rfl⟩
    rw [hA] at S4 ⊢
    obtain ⟨one, hone⟩ : ∃ one : CO, (⟨N4 + 3, ONE, SIGNS, .s ⟨⟨[]⟩⟩ (T4 + 1), .l (N4 + 2), false, #[], #[]⟩ : CO) = one := ⟨_, rfl⟩
    have hoa : one.a = N4 + 3 := by rw [← hone]
    have hoh : one.hd = SIGNS := by rw [← hone]
    have hook : one.ok := by rw [← hone]; exact ⟨trivial, fun y hy => by simp at hy⟩
    have S5 : StD (K5 w s₀ b1 b2) (p2D A (N4 + 10) (l0P A ⟨sz, pl, nn, msk, hh, N4 + 4, ⟨⟨[]⟩⟩, ⟨⟨[]⟩⟩, 0, 0⟩ rr tl) ⟨sz, pl, nn, msk, hh, N4 + 4, ⟨⟨[]⟩⟩, ⟨⟨[]⟩⟩, 0, 0⟩ (T4 + 2) ns (refs (cls ++ [one])) c2 [] 0 none ++ (chM (([] : List (Addr × Ch)).map (·.2)) ++ (plM [] ++ (clsM (cls ++ [one]) ++ (tabD none ++ (([(260, .tab [])] : DM) ++ R')))))) [] s4 := by
      rw [← refs_push, hoa]
      refine StD.reord (show StD (K5 w s₀ b1 b2) (p2D A (N4 + 10) (l0P A ⟨sz, pl, nn, msk, hh, N4 + 4, ⟨⟨[]⟩⟩, ⟨⟨[]⟩⟩, 0, 0⟩ rr tl) ⟨sz, pl, nn, msk, hh, N4 + 4, ⟨⟨[]⟩⟩, ⟨⟨[]⟩⟩, 0, 0⟩ (T4 + 2) ns ((refs cls).push (.ref (N4 + 3))) c2 [] 0 none ++ (kD (N4 + 3) ONE SIGNS (.s ⟨⟨[]⟩⟩ (T4 + 1)) (.l (N4 + 2)) false ++ ([((N4 + 2), .arr c_list #[])] : DM)) ++ (clsM cls ++ (tabD none ++ (([(260, .tab [])] : DM) ++ R')))) [] s4 from S4) fun a => ?_
      have e1 : cnt a one.dm = cnt a (kD (N4 + 3) ONE SIGNS (.s ⟨⟨[]⟩⟩ (T4 + 1)) (.l (N4 + 2)) false) + cnt a ([((N4 + 2), .arr c_list #[])] : DM) := by
        rw [← hone]; simp only [CO.dm, cnt_append, svD, cnt_nil, vlD]; omega
      have e2 : cnt a (chM (([] : List (Addr × Ch)).map (·.2))) = 0 := cnt_nil a
      have e3 : cnt a (plM []) = 0 := cnt_nil a
      simp only [cnt_append, clsM_push, e1, e2, e3]; omega
    have hok2 : ∀ o ∈ cls ++ [one], o.ok := fun o ho => by
      rcases List.mem_append.mp ho with h | h
      · exact hok o h
      · cases List.mem_singleton.mp h; exact hook
    have hg : c2[0]? = some c2[0] := Array.getElem?_eq_getElem (by omega)
    obtain ⟨m0, u0, hm0⟩ := hd.1 0 _ hg
    rw [hm0] at hg
    refine textTurn0 Y A (N4 + 10) k6 _ rr tl _ ns (refs (cls ++ [one])) c2 [] rfl (Nat.zero_le _) 0 none m0 u0 hg _ S5 fun s6 p6 v6 tk6 y hy hv6 _ S6 => ?_
    refine textAll Y A (N4 + 10) k6 rr tl ns (refs (cls ++ [one])) c2 hd.1 (by omega) _ _ 1 v6 tk6 [y] (some m0) rfl (by decide) (by omega) rfl (fun x hx => by cases List.mem_singleton.mp hx; exact hy) S6 fun s7 p7 v7 tk7 P e7 hPl hPs hv7 S7 => ?_
    have S8 := S7.reord (d' := p2D A (N4 + 10) (l0E A v7 rr tl) v7 tk7 ns (refs (cls ++ [one])) c2 P c2.size e7 ++ ([(260, .tab [])] : DM) ++ (chM (P.map (·.2)) ++ (plM P ++ (clsM (cls ++ [one]) ++ (tabD none ++ R'))))) fun a => by simp only [cnt_append]; omega
    refine PH w s₀ b1 b2 Y A (N4 + 10) k6 v7 rr tl ns (refs (cls ++ [one])) c2 (prefs P) (crefs (P.map (·.2))) c2.size _ tk7 e7 (Array.getElem?_eq_none (Nat.le_refl _)) S8 fun τ9 N9 T9 G9 s9 p9 _ _ S9 => ?_
    obtain ⟨B, hB⟩ : ∃ B, A.sbg (N9 + 2) G9 = B := ⟨_, rfl⟩
    have hBc : B.cat = A.cat := by rw [← hB]; rfl
    have hBx : B.ctx = A.ctx := by rw [← hB]; rfl
    have hBg : B.g = G9 := by rw [← hB]; rfl
    rw [hB] at S9 ⊢
    refine tailAll Y B k6 P (by omega) (by omega) (cls ++ [one]) (by simp; omega) (fun x hx => ?_) hok2 (.int ((T9 + 13 : Nat) : Int) 0) v7 (by rw [hv7, hv6, hPl, hd.2]; show (sz : Int) = _; omega) rr tl tk7 (([(A.nb, .arr c_list ns)] : DM) ++ (([(260, .tab [.raw (.int 146 0), .raw (.int 4 0), .ref B.fcode])] : DM) ++ R')) (StD.reord (show StD (K5 w s₀ b1 b2) _ (GR B) s9 from by unfold GR; rw [hBg]; exact S9) fun a => ?_) fun s10 p10 co' S10 => last s10 p10 co' [.raw (.int 146 0), .raw (.int 4 0), .ref B.fcode] (S10.mem_drop (e := ([(A.nb, .arr c_list ns)] : DM)) fun a => ?_)
    · obtain ⟨pr, hpr, rfl⟩ := List.mem_map.mp hx
      have : ((cls ++ [one]).find? fun o => inS o.hd pr.2.sg).isSome := by
        rw [List.find?_isSome]
        exact ⟨one, by simp, by rw [hoh]; exact signs_in _ (hPs pr hpr)⟩
      exact Option.isSome_iff_exists.mp this
    · have e1 : cnt a ([(A.cat, .cell none), (A.ctx, .cell (some (.raw (.str ⟨⟨(P.map (·.2)).map (·.sg)⟩⟩ tk7)))), (v7.pls, .arr c_list (prefs P))] : DM) = cnt a ([(A.cat, .cell none)] : DM) + (cnt a ([(A.ctx, .cell (some (.raw (.str ⟨⟨(P.map (·.2)).map (·.sg)⟩⟩ tk7))))] : DM) + cnt a ([(v7.pls, .arr c_list (prefs P))] : DM)) := by
        rw [cnt_cons, cnt_cons a (A.ctx, _)]
      have e2 : cnt a ([(A.nb, .arr c_list ns), (260, .tab [.raw (.int 146 0), .raw (.int 4 0), .ref B.fcode])] : DM) = cnt a ([(A.nb, .arr c_list ns)] : DM) + cnt a ([(260, .tab [.raw (.int 146 0), .raw (.int 4 0), .ref B.fcode])] : DM) := cnt_cons ..
      simp only [cnt_append, e1, e2, hBc, hBx]; omega
    · rw [← hR']; simp only [cnt_append]; omega
end
end Mine
end

section
set_option maxRecDepth 100000
namespace Mine
open PySem PySem.W PySem.Spec PySem.Calls PyProof.Rows

abbrev callTree (name : Str) (vs : List Value) : Sem Fin := do
  match ← nsGet mainNs name with
  | some f => do ret (← PySem.call f vs)
  | none => unsupported "claim.caller:no-such-global"
def HaltsGood (r : RowW) (w : World) (s₀ s₁ : Shared) (args : List WData) (vs : List Value) : Prop :=
  ∃ n res s', (model r.prog w).runN n s₁ ⟨callTree r.name vs, .builtin "claim.caller" {}, default, []⟩ = .halted (outcomeOf res) s' ∧
    GoodWG r.claim (classAt s₀.heap) (ExcName.means s₀.heap) args s₁ res s'

theorem run_from {c : ClaimW} {w : World} {s : Shared} {tree : List Value → Sem Fin} {free : Addr → Prop} {gens : Prop} {kept : Heap → Prop} (hz : s.asleep) (hgens : s.gens = #[])
    (hspec : ∀ args, c.pre args = true → WData.layableAll args = true → ∀ ord : List DictEntry → List DictEntry, (∀ l, (ord l).Perm l) →
      ∃ vs s₁, layAllW c.records (classAt s.heap) w.params ord args s = some (vs, s₁) ∧
        ∃ n res s', (model c.prog w).runN n s₁ ⟨tree vs, .builtin "claim.caller" {}, default, []⟩ = .halted (outcomeOf res) s' ∧ c.Ends s args vs s₁ res s' ∧ s'.os = s.os ∧ kept s'.heap) :
    c.CallFrom (fun vs => ⟨tree vs, .builtin "claim.caller" {}, default, []⟩) w free gens kept s := by
  intro args hpre hlay ord hord
  obtain ⟨vs, s₁, hl, n, res, s', hrun, hends, hos, hkp⟩ := hspec args hpre hlay ord hord
  have al := layAllW_rest _ _ _ hl
  have hwp := (wp_iff_halts (M := model c.prog w) (tree vs) (fun r s' => c.Ends s args vs s₁ r s' ∧ s'.os = s.os ∧ kept s'.heap) default s₁ (c := .builtin "claim.caller" {})).mpr ⟨n, res, s', hrun, hends, hos, hkp⟩
  obtain ⟨k, res, s', s'', hsched, hreal, hfo, hE, hos, hkp⟩ := wp_halts_full (Shared.asleep_of_life al.2.2.2 hz) hwp
  obtain ⟨eh, _, _, eo, _⟩ := Shared.forget_eq hfo
  have hE := hE.congr eh
  have hkp : kept s''.heap := by rw [eh]; exact hkp
  have hos' : s''.os = s.os := by rw [eo]; exact hos
  have hlife : s''.heap.life = s.heap.life := (runN_life _ _ _ hreal).trans al.2.2.2
  refine ⟨vs, s₁, hl, k, _, s'', hsched, ?_, (fun _ i x hx => by rw [hgens] at hx; simp at hx), hkp, by rw [hlife], Shared.rest_eq hos'⟩
  rcases hE with ⟨v, rfl, d1, d2, d3, d4, d5⟩ | ⟨e, ob, cls, rfl, d1, d2, d3, d4, d5⟩
  · exact .inl ⟨v, rfl, d1, d2, d3, fun b o y _ => d4 b o y, d5⟩
  · exact .inr ⟨e, ob, cls, rfl, d1, d2, d3, d4, fun b o y _ => d5 b o y⟩

abbrev WalkM (q : Program) (loose : List Str) (XP : (Str → Option Value) → Heap → Prop) {α : Type} (Yf : Shared → α) (Ya : World → α) (r : RowW) : Prop :=
  ∀ (w : World) (s₀ s₁ : Shared) (mg mb : Str → Option Value), Ground q loose r.records XP w s₀ mg mb s₁.heap → Yf s₀ = Ya w → s₁.gens = #[] →
    ∀ (args : List WData) (vals : List Value) (as : List Addr), Laid r.records w s₀ s₁ args vals as → r.claim.pre args = true → WData.layableAll args = true → HaltsGood r w s₀ s₁ args vals

theorem PySem.W.holds_openX {r : OpenRow} {q : Program} {loose : List Str} {Xt : Shared → Bool} {XP : (Str → Option Value) → Heap → Prop} {α : Type} {Yf : Shared → α} {Ya : World → α} {d : DefRec} {kwd : List (Str × Expr)} {N : Nat}
    (left : LeftO r.prog q loose Xt Yf Ya N)
    (hX : ∀ s, Xt s = true → XP (s.heap.nsMap mainGlobals) s.heap) (hXk : ∀ mg h h', XP mg h → (∀ b o, h.get? b = some o → h'.get? b = some o) → XP mg h')
    (hdef : defOf q r.name = some (d, kwd)) (hp : r.prog.theDef r.name = some (d.params, d.body, d.scope)) (hk : kwWritten? d.params.kwonlyargs d.params.kw_defaults = some kwd) (hRf : ∀ s, Xt s = true → RecFacts r.records s.heap) (hwr : (!r.writes || r.records.isEmpty) = true)
    (k1 : r.wellSaid = true) (ok : (chainsOk q && opensWell r.prog && (frees r.toRowW && r.within.isEmpty)) = true) (hb : r.prog.bare) (hw : r.toRowW.promised)
    (call : WalkM q loose XP Yf Ya r.toRowW) : r.Holds := by
  simp only [Bool.and_eq_true] at ok
  obtain ⟨⟨hch, hop⟩, hfr, hin⟩ := ok
  obtain ⟨hsame, hu, ha, hap, hmk⟩ := frees_parts hfr
  refine ⟨k1, hw, ⟨hb, hop, by show r.makers.map _ = []; rw [hmk]; rfl⟩, hw.witness, fun w => ⟨(left.behind hX hch w).1, fun s' hs' => ?_⟩⟩
  obtain ⟨s₀, hf, hg0, s, hT, hz, hgens, hg, G00, y⟩ := (left.behind (XP := fun mg h => XP mg h ∧ RecFacts r.records h) (fun s hs => ⟨hX s hs, hRf s hs⟩) hch w).2 s' hs'
  have G0 : Ground q loose [] XP w s (s.heap.nsMap mainGlobals) (s.heap.nsMap builtinsNs) s.heap := ⟨G00.T, G00.B, G00.D, G00.TE, G00.TD, G00.W, G00.X.1, G00.cls, G00.has, G00.apart, G00.once, G00.K⟩
  have RF := G00.X.2
  refine ⟨s₀, hf, hg0, s, hT, fun n hn => ?_, RF.1, RF.2.1, ?_⟩
  · obtain rfl : n = r.name := by split at hn <;> simp_all
    exact pinned_of_view hg G0 hdef hp hk
  have hgens : s.gens = #[] := Array.eq_empty_of_size_eq_zero (beq_iff_eq.mp hgens)
  have G : Ground q loose r.records XP w s _ _ s.heap := RF.ground G0
  refine run_from (c := r.toRowW.claim) hz hgens fun args hpre hlay ord hord => ?_
  obtain ⟨⟨vs, s₁⟩, hl⟩ := Option.isSome_iff_exists.mp (layAllW_isSome (P := w.params) (ord := ord) G.has args r.args s (pre_splitW hpre).1)
  have keeps := layAllW_keeps _ _ _ hl
  have al := layAllW_rest _ _ _ hl
  obtain ⟨as, hrd, hin', hold⟩ := reads_layAllW hord _ _ _ hl hlay s₁.heap (fun _ _ e => e)
  have L : Laid r.records w s s₁ args vs as := ⟨⟨ord, hord, hl⟩, hrd, hin', hold, keeps, al.1.trans hgens, al.2.2.1⟩
  obtain ⟨n, res, s', hrun, good⟩ := call w s s₁ _ _ (G.keeps hXk keeps) y (al.1.trans hgens) args vs as L hpre hlay
  have z := good.laid (c := r.toRowW.claim) hsame (List.isEmpty_iff.mp hin) (ident_freeW hu ha hap) L
  exact ⟨vs, s₁, hl, n, res, s', hrun, z.1, z.2.1, fun q => ⟨namesKept_of hT hg _ keeps good.2.1.old, noTable hwr q⟩⟩
end Mine
end

section
open PySem PySem.W PySem.W.X PyProof.Rows
set_option maxRecDepth 100000
set_option maxHeartbeats 4000000
namespace Mine
theorem argsOf {args : List WData} (hpre : PySem.Challenge.rw_rk0005_05.row.toRowW.claim.pre args = true) (hlay : WData.layableAll args = true) : ∃ ns : List Int, args = [ofPy (PyData.list (ns.map PyData.int))] ∧ ns.length ≤ 63 := by
  have hsh := (pre_splitW hpre).1
  have hcond := (pre_splitW hpre).2
  wrow_hasAll hsh hlay
  all_goals (w_cond hcond)
  exact ⟨_, rfl, by omega⟩
theorem lay_vals {R : WRecords} {cl : Str → Option Addr} {P : Params} {ord : List DictEntry → List DictEntry} : ∀ (ns : List Int) (s : Shared) (r : List Value × Shared), layAllW R cl P ord (ofPys (ns.map PyData.int)) s = some r →
    (∀ v ∈ r.1, ∃ (i : Int) (t : Tok), v = Value.int i t) ∧ r.1.length = ns.length ∧ r.2.heap = s.heap
  | [], s, r, e => by
    simp only [List.map_nil, ofPys, layAllW] at e
    cases e
    exact ⟨(fun _ h => by cases h), rfl, rfl⟩
  | n :: ns, s, r, e => by
    simp only [List.map_cons, ofPys, ofPy, layAllW, layW] at e
    cases q : layAllW R cl P ord (ofPys (List.map PyData.int ns)) { s with toks := s.toks + 1 } with
    | none => rw [q] at e; cases e
    | some r' =>
      rw [q] at e
      cases e
      obtain ⟨h1, h2, h3⟩ := lay_vals ns { s with toks := s.toks + 1 } r' q
      refine ⟨fun v hv => ?_, by simp [h2], h3⟩
      rcases List.mem_cons.mp hv with rfl | hv
      · exact ⟨_, _, rfl⟩
      · exact h1 v hv
theorem script_obj {R : WRecords} {w : World} {s₀ s₁ : Shared} {ns : List Int} {vs : List Value} {as : List Addr} (L : Laid R w s₀ s₁ [ofPy (PyData.list (ns.map PyData.int))] vs as) :
    vs = [.ref s₀.heap.objs.size] ∧ s₁.heap.objs.size = s₀.heap.objs.size + 1 ∧ ∃ xs : Array Value, AllInt xs ∧ xs.size = ns.length ∧ s₁.heap.get? s₀.heap.objs.size = some (listO xs 0) := by
  obtain ⟨ord, _, e⟩ := L.laid
  simp only [ofPy, layAllW, layW] at e
  cases q : layAllW R (classAt s₀.heap) w.params ord (ofPys (List.map PyData.int ns)) s₀ with
  | none => rw [q] at e; cases e
  | some r =>
    rw [q] at e
    obtain ⟨h1, h2, h3⟩ := lay_vals ns s₀ r q
    simp only [Option.some.injEq, Prod.mk.injEq] at e
    obtain ⟨ea, es⟩ := e
    rw [← es, ← ea, h3]
    refine ⟨rfl, Heap.size_push .., r.1.toArray, AllInt.of fun v hv => h1 v (by simpa using hv), by simp [h2], ?_⟩
    exact Heap.get?_push_size _ rfl
theorem halts_of {M : Model} {s th s' th'} {o : Outcome} {s'' : Shared} (h : Comes M s th s' th') (k : ∃ n, M.runN n s' th' = .halted o s'') : ∃ n, M.runN n s th = .halted o s'' := by
  obtain ⟨n, hn⟩ := h
  induction n generalizing s th with
  | zero =>
    have e : Run.running s th = .running s' th' := hn
    injection e with e1 e2
    subst e1 e2
    exact k
  | succ n ih =>
    rw [runN_succ] at hn
    cases hs : M.step s th with
    | go s₂ t₂ =>
      simp only [hs] at hn
      obtain ⟨m, hm⟩ := ih hn
      exact ⟨m + 1, by rw [runN_succ, hs]; exact hm⟩
    | halt o s₂ => simp only [hs] at hn; cases hn
noncomputable def oCall (P : Params) : Out := run (V0 P 0) 2 (callTree PySem.Challenge.rw_rk0005_05.name [.ref 264]) (.builtin b_caller {}) default [] [] 0 0 [] 0 [.b] []
noncomputable def kCall (P : Params) : Result → Sem Fin := (rfOf (oCall P).fs).k
theorem kCall_end (P : Params) : kCall P (.ok (.ret (.bool true))) = (.pure (.done (.ret (.bool true))) : Sem Fin) := by kernel_rfl
section
variable (w : World) (s₁ : Shared) (b1 b2 : Bool)
theorem P00_r (p : Pos) (τ : Nat → Nat → Tok) (N T G : Nat) : EndsQ w.params (run ((K5 w s₁ b1 b2).V [] N T G []) 2 (callTree PySem.Challenge.rw_rk0005_05.name [.ref 264]) (.builtin b_caller {}) default [] (memOf w.params τ (fun _ => 0) 0 []) 0 0 [] 0 [.b] []) []
    (denF (.call (.ref 263) ⟨[.ref 264], []⟩)) (.call (.ref 263) ⟨[.ref 264], []⟩) [fCall (kCall w.params)] [] [] := by
  unfold EndsQ; kernel_rfl
theorem tab180 (P : Params) : (kt P).get 180 = some ⟨.none, none, .fields #[], #[]⟩ := by kernel_rfl
theorem tab260 (P : Params) : (kt P).get 260 = some ⟨.none, none, .fields #[], #[]⟩ := by kernel_rfl
theorem code180 (P : Params) : (match (kt P).get 184 with | some o => (match o.cls, o.data with | .type n, .fields vs => (Nat.beq (S.codeS n) (S.codeS "code"), vs[11]?) | _, _ => (false, none)) | none => (false, none)) = (true, some (.ref 180)) := by kernel_rfl
theorem code260 (P : Params) : (match (kt P).get 262 with | some o => (match o.cls, o.data with | .type n, .fields vs => (Nat.beq (S.codeS n) (S.codeS "code"), vs[11]?) | _, _ => (false, none)) | none => (false, none)) = (true, some (.ref 260)) := by kernel_rfl
theorem table_of {P : Params} {h : Heap} {c b : Addr} (hc : ∀ o, (kt P).get c = some o → h.get? c = some o) (e : (match (kt P).get c with | some o => (match o.cls, o.data with | .type n, .fields vs => (Nat.beq (S.codeS n) (S.codeS "code"), vs[11]?) | _, _ => (false, none)) | none => (false, none)) = (true, some (.ref b))) : isCodeTable h b := by
  cases hk : (kt P).get c with
  | none => rw [hk] at e; cases e
  | some o =>
    rw [hk] at e
    have hg := hc o hk
    obtain ⟨cls, dd, data, sl⟩ := o
    simp only at e
    cases cls <;> cases data <;> simp only [Prod.mk.injEq] at e <;> first
      | exact absurd e.1 Bool.false_ne_true
      | (obtain ⟨e1, e2⟩ := e
         have hn := rowIs_iff.mp e1
         exact ⟨c, _, _, hg, by rw [hn], rfl, e2⟩)
end
theorem joinW (w : World) (s₀ s₁ : Shared) (ns : List Int) (hl : ns.length ≤ 63) (vs : List Value) (as : List Addr) (L : Laid PySem.Challenge.rw_rk0005_05.row.records w s₀ s₁ [ofPy (PyData.list (ns.map PyData.int))] vs as)
    (ZH : KT.Holds s₁.heap 1 0 (kt w.params)) (ZN : s₀.heap.objs.size = 264) (hgens : s₁.gens = #[]) : HaltsGood PySem.Challenge.rw_rk0005_05.row.toRowW w s₀ s₁ [ofPy (PyData.list (ns.map PyData.int))] vs := by
  obtain ⟨hvs, hsz, xs, hxs, hxl, hobj⟩ := script_obj L
  rw [ZN] at hvs hsz hobj
  subst hvs
  have hkt : ∀ a o, (kt w.params).get a = some o → s₁.heap.get? a = some o := fun a o e => kt_at ZH e
  have h180 := hkt 180 _ (tab180 w.params)
  have h260 := hkt 260 _ (tab260 w.params)
  let Good : Shared → Result → Prop := fun s' res => GoodWG PySem.Challenge.rw_rk0005_05.row.toRowW.claim (classAt s₀.heap) (ExcName.means s₀.heap) [ofPy (PyData.list (ns.map PyData.int))] s₁ res s'
  have hK : (K5 w s₁ (w.params.followText "special-get-raises") (w.params.followText "comprehension-iter-twice")).Ok := ⟨ov_eq w.params, fun a o e _ _ => hkt a o e⟩
  let Y : Sys (K5 w s₁ (w.params.followText "special-get-raises") (w.params.followText "comprehension-iter-twice")) := ⟨hK, fun s th => ∃ n res s', (model PySem.Challenge.pw_rk0005_05 w).runN n s th = .halted (outcomeOf res) s' ∧ Good s' res, fun {s th s' th'} hC ⟨n, res, s'', hn, hg⟩ => by
    obtain ⟨m, hm⟩ := halts_of hC ⟨n, hn⟩
    exact ⟨m, res, s'', hm, hg⟩⟩
  have St0 : StD (K5 w s₁ (w.params.followText "special-get-raises") (w.params.followText "comprehension-iter-twice")) ([] ++ (([(264, .raw (listO xs 0))] : DM) ++ (tabD none ++ (([(260, .tab [])] : DM) ++ [])))) [] s₁ := by
    refine ⟨[(264, listO xs 0), (180, ⟨.none, none, .fields #[], #[]⟩), (260, ⟨.none, none, .fields #[], #[]⟩)], .cons (fun _ => 0) 0 (.cons (fun _ => 0) 0 (.cons (fun _ => 0) 0 .nil)), ?_⟩
    refine ⟨fun x hx => ?_, (show [264, 180, 260].Nodup by decide), fun x hx => ?_, (fun x hx => nomatch hx), List.nodup_nil, fun g st e => ?_, fun b o e _ _ => e, rfl, rfl, ?_⟩
    · simp only [List.mem_cons, List.not_mem_nil, or_false] at hx
      rcases hx with rfl | rfl | rfl
      · exact hobj
      · exact h180
      · exact h260
    · simp only [List.mem_cons, List.not_mem_nil, or_false] at hx
      rcases hx with rfl | rfl | rfl
      · exact .inr (Nat.le_refl 264)
      · exact .inl (show 180 ∈ [180, 260] by decide)
      · exact .inl (show 260 ∈ [180, 260] by decide)
    · rw [hgens] at e; simp at e
    · show 264 ≤ s₁.heap.objs.size; omega
  have key : Y.H s₁ ⟨callTree PySem.Challenge.rw_rk0005_05.name [.ref 264], .builtin b_caller {}, default, []⟩ := by
    refine Y.seg (n := 2) (idx := []) (hs := [.b]) (t' := fun _ _ _ _ => denF (.call (.ref 263) ⟨[.ref 264], []⟩)) (c' := fun _ _ _ => .call (.ref 263) ⟨[.ref 264], []⟩) (fs' := fun _ _ _ => [fCall (kCall w.params)]) (d' := fun _ _ _ => []) (gm' := fun _ _ _ => []) St0 (by decide) (fun _ _ _ _ _ => []) (fun τ ν N T G => P00_r w s₁ _ _ default τ N T G) (fun _ _ _ _ _ => AllOk.nil) fun τ N T G s2 p2 _ _ S2 => ?_
    refine lawWalk Y (kCall w.params) xs 0 hxs (by omega) [] S2 fun s3 p3 co vt S3 => ?_
    rw [kCall_end]
    have S3c := S3
    obtain ⟨mem, F3, S3s⟩ := S3
    have hfin : ∀ (g : Nat) (st : GenState), s3.gens[g]? = some st → st = .finished := fun g st e => by
      rcases S3s.gfin g st e with ⟨x, hx, _⟩ | h
      · cases hx
      · exact h
    have hbare : AllBare s3.gens := fun y hy => by
      obtain ⟨g, hg, e⟩ := Array.mem_iff_getElem.mp hy
      rw [hfin g y (by rw [Array.getElem?_eq_getElem hg, e])]; rfl
    refine ⟨1, .ok (.ret (.bool true)), s3, ?_, ?_⟩
    · rw [runN_succ]
      have e : (model PySem.Challenge.pw_rk0005_05 w).step s3 ⟨.pure (.done (.ret (.bool true))), .builtin b_caller {}, p3, []⟩ = PySem.finish (outcomeOf (.ok (.ret (.bool true)))) s3 := step_leaf_nil (M := model PySem.Challenge.pw_rk0005_05 w) (s := s3) (c := .builtin b_caller {}) (p := p3) (.ok (.ret (.bool true)))
      rw [e]
      unfold PySem.finish
      rw [leftWithCleanup_false_of_bare hbare]
      rfl
    · refine ⟨.inl ⟨.bool true, .bool true, [], rfl, fun cls => rfl, .bool true, by wrow_post, fun _ => ⟨List.nodup_nil, fun a ha => nomatch ha⟩⟩, ?_, S3s.os, hbare⟩
      have h264 : s3.heap.get? 264 = some (listO xs 0) := by
        obtain ⟨τ, n, e⟩ := S3c.has (a := 264) (o := .raw (listO xs 0)) (by simp)
        exact e
      have g180 : ∃ vs', s3.heap.get? 180 = some ⟨.none, none, .fields vs', #[]⟩ := by
        cases co with
        | none =>
          obtain ⟨τ, n, e⟩ := S3c.has (a := 180) (o := .tab []) (by simp [tabD])
          exact ⟨_, e⟩
        | some c =>
          obtain ⟨τ, n, e⟩ := S3c.has (a := 180) (o := .tab [.raw (.int 83 0), .raw (.int 22 0), .ref c]) (by simp [tabD])
          exact ⟨_, e⟩
      have g260 : ∃ vs', s3.heap.get? 260 = some ⟨.none, none, .fields vs', #[]⟩ := by
        obtain ⟨τ, n, e⟩ := S3c.has (a := 260) (o := .tab vt) (by simp)
        exact ⟨_, e⟩
      have cases4 : ∀ b o, s₁.heap.get? b = some o → (b = 264 ∧ o = listO xs 0) ∨ (b = 180 ∧ o = ⟨.none, none, .fields #[], #[]⟩) ∨ (b = 260 ∧ o = ⟨.none, none, .fields #[], #[]⟩) ∨ s3.heap.get? b = some o := by
        intro b o e
        have hb := Heap.lt_size e
        by_cases h1 : b = 264
        · subst h1; rw [hobj] at e; cases e; exact .inl ⟨rfl, rfl⟩
        by_cases h2 : b = 180
        · subst h2; rw [h180] at e; cases e; exact .inr (.inl ⟨rfl, rfl⟩)
        by_cases h3 : b = 260
        · subst h3; rw [h260] at e; cases e; exact .inr (.inr (.inl ⟨rfl, rfl⟩))
        · exact .inr (.inr (.inr (S3s.keep b o e (by show b ∉ [180, 260]; simp [h2, h3]) (Nat.lt_of_le_of_ne (Nat.le_of_lt_succ (by rw [hsz] at hb; exact hb)) h1))))
      refine ⟨fun b o e => ?_, fun b o e => ?_⟩
      · rcases cases4 b o e with ⟨rfl, rfl⟩ | ⟨rfl, rfl⟩ | ⟨rfl, rfl⟩ | h
        · exact .inl h264
        · obtain ⟨vs', e'⟩ := g180
          exact .inr (.inl ⟨table_of (c := 184) (fun o h => hkt 184 o h) (code180 w.params), rfl, #[], vs', rfl, by simpa using e'⟩)
        · obtain ⟨vs', e'⟩ := g260
          exact .inr (.inl ⟨table_of (c := 262) (fun o h => hkt 262 o h) (code260 w.params), rfl, #[], vs', rfl, by simpa using e'⟩)
        · exact .inl h
      · rcases cases4 b o e with ⟨rfl, rfl⟩ | ⟨rfl, rfl⟩ | ⟨rfl, rfl⟩ | h
        · exact ⟨_, h264⟩
        · obtain ⟨vs', e'⟩ := g180; exact ⟨_, e'⟩
        · obtain ⟨vs', e'⟩ := g260; exact ⟨_, e'⟩
        · exact ⟨_, h⟩
  obtain ⟨n, res, s', hn, hg⟩ := key
  exact ⟨n, res, s', hn, hg⟩
end Mine
end

section
open PySem PySem.W PySem.W.X PyProof.Rows
set_option maxRecDepth 100000
set_option maxHeartbeats 0
namespace Mine
def top.tw1124222471469836736 : Unit := ()
def top.tw11678263099297185922 : Unit := ()
def top.tw614353407589309747 : Unit := ()
def top.tw5409525863840523636 : Unit := ()
def top.tw9241335002767950766 : Unit := ()
def top.tw943912311671756261 : Unit := ()
def top.tw893495356335546947 : Unit := ()
def top.tw11159431927160009238 : Unit := ()
def top.tw6503730183909636620 : Unit := ()
def top.tw6683103199056593310 : Unit := ()
def top.tw11534289746047712335 : Unit := ()
def top.tw15922344460919717956 : Unit := ()
set_option Elab.async true in
theorem top : PySem.Challenge.rw_rk0005_05.Holds := by
  w_on; o_law; z_head
  case hw => w_witness2
  intro w s₀ s₁ mg mb G y hgens args vs as L hpre hlay
  z_open y L KX ZH ZN ZT
  obtain ⟨ns, rfl, hl⟩ := argsOf hpre hlay
  exact joinW w s₀ s₁ ns hl vs as L ZH ZN hgens
end Mine
end

theorem PySem.Challenge.cw_rk0005_05_holds : PySem.Challenge.rw_rk0005_05.Holds := by
  exact Mine.top
