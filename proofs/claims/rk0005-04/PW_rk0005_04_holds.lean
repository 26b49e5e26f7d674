import PyProof.Rows.All
import Wide.All
import OpenK.AllK
import Wide.FinOn
import PySem.Challenge.RW_rk0005_04
set_option Elab.async false
set_option linter.unusedVariables false
set_option linter.unusedSimpArgs false
section
set_option maxRecDepth 100000
namespace Mine
open PySem PySem.W PySem.W.X
abbrev Mem := List (Addr × Obj)
abbrev GMem := List (Nat × GenState)
noncomputable def denF : Code → Sem Fin := PySem.W.Fast.tw11892475500146522536 PySem.W.Fast.tw14364793385576792824
noncomputable def quietF : Code → Bool := PySem.W.ZFast.zw17772548960776305114
theorem denF_eq : denote table = denF := by
  show denote table = PySem.W.Fast.tw11892475500146522536 PySem.W.Fast.tw14364793385576792824
  rw [← PySem.W.Fast.te11892475500146522536, ← PySem.W.Fast.te14364793385576792824, table_eq_tree]
theorem quietF_eq : Code.quiet = quietF := PySem.W.ZFast.ze17772548960776305114
noncomputable def memGet : Mem → Nat → Option (Addr × Obj)
  | [], _ => none
  | x :: r, n => match n with
    | 0 => some x
    | n + 1 => memGet r n
noncomputable def memUpd (f : Obj → Obj) : Mem → Nat → Mem
  | [], _ => []
  | x :: r, n => match n with
    | 0 => (x.1, f x.2) :: r
    | n + 1 => x :: memUpd f r n
noncomputable def gmGet : GMem → Nat → Option (Nat × GenState)
  | [], _ => none
  | x :: r, n => match n with
    | 0 => some x
    | n + 1 => gmGet r n
noncomputable def gmSet (st : GenState) : GMem → Nat → GMem
  | [], _ => []
  | x :: r, n => match n with
    | 0 => (x.1, st) :: r
    | n + 1 => x :: gmSet st r n
inductive Ob where
  | n (x y : Nat)
  | o (x y : Obj)
  | c (x y : Code)
  | s (x y : Sem Fin)
noncomputable def Ob.holds : Ob → Prop
  | .n x y => x = y
  | .o x y => x = y
  | .c x y => x = y
  | .s x y => x = y
noncomputable def Ob.diag : Ob → Ob
  | .n _ y => .n y y
  | .o _ y => .o y y
  | .c _ y => .c y y
  | .s _ y => .s y y
theorem Ob.holds_of {e : Ob} (h : e = e.diag) : e.holds := by
  cases e <;> (simp only [Ob.diag] at h; injection h)
structure Spec where
  code : Code
  pre : List (Nat × Addr × Obj)
  post : List (Nat × Addr × Obj)
  res : Nat → Nat → Result
  dt : Nat
  new : Nat → List Obj
  calm : Bool
inductive Hint where
  | b
  | o (i : Nat)
  | s (j d : Nat)
  | w
  | r (j : Nat)
  | v (b : Bool)
structure Alt where
  c : Code
  t : Sem Fin
  h : denF c = t
noncomputable def hz (n x : Nat) : List Hint := Nat.rec (motive := fun _ => Nat → List Hint) (fun _ => [])
  (fun _ ih x => match Nat.beq (x % 16) 15 with
    | true => .b :: ih (x / 16)
    | false => match Nat.beq (x % 16) 14 with
      | true => .w :: ih (x / 16)
      | false => match Nat.beq (x % 16) 13 with
        | true => (match Nat.blt (x / 16 % 256) 128 with
          | true => .o (x / 16 % 256)
          | false => (match Nat.blt (x / 16 % 256) 238 with
            | true => .s (x / 16 % 256 - 128) 0
            | false => (match Nat.blt (x / 16 % 256) 240 with
              | true => .v (Nat.beq (x / 16 % 256) 239)
              | false => .r (x / 16 % 256 - 240)))) :: ih (x / 4096)
        | false => .o (x % 16) :: ih (x / 16)) n x
structure V where
  prog : Program
  P : Params
  kt : KT
  tabs : List Nat
  B : Nat
  W : List (Code × Pos)
  N : Nat
  T : Nat
  G : Nat
  specs : List Spec
  alts : List Alt
structure Out where
  t : Sem Fin
  c : Code
  p : Pos
  fs : List Frame
  mem : Mem
  m : Nat
  i : Nat
  gm : GMem
  gn : Nat
  hs : List Hint
  eqs : List Ob
noncomputable def specAt : List Spec → Nat → Option Spec
  | [], _ => none
  | x :: r, n => match n with
    | 0 => some x
    | n + 1 => specAt r n
noncomputable def altAt : List Alt → Nat → Option Alt
  | [], _ => none
  | x :: r, n => match n with
    | 0 => some x
    | n + 1 => altAt r n
noncomputable def preObs (d : Nat) (mem : Mem) : List (Nat × Addr × Obj) → List Ob → Option (List Ob)
  | [], eqs => some eqs
  | x :: r, eqs => match memGet mem (x.1 + d) with
    | some y => preObs d mem r (.n x.2.1 y.1 :: .o y.2 x.2.2 :: eqs)
    | none => none
noncomputable def postObs (d : Nat) : List (Nat × Addr × Obj) → Mem → List Ob → Option (Mem × List Ob)
  | [], mem, eqs => some (mem, eqs)
  | x :: r, mem, eqs => match memGet mem (x.1 + d) with
    | some y => postObs d r (memUpd (fun _ => x.2.2) mem (x.1 + d)) (.n x.2.1 y.1 :: eqs)
    | none => none
noncomputable def newObs : Nat → List Obj → Mem → Mem
  | _, [], mem => mem
  | a, o :: r, mem => newObs (a + 1) r ((a, o) :: mem)
noncomputable def noTab (tabs : List Nat) (a : Nat) : Bool := match tabs with
  | [] => true
  | t :: r => match Nat.beq t a with
    | true => false
    | false => noTab r a
noncomputable def calmOk (b : Bool) (h : Option Value) : Bool := match b with
  | false => true
  | true => match h with
    | none => true
    | some _ => false
noncomputable section
noncomputable def enterE (c : Code) : Sem Fin := PySem.W.R.bindR (PySem.W.Fast.tw15066281185411960212 0) fun _ => .pure (.again c)
noncomputable def guardE (b : Bool) (t : Sem Fin) : Sem Fin := PySem.W.R.bindR (match b with | false => PySem.W.Fast.tw15066281185411960212 0 | true => PySem.W.Fast.tw3139746846981162851) fun _ => t
noncomputable def limOk (V : V) : Bool := match PySem.W.Fast.tw2211186353215096513 with
  | .load a _ k => match Nat.blt a V.B with
    | true => match noTab V.tabs a with
      | true => match V.kt.get a with
        | some o => match k o with
          | .pure n => Nat.ble 900 n
          | _ => false
        | none => false
      | false => false
    | false => false
  | _ => false
noncomputable def enterC (V : V) (k : List (Code × Pos) → Sem Fin) : Option Code := match k [] with
  | .load a _ k2 => match V.kt.get a with
    | some o => match k2 o with
      | .pure (.again c) => some c
      | _ => none
    | none => none
  | _ => none
noncomputable def enterT (V : V) (k : List (Code × Pos) → Sem Fin) : Option (Sem Fin) := match k [] with
  | .load a _ k2 => match V.kt.get a with
    | some o => some (k2 o)
    | none => none
  | _ => none
noncomputable def short (fs : List Frame) : Bool := Nat.ble fs.length 40
abbrev SimT := Sem Fin → Code → Pos → List Frame → Mem → Nat → Nat → GMem → Nat → List Hint → List Ob → Out
noncomputable def retS (ih : SimT) (r : Result) (stop : Out) (fs : List Frame) (mem : Mem) (m i : Nat) (gm : GMem) (gn : Nat) (hs : List Hint) (eqs : List Ob) : Out := match fs with
  | [] => stop
  | f :: fs => match f with
    | .ret k _ _ _ c p _ => ih (k r) c p fs mem m i gm gn hs eqs
    | .gen g k _ c p => match hs with
      | .o h :: hs => match gmGet gm h with
        | some x => ih (k (End.ret r).result) c p fs mem m i (gmSet .finished gm h) gn hs (.n g x.1 :: eqs)
        | none => stop
      | _ => stop
noncomputable def stepS (V : V) (ih : SimT) : SimT := fun t c p fs mem m i gm gn hs eqs =>
  match t with
  | .pure fin => match fin with
    | .done f => retS ih (.ok f) ⟨t, c, p, fs, mem, m, i, gm, gn, hs, eqs⟩ fs mem m i gm gn hs eqs
    | .again c' => match quietF c' with
      | true => (match hs with
        | .r j :: hs' => (match altAt V.alts j with
          | some x => ih x.t c' p fs mem m i gm gn hs' (.c c' x.c :: eqs)
          | none => ⟨t, c, p, fs, mem, m, i, gm, gn, hs, eqs⟩)
        | _ => ih (denF c') c' p fs mem m i gm gn hs eqs)
      | false => ⟨t, c, p, fs, mem, m, i, gm, gn, hs, eqs⟩
  | .raise e => retS ih (.error e) ⟨t, c, p, fs, mem, m, i, gm, gn, hs, eqs⟩ fs mem m i gm gn hs eqs
  | .rule _ k => ih (k ()) c p fs mem m i gm gn hs eqs
  | .at p' k => ih (k ()) c p' fs mem m i gm gn hs eqs
  | .point _ k => ih (k ()) c p fs mem m i gm gn hs eqs
  | .ask k => ih (k ⟨V.prog, V.P⟩) c p fs mem m i gm gn hs eqs
  | .load a _ k => match hs with
    | .b :: hs' => match Nat.blt a V.B with
      | true => match noTab V.tabs a with
        | true => match V.kt.get a with
          | some o => ih (k o) c p fs mem m i gm gn hs' eqs
          | none => ⟨t, c, p, fs, mem, m, i, gm, gn, hs, eqs⟩
        | false => ⟨t, c, p, fs, mem, m, i, gm, gn, hs, eqs⟩
      | false => ⟨t, c, p, fs, mem, m, i, gm, gn, hs, eqs⟩
    | .o h :: hs' => match memGet mem h with
      | some x => ih (k x.2) c p fs mem m i gm gn hs' (.n a x.1 :: eqs)
      | none => ⟨t, c, p, fs, mem, m, i, gm, gn, hs, eqs⟩
    | _ => ⟨t, c, p, fs, mem, m, i, gm, gn, hs, eqs⟩
  | .loadIfAlive a k => match hs with
    | .o h :: hs' => match memGet mem h with
      | some x => ih (k (some x.2)) c p fs mem m i gm gn hs' (.n a x.1 :: eqs)
      | none => ⟨t, c, p, fs, mem, m, i, gm, gn, hs, eqs⟩
    | _ => ⟨t, c, p, fs, mem, m, i, gm, gn, hs, eqs⟩
  | .update a _ f k => match hs with
    | .o h :: hs' => match memGet mem h with
      | some x => match (f x.2).isFreed with
        | false => ih (k ()) c p fs (memUpd f mem h) m i gm gn hs' (.n a x.1 :: eqs)
        | true => ⟨t, c, p, fs, mem, m, i, gm, gn, hs, eqs⟩
      | none => ⟨t, c, p, fs, mem, m, i, gm, gn, hs, eqs⟩
    | _ => ⟨t, c, p, fs, mem, m, i, gm, gn, hs, eqs⟩
  | .alloc o k => match o.isFreed with
    | false => ih (k (V.N + m)) c p fs ((V.N + m, o) :: mem) (m + 1) i gm gn hs eqs
    | true => ⟨t, c, p, fs, mem, m, i, gm, gn, hs, eqs⟩
  | .fresh k => ih (k (V.T + i)) c p fs mem m (i + 1) gm gn hs eqs
  | .handled own k => match own with
    | false => ih (k (topHandled fs)) c p fs mem m i gm gn hs eqs
    | true => match splitAtGen fs with
      | some x => ih (k (topHandled x.1)) c p fs mem m i gm gn hs eqs
      | none => ⟨t, c, p, fs, mem, m, i, gm, gn, hs, eqs⟩
  | .stack k => match hs with
    | .w :: hs' => match enterC V k with
      | some c' => match limOk V with
        | true => match short fs with
          | true => match quietF c' with
            | true => ih (denF c') c' p fs mem m i gm gn hs' (.s (.stack k) (enterE c') :: eqs)
            | false => ⟨t, c, p, fs, mem, m, i, gm, gn, hs, eqs⟩
          | false => ⟨t, c, p, fs, mem, m, i, gm, gn, hs, eqs⟩
        | false => ⟨t, c, p, fs, mem, m, i, gm, gn, hs, eqs⟩
      | none => ⟨t, c, p, fs, mem, m, i, gm, gn, hs, eqs⟩
    | .v b :: hs' => match enterT V k with
      | some t' => match limOk V with
        | true => match short fs with
          | true => ih t' c p fs mem m i gm gn hs' (.s (.stack k) (guardE b t') :: eqs)
          | false => ⟨t, c, p, fs, mem, m, i, gm, gn, hs, eqs⟩
        | false => ⟨t, c, p, fs, mem, m, i, gm, gn, hs, eqs⟩
      | none => ⟨t, c, p, fs, mem, m, i, gm, gn, hs, eqs⟩
    | _ => ih (k ((c, p) :: (fs.map Frame.where_ ++ V.W))) c p fs mem m i gm gn hs eqs
  | .call c' hd g l k => match hs with
    | .s j d :: hs' => match specAt V.specs j with
      | some S => match preObs d mem S.pre (.c c' S.code :: eqs) with
        | some eqs₁ => match postObs d S.post mem eqs₁ with
          | some y => match calmOk S.calm (topHandled (.ret k hd g l c p [] :: fs)) with
            | true => ih (k (S.res (V.T + i) (V.N + m))) c p fs (newObs (V.N + m) (S.new (V.N + m)) y.1) (m + (S.new (V.N + m)).length) (i + S.dt) gm gn hs' y.2
            | false => ⟨t, c, p, fs, mem, m, i, gm, gn, hs, eqs⟩
          | none => ⟨t, c, p, fs, mem, m, i, gm, gn, hs, eqs⟩
        | none => ⟨t, c, p, fs, mem, m, i, gm, gn, hs, eqs⟩
      | none => ih (denF c') c' p (.ret k hd g l c p [] :: fs) mem m i gm gn hs' eqs
    | _ => ih (denF c') c' p (.ret k hd g l c p [] :: fs) mem m i gm gn hs eqs
  | .newGen c' k => ih (k (V.G + gn)) c p fs mem m i ((V.G + gn, .fresh c') :: gm) (gn + 1) hs eqs
  | .genState g k => match hs with
    | .o h :: hs' => match gmGet gm h with
      | some x => ih (k x.2.seen) c p fs mem m i gm gn hs' (.n g x.1 :: eqs)
      | none => ⟨t, c, p, fs, mem, m, i, gm, gn, hs, eqs⟩
    | _ => ⟨t, c, p, fs, mem, m, i, gm, gn, hs, eqs⟩
  | .resume g r l k => match hs with
    | .o h :: hs' => match gmGet gm h with
      | some x => match x.2 with
        | .fresh c₀ => match r with
          | .send v => match v with
            | .none => ih (denF c₀) c₀ p (.gen g k l c p :: fs) mem m i (gmSet .running gm h) gn hs' (.n g x.1 :: eqs)
            | _ => ⟨t, c, p, fs, mem, m, i, gm, gn, hs, eqs⟩
          | .throw _ => ⟨t, c, p, fs, mem, m, i, gm, gn, hs, eqs⟩
        | .suspended k₀ _ c₀ p₀ fs₀ _ => ih (k₀ r) c₀ p₀ (fs₀ ++ .gen g k l c p :: fs) mem m i (gmSet .running gm h) gn hs' (.n g x.1 :: eqs)
        | .running => ⟨t, c, p, fs, mem, m, i, gm, gn, hs, eqs⟩
        | .finished => ih (k .finished) c p fs mem m i gm gn hs' (.n g x.1 :: eqs)
      | none => ⟨t, c, p, fs, mem, m, i, gm, gn, hs, eqs⟩
    | _ => ⟨t, c, p, fs, mem, m, i, gm, gn, hs, eqs⟩
  | .yield v gd l k => match hs with
    | .o h :: hs' => match splitAtGen fs with
      | some y => match (gd || y.1.any Frame.guarded) with
        | false => match gmGet gm h with
          | some x => ih (y.2.1.2.1 (.yielded v)) y.2.1.2.2.1 y.2.1.2.2.2 y.2.2 mem m i (gmSet (.suspended k l c p y.1 false) gm h) gn hs' (.n y.2.1.1 x.1 :: eqs)
          | none => ⟨t, c, p, fs, mem, m, i, gm, gn, hs, eqs⟩
        | true => ⟨t, c, p, fs, mem, m, i, gm, gn, hs, eqs⟩
      | none => ⟨t, c, p, fs, mem, m, i, gm, gn, hs, eqs⟩
    | _ => ⟨t, c, p, fs, mem, m, i, gm, gn, hs, eqs⟩
  | _ => ⟨t, c, p, fs, mem, m, i, gm, gn, hs, eqs⟩
noncomputable def run (V : V) : Nat → SimT
  | 0 => fun t c p fs mem m i gm gn hs eqs => ⟨t, c, p, fs, mem, m, i, gm, gn, hs, eqs⟩
  | n + 1 => stepS V (run V n)
end
end Mine
end
section
set_option maxRecDepth 100000
namespace Mine
open PySem PySem.W PySem.W.X
theorem enterE_eq (c : Code) : enterE c = (enterFrame 0 >>= fun _ => (Sem.pure (.again c) : Sem Fin)) := by
  unfold enterE
  rw [← PySem.W.Fast.te15066281185411960212]
  rw [← PySem.W.R.bindR_eq]
  rfl
theorem lim_eq : PySem.W.Fast.tw2211186353215096513 = currentRecursionLimit := PySem.W.Fast.te2211186353215096513.symm
noncomputable def madeBy (c : Code) : Bool := match c with | .builtin "type.__call__" ⟨.ref _ :: _, _⟩ => true | _ => false
noncomputable def wt (c : Code) : Nat := c.frames + (if madeBy c then 1 else 0)
noncomputable def wts (l : List (Code × Pos)) : Nat := (l.map fun x => wt x.1).sum
theorem wts_sum (l : List (Code × Pos)) : ((l.map (·.1)).map (·.frames)).sum + ((l.map (·.1)).filter madeBy).length = wts l := by
  induction l with
  | nil => rfl
  | cons x r ih =>
    simp only [wts, List.map_cons, List.sum_cons, List.filter_cons] at ih ⊢
    rw [← ih]
    unfold wt
    by_cases h : madeBy x.1
    · simp only [h, if_true, List.length_cons]; omega
    · rw [Bool.not_eq_true] at h; simp only [h, Bool.false_eq_true, if_false]; omega
theorem enter_shape : ∃ B : List (Code × Pos) → Nat → Sem Unit, enterFrame 0 = (.stack fun acts => currentRecursionLimit >>= fun l => B acts l) ∧
    ∀ acts l, 900 ≤ l → wts acts ≤ 500 → B acts l = pure () := by
  refine ⟨_, rfl, fun acts l hl h => ?_⟩
  have e := wts_sum acts
  have h1 : nearTheLimitUnderAClaim (acts.map (·.1)) (((acts.map (·.1)).map (·.frames)).sum - 0 + ((acts.map (·.1)).filter madeBy).length) l = false := by
    unfold nearTheLimitUnderAClaim
    rw [Bool.and_eq_false_iff]
    left
    rw [decide_eq_false_iff_not]
    show ¬ (_ + 300 ≥ l)
    omega
  have h2 : ¬ (((acts.map (·.1)).map (·.frames)).sum - 0 ≥ l) := by omega
  have h3 : ¬ (((acts.map (·.1)).map (·.frames)).sum - 0 + ((acts.map (·.1)).filter madeBy).length ≥ l) := by omega
  refine (if_neg (by rw [Bool.not_eq_true]; exact h1)).trans ?_
  refine (if_neg h2).trans ?_
  exact if_neg h3
theorem wake_shape : ∃ B : List (Code × Pos) → Nat → Sem Unit, roomToWake = (.stack fun acts => currentRecursionLimit >>= fun l => B acts l) ∧
    ∀ acts l, 900 ≤ l → wts acts ≤ 500 → B acts l = pure () := by
  refine ⟨_, rfl, fun acts l hl h => ?_⟩
  have e := wts_sum acts
  have h1 : nearTheLimitUnderAClaim (acts.map (·.1)) (((acts.map (·.1)).map (·.frames)).sum + ((acts.map (·.1)).filter madeBy).length) l = false := by
    unfold nearTheLimitUnderAClaim
    rw [Bool.and_eq_false_iff]
    left
    rw [decide_eq_false_iff_not]
    show ¬ (_ + 300 ≥ l)
    omega
  have h3 : ¬ (((acts.map (·.1)).map (·.frames)).sum + ((acts.map (·.1)).filter madeBy).length ≥ l) := by omega
  refine (if_neg (by rw [Bool.not_eq_true]; exact h1)).trans ?_
  exact if_neg h3
theorem guard_shape (b : Bool) (t : Sem Fin) : ∃ B : List (Code × Pos) → Nat → Sem Unit, guardE b t = (.stack fun acts => (currentRecursionLimit >>= fun l => B acts l) >>= fun _ => t) ∧
    ∀ acts l, 900 ≤ l → wts acts ≤ 500 → B acts l = pure () := by
  cases b with
  | false =>
    obtain ⟨B, e, h⟩ := enter_shape
    refine ⟨B, ?_, h⟩
    unfold guardE
    simp only
    rw [← PySem.W.Fast.te15066281185411960212, ← PySem.W.R.bindR_eq, e]
    rfl
  | true =>
    obtain ⟨B, e, h⟩ := wake_shape
    refine ⟨B, ?_, h⟩
    unfold guardE
    simp only
    rw [← PySem.W.Fast.te3139746846981162851, ← PySem.W.R.bindR_eq, e]
    rfl
theorem wt_le (c : Code) : wt c ≤ 4 := by
  unfold wt Code.frames
  split <;> (repeat' split) <;> decide
theorem wts_le : ∀ l : List (Code × Pos), wts l ≤ 4 * l.length
  | [] => Nat.le_refl _
  | x :: r => by
    have h1 := wts_le r
    have h2 := wt_le x.1
    simp only [wts, List.map_cons, List.sum_cons, List.length_cons] at h1 ⊢
    omega
theorem wts_append (a b : List (Code × Pos)) : wts (a ++ b) = wts a + wts b := by simp [wts]
theorem lim_shape : ∃ (part : Option Value) (g : Obj → Sem Nat), currentRecursionLimit = .load cStatics part g := ⟨_, _, rfl⟩
theorem limOk_is {V : V} (h : limOk V = true) : ∃ (part : Option Value) (g : Obj → Sem Nat) (o : Obj) (n : Nat), currentRecursionLimit = (.load cStatics part g) ∧ cStatics < V.B ∧ noTab V.tabs cStatics = true ∧ V.kt.get cStatics = some o ∧ g o = .pure n ∧ 900 ≤ n := by
  obtain ⟨part, g, e⟩ := lim_shape
  unfold limOk at h
  rw [lim_eq, e] at h
  simp only at h
  split at h <;> try contradiction
  rename_i h1
  split at h <;> try contradiction
  rename_i h2
  split at h <;> try contradiction
  rename_i o h3
  split at h <;> try contradiction
  rename_i n h4
  exact ⟨part, g, o, n, e, by rw [← Nat.not_le]; intro q; rw [Nat.blt_eq] at h1; exact absurd h1 (Nat.not_lt.mpr q), h2, h3, h4, Nat.le_of_ble_eq_true h⟩
end Mine
end
section
set_option maxRecDepth 100000
namespace Mine
open PySem PySem.W PySem.W.X
theorem memGet_mem : ∀ {mem : Mem} {n : Nat} {x : Addr × Obj}, memGet mem n = some x → x ∈ mem
  | [], _, _, h => nomatch h
  | y :: r, 0, x, h => by cases h; exact List.mem_cons_self ..
  | y :: r, n + 1, x, h => List.mem_cons_of_mem _ (memGet_mem (mem := r) h)
theorem gmGet_mem : ∀ {mem : GMem} {n : Nat} {x : Nat × GenState}, gmGet mem n = some x → x ∈ mem
  | [], _, _, h => nomatch h
  | y :: r, 0, x, h => by cases h; exact List.mem_cons_self ..
  | y :: r, n + 1, x, h => List.mem_cons_of_mem _ (gmGet_mem (mem := r) h)
theorem memUpd_fst (f : Obj → Obj) : ∀ (mem : Mem) (n : Nat), (memUpd f mem n).map (·.1) = mem.map (·.1)
  | [], _ => rfl
  | x :: r, 0 => rfl
  | x :: r, n + 1 => by show x.1 :: (memUpd f r n).map (·.1) = x.1 :: r.map (·.1); rw [memUpd_fst f r n]
theorem gmSet_fst (st : GenState) : ∀ (mem : GMem) (n : Nat), (gmSet st mem n).map (·.1) = mem.map (·.1)
  | [], _ => rfl
  | x :: r, 0 => rfl
  | x :: r, n + 1 => by show x.1 :: (gmSet st r n).map (·.1) = x.1 :: r.map (·.1); rw [gmSet_fst st r n]
theorem memUpd_mem {f : Obj → Obj} : ∀ {mem : Mem} {n : Nat} {x y : Addr × Obj}, (mem.map (·.1)).Nodup → memGet mem n = some x → y ∈ memUpd f mem n → (y = (x.1, f x.2)) ∨ (y ∈ mem ∧ y.1 ≠ x.1)
  | [], _, _, _, _, h, _ => nomatch h
  | z :: r, 0, x, y, hd, h, hy => by
    cases h
    have hd' := List.nodup_cons.mp hd
    rcases List.mem_cons.mp hy with rfl | hy
    · exact .inl rfl
    · exact .inr ⟨List.mem_cons_of_mem _ hy, fun e => hd'.1 (by have q := List.mem_map_of_mem (f := fun x => x.1) hy; simp only [e] at q; exact q)⟩
  | z :: r, n + 1, x, y, hd, h, hy => by
    have hd' := List.nodup_cons.mp hd
    have h' : memGet r n = some x := h
    rcases List.mem_cons.mp hy with rfl | hy
    · exact .inr ⟨List.mem_cons_self .., fun e => hd'.1 (by have q := List.mem_map_of_mem (f := fun x => x.1) (memGet_mem h'); simp only [← e] at q; exact q)⟩
    · rcases memUpd_mem (mem := r) hd'.2 h' hy with q | q
      · exact .inl q
      · exact .inr ⟨List.mem_cons_of_mem _ q.1, q.2⟩
theorem gmSet_mem {st : GenState} : ∀ {mem : GMem} {n : Nat} {x y : Nat × GenState}, (mem.map (·.1)).Nodup → gmGet mem n = some x → y ∈ gmSet st mem n → (y = (x.1, st)) ∨ (y ∈ mem ∧ y.1 ≠ x.1)
  | [], _, _, _, _, h, _ => nomatch h
  | z :: r, 0, x, y, hd, h, hy => by
    cases h
    have hd' := List.nodup_cons.mp hd
    rcases List.mem_cons.mp hy with rfl | hy
    · exact .inl rfl
    · exact .inr ⟨List.mem_cons_of_mem _ hy, fun e => hd'.1 (by have q := List.mem_map_of_mem (f := fun x => x.1) hy; simp only [e] at q; exact q)⟩
  | z :: r, n + 1, x, y, hd, h, hy => by
    have hd' := List.nodup_cons.mp hd
    have h' : gmGet r n = some x := h
    rcases List.mem_cons.mp hy with rfl | hy
    · exact .inr ⟨List.mem_cons_self .., fun e => hd'.1 (by have q := List.mem_map_of_mem (f := fun x => x.1) (gmGet_mem h'); simp only [← e] at q; exact q)⟩
    · rcases gmSet_mem (mem := r) hd'.2 h' hy with q | q
      · exact .inl q
      · exact .inr ⟨List.mem_cons_of_mem _ q.1, q.2⟩
theorem noTab_not : ∀ {tabs : List Nat} {a : Nat}, noTab tabs a = true → a ∉ tabs
  | [], _, _ => by simp
  | t :: r, a, h => by
    unfold noTab at h
    split at h
    · cases h
    · rename_i q
      have := Nat.ne_of_beq_eq_false q
      exact fun hm => (List.mem_cons.mp hm).elim (fun e => this e.symm) (noTab_not h)
structure Rep (V : V) (A GA : List Nat) (mem : Mem) (m i : Nat) (gm : GMem) (gn : Nat) (s₀ s : Shared) : Prop where
  size : s.heap.objs.size = V.N + m
  toks : s.toks = V.T + i
  gsize : s.gens.size = V.G + gn
  own : ∀ x ∈ mem, s.heap.get? x.1 = some x.2
  nodup : (mem.map (·.1)).Nodup
  src : ∀ x ∈ mem, x.1 ∈ V.tabs ∨ V.B ≤ x.1
  gown : ∀ x ∈ gm, s.gens[x.1]? = some x.2
  gnodup : (gm.map (·.1)).Nodup
  keep : ∀ b o, s₀.heap.get? b = some o → b ∉ V.tabs → b < V.B → s.heap.get? b = some o
  drawn : s.drawn = s₀.drawn
  os : s.os = s₀.os
  org : ∀ x ∈ mem, x.1 ∈ A ∨ V.N ≤ x.1
  gnew : ∀ g, V.G ≤ g → g < s.gens.size → ∃ x ∈ gm, x.1 = g
  gids : ∀ g ∈ GA, g ∈ gm.map (·.1)
structure Frm (A : List Addr) (GA : List Nat) (s s' : Shared) : Prop where
  size : s.heap.objs.size ≤ s'.heap.objs.size
  gsize : s.gens.size ≤ s'.gens.size
  keep : ∀ b o, s.heap.get? b = some o → b ∉ A → s'.heap.get? b = some o
  gkeep : ∀ g st, s.gens[g]? = some st → g ∉ GA → s'.gens[g]? = some st
structure HeapEff (post : List (Nat × Addr × Obj)) (h h' : Heap) : Prop where
  size : h'.objs.size = h.objs.size
  here : ∀ b, (∀ x ∈ post, x.2.1 ≠ b) → h'.get? b = h.get? b
noncomputable def lastOf (a : Addr) : List (Nat × Addr × Obj) → Option Obj → Option Obj
  | [], d => d
  | x :: r, d => lastOf a r (if x.2.1 = a then some x.2.2 else d)
noncomputable def pushAll : Heap → List Obj → Heap
  | h, [] => h
  | h, o :: r => pushAll (h.push o) r
noncomputable def SpecOK (M : Model) (S : Spec) : Prop := ∀ (s : Shared) (p : Pos) (k : Result → Sem Fin) (hd : Option Value) (g : Bool) (l : List Value) (c : Code) (st : List Frame),
  (∀ x ∈ S.pre, s.heap.get? x.2.1 = some x.2.2) → (S.calm = true → topHandled (.ret k hd g l c p [] :: st) = none) → ∃ s', Comes M s ⟨M.den S.code, S.code, p, .ret k hd g l c p [] :: st⟩ s' ⟨k (S.res s.toks s.heap.objs.size), c, p, st⟩ ∧
    (∃ h₁ : Heap, (h₁.objs.size = s.heap.objs.size ∧ ∀ b, h₁.get? b = lastOf b S.post (s.heap.get? b)) ∧ s'.heap = pushAll h₁ (S.new s.heap.objs.size)) ∧ s'.toks = s.toks + S.dt ∧ s'.gens = s.gens ∧ s'.drawn = s.drawn ∧ s'.os = s.os
structure RestOK (W : List (Code × Pos)) (rest : List Frame) : Prop where
  codes : rest.map Frame.where_ = W
  top : topHandled rest = none
  past : topHandled.go true rest = none
  few : wts W ≤ 300
section
variable {V : V} {A GA : List Nat} {mem : Mem} {m i gn : Nat} {gm : GMem} {s₀ s : Shared}
theorem Rep.get (R : Rep V A GA mem m i gm gn s₀ s) {n : Nat} {x : Addr × Obj} (h : memGet mem n = some x) : s.heap.get? x.1 = some x.2 := R.own x (memGet_mem h)
theorem Rep.upd (R : Rep V A GA mem m i gm gn s₀ s) {n : Nat} {x : Addr × Obj} (h : memGet mem n = some x) {f : Obj → Obj} (hf : (f x.2).isFreed = false) : Rep V A GA (memUpd f mem n) m i gm gn s₀ { s with heap := s.heap.update x.1 f } := by
  have hs : Heap.SameBut x.1 s.heap (s.heap.update x.1 f) := Heap.SameBut.update ..
  refine ⟨by show (s.heap.update x.1 f).objs.size = _; rw [hs.1, R.size], R.toks, R.gsize, fun y hy => ?_, by rw [memUpd_fst]; exact R.nodup, fun y hy => ?_, R.gown, R.gnodup, fun b o e ht hb => ?_, R.drawn, R.os, fun y hy => ?_, R.gnew, R.gids⟩
  · rcases memUpd_mem R.nodup h hy with rfl | ⟨hm, hne⟩
    · exact Heap.get?_update_self f (R.get h) hf
    · exact (hs.2 y.1 hne).trans (R.own y hm)
  · have : y.1 ∈ mem.map (·.1) := by rw [← memUpd_fst f mem n]; exact List.mem_map_of_mem hy
    obtain ⟨z, hz, e⟩ := List.mem_map.mp this
    rw [← e]; exact R.src z hz
  · have hne : b ≠ x.1 := fun e => by
      rcases R.src x (memGet_mem h) with q | q
      · exact ht (e ▸ q)
      · exact Nat.lt_irrefl _ (Nat.lt_of_lt_of_le hb (e ▸ q))
    exact (hs.2 b hne).trans (R.keep b o e ht hb)
  · have : y.1 ∈ mem.map (·.1) := by rw [← memUpd_fst f mem n]; exact List.mem_map_of_mem hy
    obtain ⟨z, hz, e⟩ := List.mem_map.mp this
    rw [← e]; exact R.org z hz
theorem Rep.alloc (R : Rep V A GA mem m i gm gn s₀ s) {o : Obj} (hf : o.isFreed = false) (hB : V.B ≤ V.N) : Rep V A GA ((V.N + m, o) :: mem) (m + 1) i gm gn s₀ { s with heap := s.heap.push o } := by
  refine ⟨by show (s.heap.push o).objs.size = _; rw [Heap.size_push, R.size]; rfl, R.toks, R.gsize, fun y hy => ?_, ?_, fun y hy => ?_, R.gown, R.gnodup, fun b o' e ht hb => Heap.get?_push_of_some _ (R.keep b o' e ht hb), R.drawn, R.os, fun y hy => ?_, R.gnew, R.gids⟩
  · rcases List.mem_cons.mp hy with rfl | hy
    · show (s.heap.push o).get? (V.N + m) = some o
      rw [← R.size]; exact Heap.get?_push_size _ hf
    · exact Heap.get?_push_of_some _ (R.own y hy)
  · refine List.nodup_cons.mpr ⟨fun hm => ?_, R.nodup⟩
    obtain ⟨z, hz, e⟩ := List.mem_map.mp hm
    have := Heap.lt_size (R.own z hz)
    rw [R.size] at this
    exact Nat.lt_irrefl _ (e ▸ this)
  · rcases List.mem_cons.mp hy with rfl | hy
    · exact .inr (Nat.le_trans hB (Nat.le_add_right ..))
    · exact R.src y hy
  · rcases List.mem_cons.mp hy with rfl | hy
    · exact .inr (Nat.le_add_right ..)
    · exact R.org y hy
theorem Rep.allocs (hB : V.B ≤ V.N) : ∀ {l : List Obj} {mem : Mem} {m : Nat} {s : Shared}, Rep V A GA mem m i gm gn s₀ s → (∀ o ∈ l, o.isFreed = false) → Rep V A GA (newObs (V.N + m) l mem) (m + l.length) i gm gn s₀ { s with heap := pushAll s.heap l }
  | [], _, _, _, R, _ => R
  | o :: l, mem, m, s, R, hf => by
    have := Rep.allocs hB (l := l) (R.alloc (hf o (List.mem_cons_self ..)) hB) (fun x hx => hf x (List.mem_cons_of_mem _ hx))
    have e : m + (o :: l).length = m + 1 + l.length := by rw [List.length_cons]; omega
    rw [e]
    exact this
theorem calmOk_true {b : Bool} {h : Option Value} (q : calmOk b h = true) (hb : b = true) : h = none := by
  subst hb
  cases h with
  | none => rfl
  | some _ => cases q
theorem newObs_fst : ∀ (l : List Obj) (a : Nat) (mem : Mem) (b : Nat), b < a → b ∈ (newObs a l mem).map (·.1) → b ∈ mem.map (·.1)
  | [], _, _, _, _, h => h
  | o :: l, a, mem, b, hb, h => by
    have := newObs_fst l (a + 1) _ b (Nat.lt_succ_of_lt hb) h
    rcases List.mem_cons.mp this with e | e
    · exact absurd e (Nat.ne_of_lt hb)
    · exact e
theorem pushAll_keep : ∀ (l : List Obj) {h : Heap} {b : Nat} {o : Obj}, h.get? b = some o → (pushAll h l).get? b = some o
  | [], _, _, _, e => e
  | _ :: l, _, _, _, e => pushAll_keep l (Heap.get?_push_of_some _ e)
theorem pushAll_size : ∀ (l : List Obj) (h : Heap), h.objs.size ≤ (pushAll h l).objs.size
  | [], _ => Nat.le_refl _
  | o :: l, h => Nat.le_trans (by rw [Heap.size_push]; exact Nat.le_succ _) (pushAll_size l (h.push o))
theorem Rep.setGen (R : Rep V A GA mem m i gm gn s₀ s) {n : Nat} {x : Nat × GenState} (h : gmGet gm n = some x) (st : GenState) : Rep V A GA mem m i (gmSet st gm n) gn s₀ (s.setGen x.1 st) := by
  refine ⟨R.size, R.toks, by show (s.gens.setIfInBounds x.1 st).size = _; rw [Array.size_setIfInBounds, R.gsize], R.own, R.nodup, R.src, fun y hy => ?_, by rw [gmSet_fst]; exact R.gnodup, R.keep, R.drawn, R.os, R.org, fun g hg hl => ?_, fun g hg => by rw [gmSet_fst]; exact R.gids g hg⟩
  rotate_left
  · have hl' : g < s.gens.size := by
      have : (s.gens.setIfInBounds x.1 st).size = s.gens.size := Array.size_setIfInBounds
      exact this ▸ hl
    obtain ⟨z, hz, e⟩ := R.gnew g hg hl'
    have : z.1 ∈ (gmSet st gm n).map (·.1) := by rw [gmSet_fst]; exact List.mem_map_of_mem hz
    obtain ⟨z', hz', e'⟩ := List.mem_map.mp this
    exact ⟨z', hz', e'.trans e⟩
  show (s.gens.setIfInBounds x.1 st)[y.1]? = some y.2
  rcases gmSet_mem R.gnodup h hy with rfl | ⟨hm, hne⟩
  · have hx := R.gown x (gmGet_mem h)
    have hlt : x.1 < s.gens.size := (Array.getElem?_eq_some_iff.mp hx).1
    rw [Array.getElem?_setIfInBounds]
    simp [hlt]
  · rw [Array.getElem?_setIfInBounds]
    rw [if_neg (Ne.symm hne)]
    exact R.gown y hm
theorem Rep.newGen (R : Rep V A GA mem m i gm gn s₀ s) (c : Code) : Rep V A GA mem m i ((V.G + gn, .fresh c) :: gm) (gn + 1) s₀ { s with gens := s.gens.push (.fresh c) } := by
  refine ⟨R.size, R.toks, by show (s.gens.push _).size = _; rw [Array.size_push, R.gsize]; rfl, R.own, R.nodup, R.src, fun y hy => ?_, ?_, R.keep, R.drawn, R.os, R.org, fun g hg hl => ?_, fun g hg => List.mem_cons_of_mem _ (R.gids g hg)⟩
  · show (s.gens.push (.fresh c))[y.1]? = some y.2
    rcases List.mem_cons.mp hy with rfl | hy
    · rw [← R.gsize]; exact Array.getElem?_push_size ..
    · have := R.gown y hy
      have hlt := (Array.getElem?_eq_some_iff.mp this).1
      rw [Array.getElem?_push, if_neg (Nat.ne_of_lt hlt)]
      exact this
  · refine List.nodup_cons.mpr ⟨fun hm => ?_, R.gnodup⟩
    obtain ⟨z, hz, e⟩ := List.mem_map.mp hm
    have := (Array.getElem?_eq_some_iff.mp (R.gown z hz)).1
    rw [R.gsize] at this
    exact Nat.lt_irrefl _ (e ▸ this)
  · have hl' : g < s.gens.size + 1 := by
      have : (s.gens.push (GenState.fresh c)).size = s.gens.size + 1 := Array.size_push ..
      exact this ▸ hl
    rcases Nat.lt_succ_iff_lt_or_eq.mp hl' with q | q
    · obtain ⟨z, hz, e⟩ := R.gnew g hg q
      exact ⟨z, List.mem_cons_of_mem _ hz, e⟩
    · exact ⟨_, List.mem_cons_self .., by rw [q, R.gsize]⟩
end
theorem Frm.refl (A : List Addr) (GA : List Nat) (s : Shared) : Frm A GA s s := ⟨Nat.le_refl _, Nat.le_refl _, fun _ _ e _ => e, fun _ _ e _ => e⟩
end Mine
end
section
set_option maxRecDepth 100000
namespace Mine
open PySem PySem.W PySem.W.X
theorem Frm.trans {A A' : List Addr} {GA GA' : List Nat} {s s₁ s' : Shared} (x : Frm A GA s s₁) (y : Frm A' GA' s₁ s') (hA : ∀ b, b < s.heap.objs.size → b ∈ A' → b ∈ A) (hG : ∀ b, b < s.gens.size → b ∈ GA' → b ∈ GA) : Frm A GA s s' :=
  ⟨Nat.le_trans x.size y.size, Nat.le_trans x.gsize y.gsize, fun b o e h => y.keep b o (x.keep b o e h) fun q => h (hA b (Heap.lt_size e) q),
    fun g st e h => y.gkeep g st (x.gkeep g st e h) fun q => h (hG g (Array.getElem?_eq_some_iff.mp e).1 q)⟩
noncomputable def Inc (ih : SimT) : Prop := ∀ t c p fs mem m i gm gn hs eqs, ∀ e ∈ eqs, e ∈ (ih t c p fs mem m i gm gn hs eqs).eqs
theorem preObs_inc {d : Nat} {mem : Mem} : ∀ {l : List (Nat × Addr × Obj)} {eqs eqs' : List Ob}, preObs d mem l eqs = some eqs' → ∀ e ∈ eqs, e ∈ eqs'
  | [], _, _, h, e, he => by cases h; exact he
  | x :: r, eqs, eqs', h, e, he => by
    unfold preObs at h
    split at h
    · exact preObs_inc h e (List.mem_cons_of_mem _ (List.mem_cons_of_mem _ he))
    · cases h
theorem postObs_inc {d : Nat} : ∀ {l : List (Nat × Addr × Obj)} {mem : Mem} {eqs : List Ob} {y : Mem × List Ob}, postObs d l mem eqs = some y → ∀ e ∈ eqs, e ∈ y.2
  | [], _, _, _, h, e, he => by cases h; exact he
  | x :: r, mem, eqs, y, h, e, he => by
    unfold postObs at h
    split at h
    · exact postObs_inc h e (List.mem_cons_of_mem _ he)
    · cases h
theorem retS_inc {ih : SimT} (I : Inc ih) (r : Result) {stop : Out} (fs : List Frame) (mem : Mem) (m i : Nat) (gm : GMem) (gn : Nat) (hs : List Hint) (eqs : List Ob) (hst : stop.eqs = eqs) : ∀ e ∈ eqs, e ∈ (retS ih r stop fs mem m i gm gn hs eqs).eqs := by
  intro e he
  unfold retS
  repeat' split
  all_goals first
    | (rw [hst]; exact he)
    | exact I _ _ _ _ _ _ _ _ _ _ _ e he
    | exact I _ _ _ _ _ _ _ _ _ _ _ e (List.mem_cons_of_mem _ he)
theorem step_inc (V : V) {ih : SimT} (I : Inc ih) : Inc (stepS V ih) := by
  intro t c p fs mem m i gm gn hs eqs e he
  unfold stepS
  repeat' split
  all_goals first
    | exact he
    | exact I _ _ _ _ _ _ _ _ _ _ _ e he
    | exact I _ _ _ _ _ _ _ _ _ _ _ e (List.mem_cons_of_mem _ he)
    | exact retS_inc I _ _ _ _ _ _ _ _ _ rfl e he
    | (rename_i h1 _ _ h2 _ ; exact I _ _ _ _ _ _ _ _ _ _ _ e (postObs_inc h2 e (preObs_inc h1 e (List.mem_cons_of_mem _ he))))
    | (rename_i h1 _ _ h2 _ _; exact I _ _ _ _ _ _ _ _ _ _ _ e (postObs_inc h2 e (preObs_inc h1 e (List.mem_cons_of_mem _ he))))
theorem run_inc (V : V) : ∀ n, Inc (run V n)
  | 0 => fun _ _ _ _ _ _ _ _ _ _ _ _ he => he
  | n + 1 => step_inc V (run_inc V n)
section
variable (V : V) (w : World) (rest : List Frame) (A GA : List Nat) (s₀ : Shared)
noncomputable def Reach (s : Shared) (t : Sem Fin) (c : Code) (p : Pos) (fs : List Frame) (mem : Mem) (gm : GMem) (o : Out) : Prop :=
  ∃ s', Comes (model V.prog w) s ⟨t, c, p, fs ++ rest⟩ s' ⟨o.t, o.c, o.p, o.fs ++ rest⟩ ∧ Rep V A GA o.mem o.m o.i o.gm o.gn s₀ s' ∧ Frm (mem.map (·.1)) (gm.map (·.1)) s s'
noncomputable def Sound (ih : SimT) : Prop := ∀ t c p fs mem m i gm gn hs eqs s, Rep V A GA mem m i gm gn s₀ s → (∀ e ∈ (ih t c p fs mem m i gm gn hs eqs).eqs, e.holds) →
  Reach V w rest A GA s₀ s t c p fs mem gm (ih t c p fs mem m i gm gn hs eqs)
variable {V w rest A GA s₀}
theorem Reach.stop {s : Shared} {t : Sem Fin} {c : Code} {p : Pos} {fs : List Frame} {mem : Mem} {m i : Nat} {gm : GMem} {gn : Nat} {hs : List Hint} {eqs : List Ob} (R : Rep V A GA mem m i gm gn s₀ s) :
    Reach V w rest A GA s₀ s t c p fs mem gm ⟨t, c, p, fs, mem, m, i, gm, gn, hs, eqs⟩ := ⟨s, .refl _ _, R, Frm.refl _ _ _⟩
theorem Reach.step {s s₁ : Shared} {t t₁ : Sem Fin} {c c₁ : Code} {p p₁ : Pos} {fs fs₁ : List Frame} {mem mem₁ : Mem} {gm gm₁ : GMem} {o : Out}
    (hs : (model V.prog w).step s ⟨t, c, p, fs ++ rest⟩ = .go s₁ ⟨t₁, c₁, p₁, fs₁ ++ rest⟩) (F : Frm (mem.map (·.1)) (gm.map (·.1)) s s₁)
    (hA : ∀ b, b < s.heap.objs.size → b ∈ mem₁.map (·.1) → b ∈ mem.map (·.1)) (hG : ∀ b, b < s.gens.size → b ∈ gm₁.map (·.1) → b ∈ gm.map (·.1))
    (h : Reach V w rest A GA s₀ s₁ t₁ c₁ p₁ fs₁ mem₁ gm₁ o) : Reach V w rest A GA s₀ s t c p fs mem gm o := by
  obtain ⟨s', a, b, d⟩ := h
  exact ⟨s', .step hs a, b, F.trans d hA hG⟩
theorem Reach.same {s : Shared} {t t₁ : Sem Fin} {c c₁ : Code} {p p₁ : Pos} {fs fs₁ : List Frame} {mem : Mem} {gm : GMem} {o : Out}
    (hs : (model V.prog w).step s ⟨t, c, p, fs ++ rest⟩ = .go s ⟨t₁, c₁, p₁, fs₁ ++ rest⟩)
    (h : Reach V w rest A GA s₀ s t₁ c₁ p₁ fs₁ mem gm o) : Reach V w rest A GA s₀ s t c p fs mem gm o := h.step hs (Frm.refl _ _ _) (fun _ _ q => q) (fun _ _ q => q)
theorem den_eq : (model V.prog w).den = denF := denF_eq
theorem Frm.upd {s : Shared} {a : Addr} {f : Obj → Obj} {A : List Addr} {GA : List Nat} (ha : a ∈ A) : Frm A GA s { s with heap := s.heap.update a f } := by
  have hs : Heap.SameBut a s.heap (s.heap.update a f) := Heap.SameBut.update ..
  exact ⟨by show _ ≤ (s.heap.update a f).objs.size; rw [hs.1]; exact Nat.le_refl _, Nat.le_refl _, fun b o e h => (hs.2 b fun q => h (q ▸ ha)).trans e, fun _ _ e _ => e⟩
theorem Frm.setGen {s : Shared} {g : Nat} {x : GenState} {A : List Addr} {GA : List Nat} (ha : g ∈ GA) : Frm A GA s (s.setGen g x) :=
  ⟨Nat.le_refl _, by show _ ≤ (s.gens.setIfInBounds g x).size; rw [Array.size_setIfInBounds]; exact Nat.le_refl _, fun _ _ e _ => e, fun b st e h => by
    show (s.gens.setIfInBounds g x)[b]? = some st
    rw [Array.getElem?_setIfInBounds, if_neg (fun q : g = b => h (q ▸ ha))]; exact e⟩
theorem fst_mem {mem : Mem} {n : Nat} {x : Addr × Obj} (h : memGet mem n = some x) : x.1 ∈ mem.map (·.1) := List.mem_map_of_mem (memGet_mem h)
theorem gfst_mem {gm : GMem} {n : Nat} {x : Nat × GenState} (h : gmGet gm n = some x) : x.1 ∈ gm.map (·.1) := List.mem_map_of_mem (gmGet_mem h)
variable (hP : w.params = V.P) (hB : V.B ≤ V.N) (hkt : ∀ a o, V.kt.get a = some o → a ∉ V.tabs → a < V.B → s₀.heap.get? a = some o)
  (hspec : ∀ S ∈ V.specs, SpecOK (model V.prog w) S) (hr : RestOK V.W rest)
theorem retS_sound {ih : SimT} (I : Inc ih) (IH : Sound V w rest A GA s₀ ih) (r : Result) {t : Sem Fin} (ht : t = leafOf r) {c : Code} {p : Pos} (fs : List Frame) (mem : Mem) (m i : Nat) (gm : GMem) (gn : Nat) (hs : List Hint) (eqs : List Ob) {s : Shared} (R : Rep V A GA mem m i gm gn s₀ s)
    (H : ∀ e ∈ (retS ih r ⟨t, c, p, fs, mem, m, i, gm, gn, hs, eqs⟩ fs mem m i gm gn hs eqs).eqs, e.holds) :
    Reach V w rest A GA s₀ s t c p fs mem gm (retS ih r ⟨t, c, p, fs, mem, m, i, gm, gn, hs, eqs⟩ fs mem m i gm gn hs eqs) := by
  subst ht
  cases fs with
  | nil => exact .stop R
  | cons f fs =>
    cases f with
    | ret k hd g l c₁ p₁ kp => exact .same (step_leaf_ret ..) (IH _ _ _ _ _ _ _ _ _ _ _ _ R H)
    | gen g k l c₁ p₁ =>
      cases hs with
      | nil => exact .stop R
      | cons h hs' =>
        cases h with
        | b => exact .stop R
        | s j d => exact .stop R
        | w => exact .stop R
        | r _ => exact .stop R
        | v _ => exact .stop R
        | o h =>
          cases hx : gmGet gm h with
          | none => simp only [retS, hx] at H ⊢; exact .stop R
          | some x =>
            simp only [retS, hx] at H ⊢
            have e : g = x.1 := H _ (I _ _ _ _ _ _ _ _ _ _ _ _ (List.mem_cons_self ..))
            have st := step_leaf_gen (M := model V.prog w) s c p (fs ++ rest) r g k l c₁ p₁
            rw [e] at st
            exact .step (mem₁ := mem) (gm₁ := gmSet .finished gm h) (by rw [e]; exact st) (.setGen (gfst_mem hx)) (fun _ _ q => q) (fun _ _ q => by rw [gmSet_fst] at q; exact q) (IH _ _ _ _ _ _ _ _ _ _ _ _ (R.setGen hx _) H)
theorem top_base {rest : List Frame} {W : List (Code × Pos)} (hr : RestOK W rest) (fs : List Frame) : topHandled (fs ++ rest) = topHandled fs := by
  have h1 := topHandled_append fs rest
  have h2 := topHandled_append fs []
  rw [hr.top, hr.past] at h1
  rw [List.append_nil] at h2
  rw [h1, h2]; rfl
noncomputable def effOf (post : List (Nat × Addr × Obj)) (h h' : Heap) : Prop := h'.objs.size = h.objs.size ∧ ∀ b, h'.get? b = lastOf b post (h.get? b)
theorem preObs_holds {d : Nat} {mem : Mem} : ∀ {l : List (Nat × Addr × Obj)} {eqs eqs' : List Ob}, preObs d mem l eqs = some eqs' → (∀ e ∈ eqs', e.holds) → ∀ x ∈ l, (x.2.1, x.2.2) ∈ mem
  | [], _, _, _, _, x, hx => nomatch hx
  | y :: r, eqs, eqs', h, H, x, hx => by
    unfold preObs at h
    split at h
    · rename_i z hz
      have h1 : y.2.1 = z.1 := H _ (preObs_inc h _ (List.mem_cons_self ..))
      have h2 : z.2 = y.2.2 := H _ (preObs_inc h _ (List.mem_cons_of_mem _ (List.mem_cons_self ..)))
      rcases List.mem_cons.mp hx with rfl | hx
      · rw [h1, ← h2]; exact memGet_mem hz
      · exact preObs_holds h H x hx
    · cases h
theorem postObs_rep {d m i gn : Nat} {gm : GMem} : ∀ {l : List (Nat × Addr × Obj)} {mem : Mem} {eqs : List Ob} {y : Mem × List Ob} {s s' : Shared}, postObs d l mem eqs = some y → (∀ e ∈ y.2, e.holds) →
    Rep V A GA mem m i gm gn s₀ s → effOf l s.heap s'.heap → (∀ x ∈ l, x.2.2.isFreed = false) → s'.toks = s.toks → s'.gens = s.gens → s'.drawn = s.drawn → s'.os = s.os →
    Rep V A GA y.1 m i gm gn s₀ s' ∧ y.1.map (·.1) = mem.map (·.1) ∧ ∀ b o, s.heap.get? b = some o → b ∉ mem.map (·.1) → s'.heap.get? b = some o
  | [], mem, eqs, y, s, s', h, H, R, E, _, ht, hg, hd, ho => by
    cases h
    have e : ∀ b, s'.heap.get? b = s.heap.get? b := E.2
    exact ⟨⟨E.1.trans R.size, ht.trans R.toks, by rw [hg]; exact R.gsize, fun x hx => (e _).trans (R.own x hx), R.nodup, R.src, fun x hx => by rw [hg]; exact R.gown x hx, R.gnodup, fun b o q1 q2 q3 => (e b).trans (R.keep b o q1 q2 q3), hd.trans R.drawn, ho.trans R.os, R.org, by rw [hg]; exact R.gnew, R.gids⟩, rfl, fun b o q _ => (e b).trans q⟩
  | x :: r, mem, eqs, y, s, s', h, H, R, E, hf, ht, hg, hd, ho => by
    unfold postObs at h
    split at h
    · rename_i z hz
      have h1 : x.2.1 = z.1 := H _ (postObs_inc h _ (List.mem_cons_self ..))
      have R1 := R.upd hz (f := fun _ => x.2.2) (hf x (List.mem_cons_self ..))
      have hs : Heap.SameBut z.1 s.heap (s.heap.update z.1 fun _ => x.2.2) := Heap.SameBut.update ..
      have hz' := Heap.get?_update_self (fun _ => x.2.2) (R.get hz) (hf x (List.mem_cons_self ..))
      have E1 : effOf r (s.heap.update z.1 fun _ => x.2.2) s'.heap := by
        refine ⟨E.1.trans hs.1.symm, fun b => ?_⟩
        rw [E.2 b]
        show lastOf b r (if x.2.1 = b then some x.2.2 else s.heap.get? b) = _
        by_cases hb : x.2.1 = b
        · rw [if_pos hb]
          have : b = z.1 := hb.symm.trans h1
          rw [this, hz']
        · rw [if_neg hb, hs.2 b (fun q => hb (h1.trans q.symm))]
      obtain ⟨a1, a2, a3⟩ := postObs_rep (s := { s with heap := s.heap.update z.1 fun _ => x.2.2 }) h H R1 E1 (fun q hq => hf q (List.mem_cons_of_mem _ hq)) ht hg hd ho
      rw [memUpd_fst] at a2
      refine ⟨a1, a2, fun b o q hb => a3 b o ?_ (by rw [memUpd_fst]; exact hb)⟩
      exact (hs.2 b (fun e => hb (e ▸ fst_mem hz))).trans q
    · cases h
variable (hsf : ∀ S ∈ V.specs, (∀ x ∈ S.post, x.2.2.isFreed = false) ∧ ∀ b, ∀ o ∈ S.new b, o.isFreed = false)
theorem specAt_mem : ∀ {l : List Spec} {n : Nat} {S : Spec}, specAt l n = some S → S ∈ l
  | [], _, _, h => nomatch h
  | y :: r, 0, x, h => by cases h; exact List.mem_cons_self ..
  | y :: r, n + 1, x, h => List.mem_cons_of_mem _ (specAt_mem (l := r) h)
include hP hB hkt hspec hr hsf in
theorem step_sound {ih : SimT} (I : Inc ih) (IH : Sound V w rest A GA s₀ ih) : Sound V w rest A GA s₀ (stepS V ih) := by
  intro t c p fs mem m i gm gn hs eqs s R H
  cases t with
  | pure fin =>
    cases fin with
    | done f => exact retS_sound I IH (.ok f) rfl fs mem m i gm gn hs eqs R H
    | again c' =>
      cases q : quietF c' with
      | false => simp only [stepS, q] at H ⊢; exact .stop R
      | true =>
        have plain : (∀ e ∈ (ih (denF c') c' p fs mem m i gm gn hs eqs).eqs, e.holds) → Reach V w rest A GA s₀ s (.pure (.again c')) c p fs mem gm (ih (denF c') c' p fs mem m i gm gn hs eqs) := fun H => by
          refine .same (step_again _ _ _ _ _ _ (by rw [quietF_eq]; exact q)) ?_
          rw [den_eq]
          exact IH _ _ _ _ _ _ _ _ _ _ _ _ R H
        cases hs with
        | nil => simp only [stepS, q] at H ⊢; exact plain H
        | cons h hs' =>
          cases h with
          | b => simp only [stepS, q] at H ⊢; exact plain H
          | w => simp only [stepS, q] at H ⊢; exact plain H
          | v _ => simp only [stepS, q] at H ⊢; exact plain H
          | o _ => simp only [stepS, q] at H ⊢; exact plain H
          | s _ _ => simp only [stepS, q] at H ⊢; exact plain H
          | r j =>
            cases q2 : altAt V.alts j with
            | none => simp only [stepS, q, q2] at H ⊢; exact .stop R
            | some x =>
              simp only [stepS, q, q2] at H ⊢
              have e : c' = x.c := H _ (I _ _ _ _ _ _ _ _ _ _ _ _ (List.mem_cons_self ..))
              refine .same (step_again _ _ _ _ _ _ (by rw [quietF_eq]; exact q)) ?_
              rw [den_eq, show denF c' = x.t by rw [e]; exact x.h]
              exact IH _ _ _ _ _ _ _ _ _ _ _ _ R H
  | raise e => exact retS_sound I IH (.error e) rfl fs mem m i gm gn hs eqs R H
  | rule tag k => exact .same (step_rule ..) (IH _ _ _ _ _ _ _ _ _ _ _ _ R H)
  | «at» p' k => exact .same (step_at ..) (IH _ _ _ _ _ _ _ _ _ _ _ _ R H)
  | point l k => exact .same (step_point ..) (IH _ _ _ _ _ _ _ _ _ _ _ _ R H)
  | ask k =>
    refine .same (step_ask ..) ?_
    have e : (⟨(model V.prog w).prog, (model V.prog w).w.params⟩ : Setting) = ⟨V.prog, V.P⟩ := by rw [← hP]; rfl
    rw [e]
    exact IH _ _ _ _ _ _ _ _ _ _ _ _ R H
  | load a part k =>
    cases hs with
    | nil => exact .stop R
    | cons h hs' =>
      cases h with
      | s j d => exact .stop R
      | w => exact .stop R
      | r _ => exact .stop R
      | v _ => exact .stop R
      | b =>
        cases q1 : Nat.blt a V.B with
        | false => simp only [stepS, q1] at H ⊢; exact .stop R
        | true =>
          cases q2 : noTab V.tabs a with
          | false => simp only [stepS, q1, q2] at H ⊢; exact .stop R
          | true =>
            cases q3 : V.kt.get a with
            | none => simp only [stepS, q1, q2, q3] at H ⊢; exact .stop R
            | some o =>
              simp only [stepS, q1, q2, q3] at H ⊢
              have hb : a < V.B := blt_true q1
              have ho := R.keep a o (hkt a o q3 (noTab_not q2) hb) (noTab_not q2) hb
              exact .same (step_load _ _ _ _ _ _ _ ho) (IH _ _ _ _ _ _ _ _ _ _ _ _ R H)
      | o h =>
        cases hx : memGet mem h with
        | none => simp only [stepS, hx] at H ⊢; exact .stop R
        | some x =>
          simp only [stepS, hx] at H ⊢
          have e : a = x.1 := H _ (I _ _ _ _ _ _ _ _ _ _ _ _ (List.mem_cons_self ..))
          exact .same (step_load _ _ _ _ _ _ _ (by rw [e]; exact R.get hx)) (IH _ _ _ _ _ _ _ _ _ _ _ _ R H)
  | loadIfAlive a k =>
    cases hs with
    | nil => exact .stop R
    | cons h hs' =>
      cases h with
      | s j d => exact .stop R
      | w => exact .stop R
      | r _ => exact .stop R
      | v _ => exact .stop R
      | b => exact .stop R
      | o h =>
        cases hx : memGet mem h with
        | none => simp only [stepS, hx] at H ⊢; exact .stop R
        | some x =>
          simp only [stepS, hx] at H ⊢
          have e : a = x.1 := H _ (I _ _ _ _ _ _ _ _ _ _ _ _ (List.mem_cons_self ..))
          have st := step_loadIfAlive (M := model V.prog w) s c p (fs ++ rest) a k
          rw [show s.heap.get? a = some x.2 by rw [e]; exact R.get hx] at st
          exact .same st (IH _ _ _ _ _ _ _ _ _ _ _ _ R H)
  | update a part f k =>
    cases hs with
    | nil => exact .stop R
    | cons h hs' =>
      cases h with
      | s j d => exact .stop R
      | w => exact .stop R
      | r _ => exact .stop R
      | v _ => exact .stop R
      | b => exact .stop R
      | o h =>
        cases hx : memGet mem h with
        | none => simp only [stepS, hx] at H ⊢; exact .stop R
        | some x =>
          cases hf : (f x.2).isFreed with
          | true => simp only [stepS, hx, hf] at H ⊢; exact .stop R
          | false =>
            simp only [stepS, hx, hf] at H ⊢
            have e : a = x.1 := H _ (I _ _ _ _ _ _ _ _ _ _ _ _ (List.mem_cons_self ..))
            refine .step (mem₁ := memUpd f mem h) (gm₁ := gm) (step_update _ _ _ _ _ _ _ _ (by rw [e, R.get hx]; rfl)) (.upd (e ▸ fst_mem hx)) (fun _ _ q => by rw [memUpd_fst] at q; exact q) (fun _ _ q => q) (IH _ _ _ _ _ _ _ _ _ _ _ _ ?_ H)
            rw [e]; exact R.upd hx hf
  | alloc o k =>
    cases hf : o.isFreed with
    | true => simp only [stepS, hf] at H ⊢; exact .stop R
    | false =>
      simp only [stepS, hf] at H ⊢
      have st := step_alloc (M := model V.prog w) s c p (fs ++ rest) o k
      rw [R.size] at st
      refine .step (mem₁ := (V.N + m, o) :: mem) (gm₁ := gm) st ⟨by show _ ≤ (s.heap.push o).objs.size; rw [Heap.size_push]; exact Nat.le_succ _, Nat.le_refl _, fun b o' e _ => Heap.get?_push_of_some _ e, fun _ _ e _ => e⟩ (fun b hb q => ?_) (fun _ _ q => q) (IH _ _ _ _ _ _ _ _ _ _ _ _ (R.alloc hf hB) H)
      rcases List.mem_cons.mp q with rfl | q
      · rw [R.size] at hb; exact absurd hb (Nat.lt_irrefl _)
      · exact q
  | fresh k =>
    have st := step_fresh (M := model V.prog w) s c p (fs ++ rest) k
    rw [R.toks] at st
    refine .step (mem₁ := mem) (gm₁ := gm) st ⟨Nat.le_refl _, Nat.le_refl _, fun _ _ e _ => e, fun _ _ e _ => e⟩ (fun _ _ q => q) (fun _ _ q => q) (IH _ _ _ _ _ _ _ _ _ _ _ _ ?_ H)
    exact ⟨R.size, by show V.T + i + 1 = _; rw [Nat.add_assoc], R.gsize, R.own, R.nodup, R.src, R.gown, R.gnodup, R.keep, R.drawn, R.os, R.org, R.gnew, R.gids⟩
  | handled own k =>
    cases own with
    | false =>
      have st := step_handled (M := model V.prog w) s c p (fs ++ rest) false k
      rw [if_neg Bool.false_ne_true, top_base hr] at st
      exact .same st (IH _ _ _ _ _ _ _ _ _ _ _ _ R H)
    | true =>
      cases q : splitAtGen fs with
      | none => simp only [stepS, q] at H ⊢; exact .stop R
      | some x =>
        simp only [stepS, q] at H ⊢
        have st := step_handled (M := model V.prog w) s c p (fs ++ rest) true k
        obtain ⟨x1, x2, x3⟩ := x
        rw [if_pos rfl] at st
        have e : ownFrames (fs ++ rest) = x1 := by unfold ownFrames; rw [splitAtGen_append_some rest q]
        rw [e] at st
        exact .same st (IH _ _ _ _ _ _ _ _ _ _ _ _ R H)
  | stack k =>
    have old : (∀ e ∈ (ih (k ((c, p) :: (fs.map Frame.where_ ++ V.W))) c p fs mem m i gm gn hs eqs).eqs, e.holds) → Reach V w rest A GA s₀ s (.stack k) c p fs mem gm (ih (k ((c, p) :: (fs.map Frame.where_ ++ V.W))) c p fs mem m i gm gn hs eqs) := fun H => by
      have st := step_stack (M := model V.prog w) s c p (fs ++ rest) k
      rw [List.map_append, hr.codes] at st
      exact .same st (IH _ _ _ _ _ _ _ _ _ _ _ _ R H)
    cases hs with
    | nil => exact old H
    | cons h hs' =>
      cases h with
      | b => exact old H
      | o _ => exact old H
      | s _ _ => exact old H
      | r _ => exact old H
      | v b =>
        cases q1 : enterT V k with
        | none => simp only [stepS, q1] at H ⊢; exact .stop R
        | some t' =>
          cases q2 : limOk V with
          | false => simp only [stepS, q1, q2] at H ⊢; exact .stop R
          | true =>
            cases q3 : short fs with
            | false => simp only [stepS, q1, q2, q3] at H ⊢; exact .stop R
            | true =>
              simp only [stepS, q1, q2, q3] at H ⊢
              have e : Sem.stack k = guardE b t' := H _ (I _ _ _ _ _ _ _ _ _ _ _ _ (List.mem_cons_self ..))
              obtain ⟨B, eB, hB'⟩ := guard_shape b t'
              obtain ⟨part, g, o, n, e1, e2, e3, e4, e5, e6⟩ := limOk_is q2
              rw [eB, e1] at e
              have st := step_stack (M := model V.prog w) s c p (fs ++ rest) k
              have ek : k ((c, p) :: (fs ++ rest).map Frame.where_) = (.load cStatics part fun o => ((g o).bind (fun l => B ((c, p) :: (fs ++ rest).map Frame.where_) l)).bind fun _ => t') := by
                injection e with e
                rw [e]
                rfl
              rw [ek] at st
              have ho := R.keep cStatics o (hkt cStatics o e4 (noTab_not e3) e2) (noTab_not e3) e2
              have st2 := step_load (M := model V.prog w) s c p (fs ++ rest) part (fun o => ((g o).bind (fun l => B ((c, p) :: (fs ++ rest).map Frame.where_) l)).bind fun _ => t') ho
              have hw : wts ((c, p) :: (fs ++ rest).map Frame.where_) ≤ 500 := by
                have w1 := wts_le (fs.map Frame.where_)
                have w2 := wt_le c
                have w3 : fs.length ≤ 40 := Nat.le_of_ble_eq_true q3
                have w4 := hr.few
                have w5 : wts ((c, p) :: (fs ++ rest).map Frame.where_) = wt c + (wts (fs.map Frame.where_) + wts V.W) := by
                  rw [List.map_append, hr.codes, ← wts_append]; rfl
                rw [List.length_map] at w1
                omega
              rw [e5] at st2
              have e7 : ((Sem.pure n : Sem Nat).bind (fun l => B ((c, p) :: (fs ++ rest).map Frame.where_) l)).bind (fun _ => t') = t' := by
                show (B ((c, p) :: (fs ++ rest).map Frame.where_) n).bind _ = _
                rw [hB' _ _ e6 hw]
                rfl
              rw [e7] at st2
              exact .same st (.same st2 (IH _ _ _ _ _ _ _ _ _ _ _ _ R H))
      | w =>
        cases q1 : enterC V k with
        | none => simp only [stepS, q1] at H ⊢; exact .stop R
        | some c' =>
          cases q2 : limOk V with
          | false => simp only [stepS, q1, q2] at H ⊢; exact .stop R
          | true =>
            cases q3 : short fs with
            | false => simp only [stepS, q1, q2, q3] at H ⊢; exact .stop R
            | true =>
              cases q4 : quietF c' with
              | false => simp only [stepS, q1, q2, q3, q4] at H ⊢; exact .stop R
              | true =>
                simp only [stepS, q1, q2, q3, q4] at H ⊢
                have e : Sem.stack k = enterE c' := H _ (I _ _ _ _ _ _ _ _ _ _ _ _ (List.mem_cons_self ..))
                obtain ⟨B, eB, hB'⟩ := enter_shape
                obtain ⟨part, g, o, n, e1, e2, e3, e4, e5, e6⟩ := limOk_is q2
                rw [enterE_eq, eB, e1] at e
                have st := step_stack (M := model V.prog w) s c p (fs ++ rest) k
                have ek : k ((c, p) :: (fs ++ rest).map Frame.where_) = (.load cStatics part fun o => ((g o).bind (fun l => B ((c, p) :: (fs ++ rest).map Frame.where_) l)).bind fun _ => (Sem.pure (.again c') : Sem Fin)) := by
                  injection e with e
                  rw [e]
                  rfl
                rw [ek] at st
                have ho := R.keep cStatics o (hkt cStatics o e4 (noTab_not e3) e2) (noTab_not e3) e2
                have st2 := step_load (M := model V.prog w) s c p (fs ++ rest) part (fun o => ((g o).bind (fun l => B ((c, p) :: (fs ++ rest).map Frame.where_) l)).bind fun _ => (Sem.pure (.again c') : Sem Fin)) ho
                have hw : wts ((c, p) :: (fs ++ rest).map Frame.where_) ≤ 500 := by
                  have w1 := wts_le (fs.map Frame.where_)
                  have w2 := wt_le c
                  have w3 : fs.length ≤ 40 := Nat.le_of_ble_eq_true q3
                  have w4 := hr.few
                  have w5 : wts ((c, p) :: (fs ++ rest).map Frame.where_) = wt c + (wts (fs.map Frame.where_) + wts V.W) := by
                    rw [List.map_append, hr.codes, ← wts_append]; rfl
                  rw [List.length_map] at w1
                  omega
                rw [e5] at st2
                have e7 : ((Sem.pure n : Sem Nat).bind (fun l => B ((c, p) :: (fs ++ rest).map Frame.where_) l)).bind (fun _ => (Sem.pure (.again c') : Sem Fin)) = Sem.pure (.again c') := by
                  show (B ((c, p) :: (fs ++ rest).map Frame.where_) n).bind _ = _
                  rw [hB' _ _ e6 hw]
                  rfl
                rw [e7] at st2
                refine .same st (.same st2 (.same (step_again _ _ _ _ _ _ (by rw [quietF_eq]; exact q4)) ?_))
                rw [den_eq]
                exact IH _ _ _ _ _ _ _ _ _ _ _ _ R H
  | call c' hd g l k =>
    have plain : ∀ hs₂, (∀ e ∈ (ih (denF c') c' p (.ret k hd g l c p [] :: fs) mem m i gm gn hs₂ eqs).eqs, e.holds) → Reach V w rest A GA s₀ s (.call c' hd g l k) c p fs mem gm (ih (denF c') c' p (.ret k hd g l c p [] :: fs) mem m i gm gn hs₂ eqs) := fun hs₂ H => by
      have st := step_call (M := model V.prog w) s c p (fs ++ rest) c' hd g l k
      rw [den_eq] at st
      exact .same st (IH _ _ _ _ _ _ _ _ _ _ _ _ R H)
    cases hs with
    | nil => exact plain _ H
    | cons h hs' =>
      cases h with
      | b => exact plain _ H
      | w => exact plain _ H
      | r _ => exact plain _ H
      | v _ => exact plain _ H
      | o _ => exact plain _ H
      | s j d =>
        cases q1 : specAt V.specs j with
        | none => simp only [stepS, q1] at H ⊢; exact plain _ H
        | some S =>
          cases q2 : preObs d mem S.pre (.c c' S.code :: eqs) with
          | none => simp only [stepS, q1, q2] at H ⊢; exact .stop R
          | some eqs₁ =>
            cases q3 : postObs d S.post mem eqs₁ with
            | none => simp only [stepS, q1, q2, q3] at H ⊢; exact .stop R
            | some y =>
              cases q4 : calmOk S.calm (topHandled (.ret k hd g l c p [] :: fs)) with
              | false => simp only [stepS, q1, q2, q3, q4] at H ⊢; exact .stop R
              | true =>
              simp only [stepS, q1, q2, q3, q4] at H ⊢
              have Hy : ∀ e ∈ y.2, e.holds := fun e he => H e (I _ _ _ _ _ _ _ _ _ _ _ e he)
              have H1 : ∀ e ∈ eqs₁, e.holds := fun e he => Hy e (postObs_inc q3 e he)
              have ec : c' = S.code := H1 _ (preObs_inc q2 _ (List.mem_cons_self ..))
              obtain ⟨s', a1, ⟨h₁, a2, a7⟩, a3, a4, a5, a6⟩ := hspec S (specAt_mem q1) s p k hd g l c (fs ++ rest) (fun x hx => R.own _ (preObs_holds q2 H1 x hx)) (fun hb => (top_base hr (.ret k hd g l c p [] :: fs)).trans (calmOk_true q4 hb))
              have R0 : Rep V A GA mem m (i + S.dt) gm gn s₀ { s with toks := s.toks + S.dt } := ⟨R.size, by show s.toks + S.dt = _; rw [R.toks, Nat.add_assoc], R.gsize, R.own, R.nodup, R.src, R.gown, R.gnodup, R.keep, R.drawn, R.os, R.org, R.gnew, R.gids⟩
              obtain ⟨b1, b2, b3⟩ := postObs_rep (s := { s with toks := s.toks + S.dt }) (s' := { s' with heap := h₁ }) q3 Hy R0 a2 (hsf S (specAt_mem q1)).1 a3 a4 a5 a6
              have b4 := b1.allocs hB ((hsf S (specAt_mem q1)).2 (V.N + m))
              have b5 : ({ s' with heap := pushAll h₁ (S.new (V.N + m)) } : Shared) = s' := by rw [← R.size, ← a7]
              have st := step_call (M := model V.prog w) s c p (fs ++ rest) c' hd g l k
              rw [ec] at st
              rw [R.toks, R.size] at a1
              obtain ⟨s'', d1, d2, d3⟩ := IH _ _ _ _ _ _ _ _ _ _ _ _ (b5 ▸ b4) H
              refine ⟨s'', by rw [ec]; exact .step st (a1.trans d1), d2, ?_⟩
              refine Frm.trans (s₁ := s') ⟨by rw [a7, ← a2.1]; exact pushAll_size _ _, by rw [a4]; exact Nat.le_refl _, fun b o e hb => by rw [a7]; exact pushAll_keep _ (b3 b o e hb), fun g st e _ => by rw [a4]; exact e⟩ d3 (fun b hb q => ?_) (fun _ _ q => q)
              rw [← b2]
              exact newObs_fst _ _ _ b (by rw [← R.size]; exact hb) q
  | newGen c' k =>
    have st := step_newGen (M := model V.prog w) s c p (fs ++ rest) c' k
    rw [R.gsize] at st
    refine .step (mem₁ := mem) (gm₁ := (V.G + gn, .fresh c') :: gm) st ⟨Nat.le_refl _, by show _ ≤ (s.gens.push _).size; rw [Array.size_push]; exact Nat.le_succ _, fun _ _ e _ => e, fun b x e _ => ?_⟩ (fun _ _ q => q) (fun b hb q => ?_) (IH _ _ _ _ _ _ _ _ _ _ _ _ (R.newGen c') H)
    · show (s.gens.push (.fresh c'))[b]? = some x
      have hlt := (Array.getElem?_eq_some_iff.mp e).1
      rw [Array.getElem?_push, if_neg (Nat.ne_of_lt hlt)]; exact e
    · rcases List.mem_cons.mp q with rfl | q
      · rw [R.gsize] at hb; exact absurd hb (Nat.lt_irrefl _)
      · exact q
  | genState g k =>
    cases hs with
    | nil => exact .stop R
    | cons h hs' =>
      cases h with
      | s j d => exact .stop R
      | w => exact .stop R
      | r _ => exact .stop R
      | v _ => exact .stop R
      | b => exact .stop R
      | o h =>
        cases hx : gmGet gm h with
        | none => simp only [stepS, hx] at H ⊢; exact .stop R
        | some x =>
          simp only [stepS, hx] at H ⊢
          have e : g = x.1 := H _ (I _ _ _ _ _ _ _ _ _ _ _ _ (List.mem_cons_self ..))
          exact .same (step_genState _ _ _ _ _ _ (by rw [e]; exact R.gown x (gmGet_mem hx))) (IH _ _ _ _ _ _ _ _ _ _ _ _ R H)
  | resume g r l k =>
    cases hs with
    | nil => exact .stop R
    | cons h hs' =>
      cases h with
      | s j d => exact .stop R
      | w => exact .stop R
      | r _ => exact .stop R
      | v _ => exact .stop R
      | b => exact .stop R
      | o h =>
        cases hx : gmGet gm h with
        | none => simp only [stepS, hx] at H ⊢; exact .stop R
        | some x =>
          obtain ⟨xg, xs⟩ := x
          cases xs with
          | running => simp only [stepS, hx] at H ⊢; exact .stop R
          | finished =>
            simp only [stepS, hx] at H ⊢
            have e : g = xg := H _ (I _ _ _ _ _ _ _ _ _ _ _ _ (List.mem_cons_self ..))
            exact .same (step_resume_finished _ _ _ _ _ _ _ _ (by rw [e]; exact R.gown _ (gmGet_mem hx))) (IH _ _ _ _ _ _ _ _ _ _ _ _ R H)
          | fresh c₀ =>
            cases r with
            | throw e => simp only [stepS, hx] at H ⊢; exact .stop R
            | send v =>
              cases v with
              | none =>
                simp only [stepS, hx] at H ⊢
                have e : g = xg := H _ (I _ _ _ _ _ _ _ _ _ _ _ _ (List.mem_cons_self ..))
                subst e
                have st := step_resume_fresh (M := model V.prog w) s c p (fs ++ rest) l k (R.gown _ (gmGet_mem hx))
                rw [den_eq] at st
                exact .step (fs₁ := .gen g k l c p :: fs) (mem₁ := mem) (gm₁ := gmSet .running gm h) st (.setGen (gfst_mem hx)) (fun _ _ q => q) (fun _ _ q => by rw [gmSet_fst] at q; exact q) (IH _ _ _ _ _ _ _ _ _ _ _ _ (R.setGen hx _) H)
              | _ => simp only [stepS, hx] at H ⊢; exact .stop R
          | suspended k₀ l₀ c₀ p₀ fs₀ cl =>
            simp only [stepS, hx] at H ⊢
            have e : g = xg := H _ (I _ _ _ _ _ _ _ _ _ _ _ _ (List.mem_cons_self ..))
            subst e
            have st := step_resume_suspended (M := model V.prog w) s c p (fs ++ rest) r l k (R.gown _ (gmGet_mem hx))
            refine .step (fs₁ := fs₀ ++ .gen g k l c p :: fs) (mem₁ := mem) (gm₁ := gmSet .running gm h) (by rw [st]; simp) (.setGen (gfst_mem hx)) (fun _ _ q => q) (fun _ _ q => by rw [gmSet_fst] at q; exact q) (IH _ _ _ _ _ _ _ _ _ _ _ _ (R.setGen hx _) H)
  | «yield» v gd l k =>
    cases hs with
    | nil => exact .stop R
    | cons h hs' =>
      cases h with
      | s j d => exact .stop R
      | w => exact .stop R
      | r _ => exact .stop R
      | v _ => exact .stop R
      | b => exact .stop R
      | o h =>
        cases q1 : splitAtGen fs with
        | none => simp only [stepS, q1] at H ⊢; exact .stop R
        | some y =>
          cases q2 : (gd || y.1.any Frame.guarded) with
          | true => simp only [stepS, q1, q2] at H ⊢; exact .stop R
          | false =>
            cases hx : gmGet gm h with
            | none => simp only [stepS, q1, q2, hx] at H ⊢; exact .stop R
            | some x =>
              simp only [stepS, q1, q2, hx] at H ⊢
              obtain ⟨pre, ⟨g, k', c', p'⟩, rst⟩ := y
              have e : g = x.1 := H _ (I _ _ _ _ _ _ _ _ _ _ _ _ (List.mem_cons_self ..))
              have st := step_yield (model V.prog w) s c p (fs ++ rest) v gd l k (splitAtGen_append_some rest q1) (by show (!(gd || pre.any Frame.guarded)) = true; rw [q2]; rfl)
              have e2 : (End.susp v gd l k c p pre).genState = .suspended k l c p pre false := by show GenState.suspended k l c p pre (gd || pre.any Frame.guarded) = _; rw [q2]
              rw [e2, e] at st
              exact .step (fs₁ := rst) (mem₁ := mem) (gm₁ := gmSet (.suspended k l c p pre false) gm h) st (.setGen (gfst_mem hx)) (fun _ _ q => q) (fun _ _ q => by rw [gmSet_fst] at q; exact q) (IH _ _ _ _ _ _ _ _ _ _ _ _ (R.setGen hx _) H)
  | unsupported => exact .stop R
  | finish => exact .stop R
  | register => exact .stop R
  | choose => exact .stop R
  | os => exact .stop R
  | fork => exact .stop R
  | thread => exact .stop R
  | await => exact .stop R
include hP hB hkt hspec hr hsf in
theorem run_sound : ∀ n, Sound V w rest A GA s₀ (run V n)
  | 0 => fun _ _ _ _ _ _ _ _ _ _ _ _ R _ => .stop R
  | n + 1 => step_sound hP hB hkt hspec hr hsf (run_inc V n) (run_sound n)
end
end Mine
end
section
set_option maxRecDepth 100000
namespace Mine
open PySem PySem.W PySem.W.X
noncomputable def pick : List Nat → Mem → Mem
  | [], _ => []
  | i :: r, mem => match memGet mem i with
    | some x => x :: pick r mem
    | none => pick r mem
noncomputable def live : GMem → GMem
  | [] => []
  | x :: r => match x.2 with
    | .finished => live r
    | _ => x :: live r
theorem pick_mem : ∀ {l : List Nat} {mem : Mem} {x : Addr × Obj}, x ∈ pick l mem → ∃ i ∈ l, memGet mem i = some x
  | [], _, _, h => nomatch h
  | i :: r, mem, x, h => by
    unfold pick at h
    split at h
    · rename_i y hy
      rcases List.mem_cons.mp h with rfl | h
      · exact ⟨i, List.mem_cons_self .., hy⟩
      · obtain ⟨j, hj, e⟩ := pick_mem h
        exact ⟨j, List.mem_cons_of_mem _ hj, e⟩
    · obtain ⟨j, hj, e⟩ := pick_mem h
      exact ⟨j, List.mem_cons_of_mem _ hj, e⟩
theorem memGet_inj : ∀ {mem : Mem} {i j : Nat} {x y : Addr × Obj}, (mem.map (·.1)).Nodup → memGet mem i = some x → memGet mem j = some y → x.1 = y.1 → i = j
  | [], _, _, _, _, _, h, _, _ => nomatch h
  | z :: r, 0, 0, _, _, _, _, _, _ => rfl
  | z :: r, 0, j + 1, x, y, hd, h1, h2, e => by
    cases h1
    exact absurd (by have q := List.mem_map_of_mem (f := fun x => x.1) (memGet_mem (mem := r) h2); simp only [← e] at q; exact q) (List.nodup_cons.mp hd).1
  | z :: r, i + 1, 0, x, y, hd, h1, h2, e => by
    cases h2
    exact absurd (by have q := List.mem_map_of_mem (f := fun x => x.1) (memGet_mem (mem := r) h1); simp only [e] at q; exact q) (List.nodup_cons.mp hd).1
  | z :: r, i + 1, j + 1, x, y, hd, h1, h2, e => congrArg (· + 1) (memGet_inj (mem := r) (List.nodup_cons.mp hd).2 h1 h2 e)
theorem pick_nodup : ∀ {l : List Nat} {mem : Mem}, (mem.map (·.1)).Nodup → l.Nodup → ((pick l mem).map (·.1)).Nodup
  | [], _, _, _ => List.nodup_nil
  | i :: r, mem, hd, hl => by
    have hl' := List.nodup_cons.mp hl
    unfold pick
    split
    · rename_i x hx
      refine List.nodup_cons.mpr ⟨fun hm => ?_, pick_nodup hd hl'.2⟩
      obtain ⟨y, hy, e⟩ := List.mem_map.mp hm
      obtain ⟨j, hj, hy'⟩ := pick_mem hy
      exact hl'.1 (by rw [memGet_inj hd hx hy' e.symm]; exact hj)
    · exact pick_nodup hd hl'.2
theorem live_mem : ∀ {gm : GMem} {x : Nat × GenState}, x ∈ live gm → x ∈ gm
  | [], _, h => nomatch h
  | y :: r, x, h => by
    unfold live at h
    split at h
    · exact List.mem_cons_of_mem _ (live_mem h)
    · rcases List.mem_cons.mp h with rfl | h
      · exact List.mem_cons_self ..
      · exact List.mem_cons_of_mem _ (live_mem h)
theorem live_or : ∀ {gm : GMem} {x : Nat × GenState}, x ∈ gm → x ∈ live gm ∨ x.2 = .finished
  | [], _, h => nomatch h
  | y :: r, x, h => by
    unfold live
    rcases List.mem_cons.mp h with rfl | h
    · split
      · rename_i q; exact .inr q
      · exact .inl (List.mem_cons_self ..)
    · rcases live_or h with q | q
      · refine .inl ?_
        split
        · exact q
        · exact List.mem_cons_of_mem _ q
      · exact .inr q
theorem live_nodup : ∀ {gm : GMem}, (gm.map (·.1)).Nodup → ((live gm).map (·.1)).Nodup
  | [], _ => List.nodup_nil
  | y :: r, hd => by
    have hd' := List.nodup_cons.mp hd
    unfold live
    split
    · exact live_nodup hd'.2
    · refine List.nodup_cons.mpr ⟨fun hm => ?_, live_nodup hd'.2⟩
      obtain ⟨z, hz, e⟩ := List.mem_map.mp hm
      exact hd'.1 (by have q := List.mem_map_of_mem (f := fun x => x.1) (live_mem hz); simp only [e] at q; exact q)
structure Top where
  prog : Program
  w : World
  P : Params
  kt : KT
  tabs : List Nat
  B : Nat
  s₀ : Shared
structure Top.Ok (K : Top) : Prop where
  P : K.w.params = K.P
  kt : ∀ a o, K.kt.get a = some o → a ∉ K.tabs → a < K.B → K.s₀.heap.get? a = some o
structure St (K : Top) (mem : Mem) (gm : GMem) (s : Shared) : Prop where
  own : ∀ x ∈ mem, s.heap.get? x.1 = some x.2
  nodup : (mem.map (·.1)).Nodup
  src : ∀ x ∈ mem, x.1 ∈ K.tabs ∨ K.B ≤ x.1
  gown : ∀ x ∈ gm, s.gens[x.1]? = some x.2
  gnodup : (gm.map (·.1)).Nodup
  gfin : ∀ g st, s.gens[g]? = some st → (∃ x ∈ gm, x.1 = g) ∨ st = .finished
  keep : ∀ b o, K.s₀.heap.get? b = some o → b ∉ K.tabs → b < K.B → s.heap.get? b = some o
  drawn : s.drawn = K.s₀.drawn
  os : s.os = K.s₀.os
  low : K.B ≤ s.heap.objs.size
noncomputable def Top.V (K : Top) (W : List (Code × Pos)) (N T G : Nat) (specs : List Spec) (alts : List Alt) : V := ⟨K.prog, K.P, K.kt, K.tabs, K.B, W, N, T, G, specs, alts⟩
theorem holds_of_map : ∀ {l : List Ob}, l = l.map Ob.diag → ∀ e ∈ l, e.holds
  | [], _, _, h => nomatch h
  | x :: r, q, e, h => by
    injection q with q1 q2
    rcases List.mem_cons.mp h with rfl | h
    · exact Ob.holds_of q1
    · exact holds_of_map q2 e h
theorem useOne {K : Top} (hK : K.Ok) {W : List (Code × Pos)} {specs : List Spec} {alts : List Alt} (hspec : ∀ S ∈ specs, SpecOK (model K.prog K.w) S) (hsf : ∀ S ∈ specs, (∀ x ∈ S.post, x.2.2.isFreed = false) ∧ ∀ b, ∀ o ∈ S.new b, o.isFreed = false)
    {n : Nat} {t : Sem Fin} {c : Code} {p : Pos} {fs : List Frame} {mem : Mem} {gm : GMem} {hs : List Hint} {idx : List Nat} (hidx : idx.Nodup)
    {L : Mem} {s : Shared} (h7 : (run (K.V W s.heap.objs.size s.toks s.gens.size specs alts) n t c p fs mem 0 0 gm 0 hs []).eqs = (run (K.V W s.heap.objs.size s.toks s.gens.size specs alts) n t c p fs mem 0 0 gm 0 hs []).eqs.map Ob.diag) (S : St K (mem ++ L) gm s) {rest : List Frame} (hr : RestOK W rest) :
    ∃ s', Comes (model K.prog K.w) s ⟨t, c, p, fs ++ rest⟩ s' ⟨(run (K.V W s.heap.objs.size s.toks s.gens.size specs alts) n t c p fs mem 0 0 gm 0 hs []).t, (run (K.V W s.heap.objs.size s.toks s.gens.size specs alts) n t c p fs mem 0 0 gm 0 hs []).c, (run (K.V W s.heap.objs.size s.toks s.gens.size specs alts) n t c p fs mem 0 0 gm 0 hs []).p, (run (K.V W s.heap.objs.size s.toks s.gens.size specs alts) n t c p fs mem 0 0 gm 0 hs []).fs ++ rest⟩ ∧
      St K (pick idx (run (K.V W s.heap.objs.size s.toks s.gens.size specs alts) n t c p fs mem 0 0 gm 0 hs []).mem ++ L) (live (run (K.V W s.heap.objs.size s.toks s.gens.size specs alts) n t c p fs mem 0 0 gm 0 hs []).gm) s' ∧ s.heap.objs.size ≤ s'.heap.objs.size := by
  have nd := S.nodup
  rw [List.map_append] at nd
  have nd1 : (mem.map (·.1)).Nodup := (List.nodup_append.mp nd).1
  have nd2 : (L.map (·.1)).Nodup := (List.nodup_append.mp nd).2.1
  have nd3 : ∀ a ∈ mem.map (·.1), ∀ b ∈ L.map (·.1), a ≠ b := (List.nodup_append.mp nd).2.2
  have R0 : Rep (K.V W s.heap.objs.size s.toks s.gens.size specs alts) (mem.map (·.1)) (gm.map (·.1)) mem 0 0 gm 0 K.s₀ s :=
    ⟨rfl, rfl, rfl, fun x hx => S.own x (List.mem_append_left _ hx), nd1, fun x hx => S.src x (List.mem_append_left _ hx), S.gown, S.gnodup, S.keep, S.drawn, S.os,
      fun x hx => .inl (List.mem_map_of_mem hx), fun g h1 h2 => absurd h2 (Nat.not_lt.mpr h1), fun _ h => h⟩
  obtain ⟨s', C, R, F⟩ := run_sound (V := K.V W s.heap.objs.size s.toks s.gens.size specs alts) (w := K.w) (rest := rest) (A := mem.map (·.1)) (GA := gm.map (·.1)) (s₀ := K.s₀) hK.P S.low hK.kt hspec hr hsf n t c p fs mem 0 0 gm 0 hs [] s R0 (holds_of_map h7)
  refine ⟨s', C, ?_, F.size⟩
  have hL : ∀ x ∈ L, x.1 < s.heap.objs.size := fun x hx => Heap.lt_size (S.own x (List.mem_append_right _ hx))
  refine ⟨fun x hx => ?_, ?_, fun x hx => ?_, fun x hx => R.gown x (live_mem hx), live_nodup R.gnodup, fun g st e => ?_, R.keep, R.drawn, R.os, Nat.le_trans S.low F.size⟩
  · rcases List.mem_append.mp hx with q | q
    · obtain ⟨i, _, e⟩ := pick_mem q
      exact R.get e
    · exact F.keep _ _ (S.own x (List.mem_append_right _ q)) fun hm => nd3 _ hm _ (List.mem_map_of_mem q) rfl
  · rw [List.map_append]
    refine List.nodup_append.mpr ⟨pick_nodup R.nodup hidx, nd2, fun a ha b hb e => ?_⟩
    obtain ⟨x, hx, ex⟩ := List.mem_map.mp ha
    obtain ⟨y, hy, ey⟩ := List.mem_map.mp hb
    obtain ⟨i, _, ei⟩ := pick_mem hx
    rcases R.org x (memGet_mem ei) with q | q
    · exact nd3 x.1 q y.1 (List.mem_map_of_mem hy) (by rw [ex, e, ey])
    · have := hL y hy
      rw [ey, ← e, ← ex] at this
      exact Nat.lt_irrefl _ (Nat.lt_of_lt_of_le this q)
  · rcases List.mem_append.mp hx with q | q
    · obtain ⟨i, _, e⟩ := pick_mem q
      exact R.src x (memGet_mem e)
    · exact S.src x (List.mem_append_right _ q)
  · have hlt : g < s'.gens.size := (Array.getElem?_eq_some_iff.mp e).1
    have inGm : (∃ x ∈ (run (K.V W s.heap.objs.size s.toks s.gens.size specs alts) n t c p fs mem 0 0 gm 0 hs []).gm, x.1 = g) → (∃ x ∈ live (run (K.V W s.heap.objs.size s.toks s.gens.size specs alts) n t c p fs mem 0 0 gm 0 hs []).gm, x.1 = g) ∨ st = .finished := by
      rintro ⟨x, hx, rfl⟩
      rcases live_or hx with q | q
      · exact .inl ⟨x, q, rfl⟩
      · have := R.gown x hx
        rw [e] at this
        exact .inr ((Option.some.inj this).trans q)
    by_cases hg : s.gens.size ≤ g
    · exact inGm (R.gnew g hg hlt)
    · have hg' : g < s.gens.size := Nat.lt_of_not_le hg
      by_cases hm : g ∈ gm.map (·.1)
      · exact inGm (List.mem_map.mp (R.gids g hm))
      · have e1 : s.gens[g]? = some s.gens[g] := Array.getElem?_eq_getElem hg'
        have e2 := F.gkeep g _ e1 hm
        rw [e] at e2
        cases Option.some.inj e2
        rcases S.gfin g _ e1 with ⟨x, hx, rfl⟩ | q
        · exact absurd (List.mem_map_of_mem hx) hm
        · exact .inr q
end Mine
end
section
set_option maxRecDepth 100000
namespace Mine
open PySem PySem.W PySem.W.X
inductive VD where
  | none | bool (b : Bool) | int (i : Int) | str (s : Str) | ref (a : Addr) | typ (n : String) | blt (n : String) | raw (v : Value)
noncomputable def VD.val : VD → Tok → Value
  | .none, _ => .none
  | .bool b, _ => .bool b
  | .int i, t => .int i t
  | .str s, t => .str s t
  | .ref a, _ => .ref a
  | .typ n, _ => .type n
  | .blt n, _ => .builtin n
  | .raw v, _ => v
noncomputable def tokOf : Value → Tok
  | .int _ t => t
  | .str _ t => t
  | .float _ t => t
  | .bytes _ t => t
  | _ => 0
noncomputable def hE (P : Params) (k : List Nat) : Int := if (Str.mk ⟨k⟩).cps.isEmpty then 0 else reduceHash (P.strHash ⟨k⟩)
noncomputable def ents (P : Params) (τ : Nat → Tok) : Nat → List (List Nat × VD) → List DictEntry
  | _, [] => []
  | i, x :: r => ⟨hE P x.1, .str ⟨⟨x.1⟩⟩ (τ (2 * i)), x.2.val (τ (2 * i + 1))⟩ :: ents P τ (i + 1) r
noncomputable def vals (τ : Nat → Tok) : Nat → List VD → List Value
  | _, [] => []
  | i, x :: r => x.val (τ i) :: vals τ (i + 1) r
noncomputable def ovals (τ : Nat → Tok) : Nat → List (Option VD) → List (Option Value)
  | _, [] => []
  | i, x :: r => (match x with | some v => some (v.val (τ i)) | none => none) :: ovals τ (i + 1) r
structure Cn where
  n : Nat
  sl : Array (Option Value)
inductive OD where
  | frq (kvs : List (List Nat × VD))
  | dict (cls : String) (kvs : List (List Nat × VD))
  | seq (cls : String) (vs : List VD)
  | arr (cls : String) (xs : Array Value)
  | fields (cls : String) (vs : List VD)
  | inst (c d : Addr)
  | slotted (c : Addr) (vs : List (Option VD))
  | both (c d : Addr) (vs : List (Option VD))
  | cell (v : Option VD)
  | tab (vs : List VD)
  | raw (o : Obj)
noncomputable def OD.obj (P : Params) (τ : Nat → Tok) (n : Cn) : OD → Obj
  | .frq kvs => ⟨.type PySem.W.SZ.s658472552662922059x5, none, .dict ⟨ents P τ 0 kvs⟩ n.n, n.sl⟩
  | .dict c kvs => ⟨.type c, none, .dict ⟨ents P τ 0 kvs⟩ n.n, #[]⟩
  | .seq c vs => ⟨.type c, none, .seq ⟨vals τ 0 vs⟩ n.n, #[]⟩
  | .arr c xs => ⟨.type c, none, .seq xs n.n, #[]⟩
  | .fields c vs => ⟨.type c, none, .fields ⟨vals τ 0 vs⟩, #[]⟩
  | .inst c d => ⟨.ref c, some d, .plain, #[]⟩
  | .slotted c vs => ⟨.ref c, none, .plain, ⟨ovals τ 0 vs⟩⟩
  | .both c d vs => ⟨.ref c, some d, .plain, ⟨ovals τ 0 vs⟩⟩
  | .cell v => ⟨.type PySem.W.SZ.s15660640913423913556x4, none, .cell (match v with | some v => some (v.val (τ 0)) | none => none), #[]⟩
  | .tab vs => ⟨.none, none, .fields ⟨vals τ 0 vs⟩, #[]⟩
  | .raw o => o
noncomputable def nthV : List Value → Nat → Tok
  | [], _ => 0
  | x :: r, n => match n with
    | 0 => tokOf x
    | n + 1 => nthV r n
noncomputable def nthO : List (Option Value) → Nat → Tok
  | [], _ => 0
  | x :: r, n => match n with
    | 0 => (match x with | some v => tokOf v | none => 0)
    | n + 1 => nthO r n
noncomputable def nthE : List DictEntry → Nat → Tok
  | [], _ => 0
  | x :: r, n => match n with
    | 0 => tokOf x.key
    | 1 => tokOf x.val
    | n + 2 => nthE r n
noncomputable def toksOf (o : Obj) : Nat → Tok := fun i => match o.data with
  | .dict es _ => nthE es.toList i
  | .seq xs _ => nthV xs.toList i
  | .fields xs => nthV xs.toList i
  | .cell v => (match v with | some v => tokOf v | none => 0)
  | _ => nthO o.slots.toList i
noncomputable def cntOf (o : Obj) : Cn := ⟨match o.data with
  | .dict _ n => n
  | .seq _ n => n
  | _ => 0, o.slots⟩
abbrev DM := List (Addr × OD)
noncomputable def memOf (P : Params) (τ : Nat → Nat → Tok) (ν : Nat → Cn) : Nat → DM → Mem
  | _, [] => []
  | i, x :: r => (x.1, x.2.obj P (τ i) (ν i)) :: memOf P τ ν (i + 1) r
noncomputable def renorm (P : Params) : DM → Mem → Mem
  | [], _ => []
  | x :: r, m => match m with
    | [] => [(x.1, x.2.obj P (fun _ => 0) ⟨0, #[]⟩)]
    | y :: m => (x.1, x.2.obj P (toksOf y.2) (cntOf y.2)) :: renorm P r m
inductive Fits (P : Params) : DM → Mem → Prop
  | nil : Fits P [] []
  | cons {a : Addr} {d : OD} {r : DM} {m : Mem} (τ : Nat → Tok) (n : Cn) : Fits P r m → Fits P ((a, d) :: r) ((a, d.obj P τ n) :: m)
theorem Fits.append {P : Params} {a b : DM} {x y : Mem} (h : Fits P a x) (k : Fits P b y) : Fits P (a ++ b) (x ++ y) := by
  induction h with
  | nil => exact k
  | cons τ n _ ih => exact .cons τ n ih
theorem Fits.split {P : Params} : ∀ {a b : DM} {m : Mem}, Fits P (a ++ b) m → ∃ x y, m = x ++ y ∧ Fits P a x ∧ Fits P b y
  | [], _, m, h => ⟨[], m, rfl, .nil, h⟩
  | _ :: a, b, _, .cons τ n h => by
    obtain ⟨x, y, rfl, h1, h2⟩ := Fits.split h
    exact ⟨_ :: x, y, rfl, .cons τ n h1, h2⟩
theorem Fits.memOf {P : Params} {d : DM} {m : Mem} (h : Fits P d m) : ∀ i, ∃ τ ν, m = memOf P τ ν i d := by
  induction h with
  | nil => exact fun i => ⟨fun _ _ => 0, fun _ => ⟨0, #[]⟩, rfl⟩
  | cons τ n _ ih =>
    intro i
    obtain ⟨τ', ν', rfl⟩ := ih (i + 1)
    refine ⟨fun j => if j = i then τ else τ' j, fun j => if j = i then n else ν' j, ?_⟩
    have key : ∀ (d : DM) (k : Nat), i < k → Mine.memOf P τ' ν' k d = Mine.memOf P (fun j => if j = i then τ else τ' j) (fun j => if j = i then n else ν' j) k d := by
      intro d
      induction d with
      | nil => intro _ _; rfl
      | cons x r ih2 =>
        intro k hk
        have hne : k ≠ i := Nat.ne_of_gt hk
        simp only [Mine.memOf, if_neg hne]
        rw [ih2 (k + 1) (Nat.lt_succ_of_lt hk)]
    simp only [Mine.memOf, if_true]
    rw [key _ (i + 1) (Nat.lt_succ_self i)]
theorem Fits.renorm {P : Params} (d : DM) : ∀ {m : Mem}, m = Mine.renorm P d m → Fits P d m := by
  induction d with
  | nil => intro m h; rw [h]; exact .nil
  | cons x r ih =>
    intro m h
    cases m with
    | nil => cases h
    | cons y m =>
      have h' : y :: m = (x.1, x.2.obj P (toksOf y.2) (cntOf y.2)) :: Mine.renorm P r m := h
      injection h' with h1 h2
      rw [h1]
      exact .cons _ _ (ih h2)
noncomputable def StD (K : Top) (d : DM) (gm : GMem) (s : Shared) : Prop := ∃ mem, Fits K.w.params d mem ∧ St K mem gm s
end Mine
end
section
set_option maxRecDepth 100000
namespace Mine
open PySem PySem.W PySem.W.X
noncomputable def c_dict : String := PySem.W.SZ.s14018661285674007319x4
noncomputable def c_frame : String := PySem.W.SZ.s658472552662922059x5
noncomputable def c_list : String := PySem.W.SZ.s9222952809800978799x4
noncomputable def c_tuple : String := PySem.W.SZ.s2766695959194262286x5
noncomputable def c_str : String := PySem.W.SZ.s10796804682411823810x3
noncomputable def c_fun : String := PySem.W.SZ.s7174869446012820540x8
noncomputable def c_gen : String := PySem.W.SZ.s7929333955151719606x9
noncomputable def c_tupit : String := PySem.W.SZ.s4096838299382398694x14
noncomputable def c_enum : String := PySem.W.SZ.s14340494229221121180x9
noncomputable def c_slice : String := PySem.W.SZ.s4674234679698826739x5
noncomputable def c_stop : String := PySem.W.SZ.s5991306692159431302x13
noncomputable def c_int : String := PySem.W.SZ.s7066276694103001551x3
noncomputable def c_range : String := PySem.W.SZ.s1438033511350832697x5
noncomputable def c_rangeit : String := PySem.W.SZ.s15992201931430999065x14
noncomputable def c_listit : String := PySem.W.SZ.s3492446563574874994x13
noncomputable def c_code : String := PySem.W.SZ.s5856160107412720595x4
noncomputable def c_cell : String := PySem.W.SZ.s15660640913423913556x4
noncomputable def b_next : String := PySem.W.SZ.s3213454002840115300x22
noncomputable def b_gnext : String := PySem.W.SZ.s15367754806057639460x18
noncomputable def b_caller : String := PySem.W.SZ.s11611643536802374852x12
noncomputable def fnOf (o : Obj) : FuncData := match o.data with | .func f => f | _ => default
noncomputable def stmtsOf (f : FuncData) : List Stmt := match f.body with | .stmts b => b | _ => []
noncomputable def envF (f : FuncData) (a L : Addr) (cells : List (Str × Addr)) : Env := { scope := f.scope, locals := L, globals := 3, cells := cells, qual := f.qualname ++ (Str.mk ⟨[46, 60, 108, 111, 99, 97, 108, 115, 62, 46]⟩), func := some a, code := f.code, frame := some L, builtins := 0 }
noncomputable def whileOf (l : List Stmt) (e : Env) : Code := match l with | .While t b o _ :: _ => .whileLoop t b o e | _ => .builtin "" {}
noncomputable def callB (id : String) (vs : List Value) : Code := .call (.builtin id) ⟨vs, []⟩
noncomputable def itO (l : Addr) (k : Int) : Obj := ⟨.type c_listit, none, .fields ⟨[.ref l, .int k 0]⟩, #[]⟩
noncomputable def listO (xs : Array Value) (n : Nat) : Obj := ⟨.type c_list, none, .seq xs n, #[]⟩
noncomputable def afterPt (t : Sem Fin) : Sem Fin := match t with | .point _ k => k () | _ => t
noncomputable def tailT (l : List Stmt) (e : Env) : Sem Fin := afterPt (denF (.func l e))
noncomputable def spV (c : Code) (v : VD) (dt : Nat) : Spec := ⟨c, [], [], fun t _ => .ok (.ret (v.val t)), dt, fun _ => [], false⟩
noncomputable def spNext (it l : Addr) (i j : Nat) (xs : Array Value) (n : Nat) (k : Int) (v : Value) : Spec := ⟨callB b_next [.ref it], [(i, it, itO l k), (j, l, listO xs n)], [(i, it, itO l (k + 1))], fun _ _ => .ok (.ret v), 0, fun _ => [], false⟩
noncomputable def spPush (l : Addr) (i : Nat) (xs : Array Value) (n : Nat) (v : Value) : Spec := ⟨callB "list.append" [.ref l, v], [(i, l, listO xs n)], [(i, l, listO (xs.push v) (n + 1))], fun _ _ => .ok (.ret .none), 0, fun _ => [], false⟩
noncomputable def stopO (b : Nat) : List Obj := [⟨.type c_tuple, none, .seq #[] 0, #[]⟩, ⟨.type c_stop, none, .fields #[.ref b, .none, .none, .none, .bool false, .none], #[]⟩]
noncomputable def itD (k : Int) : Obj := ⟨.type c_listit, none, .fields ⟨[.none, .int k 0]⟩, #[]⟩
noncomputable def spEnd (it l : Addr) (i j : Nat) (xs : Array Value) (n : Nat) (k : Int) : Spec := ⟨callB b_next [.ref it], [(i, it, itO l k), (j, l, listO xs n)], [(i, it, itD k)], fun _ b => .error (.ref (b + 1)), 0, stopO, true⟩
noncomputable def isS (x : Str) : Value → Bool
  | .str z _ => z.cps.toList == x.cps.toList
  | _ => false
noncomputable def HasS (xs : Array Value) (x : Str) (b : Bool) : Prop := (∀ y ∈ xs, ∃ z t, y = .str z t) ∧ xs.any (isS x) = b
noncomputable def spHas (l : Addr) (j : Nat) (xs : Array Value) (n : Nat) (v : Value) (b : Bool) : Spec := ⟨callB "list.__contains__" [.ref l, v], [(j, l, listO xs n)], [], fun _ _ => .ok (.ret (.bool b)), 0, fun _ => [], false⟩
noncomputable def spPop (l : Addr) (j : Nat) (xs : Array Value) (n : Nat) (v : Value) (t : Tok) : Spec := ⟨callB "list.pop" [.ref l, .int (-1) t], [(j, l, listO (xs.push v) n)], [(j, l, listO xs (n + 1))], fun _ _ => .ok (.ret v), 0, fun _ => [], false⟩
noncomputable def clr (xs : Array Value) (n : Nat) : Nat := if (#[] : Array Value).size == xs.size then n else n + 1
noncomputable def spClear (l : Addr) (j : Nat) (xs : Array Value) (n : Nat) : Spec := ⟨callB "list.clear" [.ref l], [(j, l, listO xs n)], [(j, l, listO #[] (clr xs n))], fun _ _ => .ok (.ret .none), 0, fun _ => [], false⟩
noncomputable def ItemAt (xs : Array Value) (i : Int) (v : Value) : Prop := 0 ≤ i ∧ i < 2 ^ 63 ∧ xs[i.toNat]? = some v
noncomputable def spItem (l : Addr) (j : Nat) (xs : Array Value) (n : Nat) (i : Int) (t : Tok) (v : Value) : Spec := ⟨callB "list.__getitem__" [.ref l, .int i t], [(j, l, listO xs n)], [], fun _ _ => .ok (.ret v), 0, fun _ => [], false⟩
noncomputable def CharAt (x : Str) (i : Int) (c : Nat) : Prop := 0 ≤ i ∧ i < 2 ^ 63 ∧ x.cps[i.toNat]? = some c
noncomputable def rangeO (a : Int) (t : Tok) (b : Int) (u : Tok) (v : Tok) : Obj := ⟨.type c_range, none, .fields ⟨[.int a t, .int b u, .int 1 v]⟩, #[]⟩
noncomputable def ritO (x left : Int) : Obj := ⟨.type c_rangeit, none, .fields ⟨[.int x 0, .int left 0, .int 1 0]⟩, #[]⟩
noncomputable def spRIter (r : Addr) (j : Nat) (a : Int) (t : Tok) (b : Int) (u v : Tok) : Spec := ⟨callB "range.__iter__" [.ref r], [(j, r, rangeO a t b u v)], [], fun _ n => .ok (.ret (.ref n)), 0, fun _ => [ritO a (b - a)], false⟩
noncomputable def spRNext (it : Addr) (j : Nat) (x left : Int) : Spec := ⟨callB "range_iterator.__next__" [.ref it], [(j, it, ritO x left)], [(j, it, ritO (x + 1) (left - 1))], fun t _ => .ok (.ret (.int x t)), 1, fun _ => [], false⟩
noncomputable def spLAdd (l b : Addr) (i j : Nat) (xs : Array Value) (n : Nat) (ys : Array Value) (m : Nat) : Spec := ⟨callB "list.__add__" [.ref l, .ref b], [(i, l, listO xs n), (j, b, listO ys m)], [], fun _ n => .ok (.ret (.ref n)), 0, fun _ => [listO (xs ++ ys) 0], false⟩
end Mine
end
section
set_option maxRecDepth 100000
namespace Mine
open PySem PySem.W PySem.W.X
structure Eff (S : Spec) (s s' : Shared) : Prop where
  heap : ∃ h₁ : Heap, (h₁.objs.size = s.heap.objs.size ∧ ∀ b, h₁.get? b = lastOf b S.post (s.heap.get? b)) ∧ s'.heap = pushAll h₁ (S.new s.heap.objs.size)
  toks : s'.toks = s.toks + S.dt
  gens : s'.gens = s.gens
  drawn : s'.drawn = s.drawn
  os : s'.os = s.os
theorem spec_of_any {prog : Program} {w : World} {S : Spec} (h : ∀ (A : Around) (s : Shared) (R : Result → Shared → Prop), (∀ x ∈ S.pre, s.heap.get? x.2.1 = some x.2.2) →
    (S.calm = true → A.handled = none) → (∀ s', Eff S s s' → R (S.res s.toks s.heap.objs.size) s') →
    codeAny (model prog w) A S.code R s) : SpecOK (model prog w) S := by
  intro s p k hd g l c st hpre hcalm
  let base : List Frame := .ret k hd g l c p [] :: st
  let Γ : Ctx := Ctx.of S.code base
  let A : Around := ⟨Γ.handled, frameCount Γ.below, none, none, unitsOf Γ.below⟩
  have hb : Γ.Below A := ⟨rfl, Nat.le_refl _, (fun _ h => by cases h), (fun _ h => by cases h), Nat.le_refl _⟩
  have hw := h A s (fun r s' => r = S.res s.toks s.heap.objs.size ∧ Eff S s s') hpre hcalm (fun s' e => ⟨rfl, e⟩) Γ p rfl hb
  have hw' := (wpCode_iff_wp ..).mp hw
  obtain ⟨n, r, s', c', p', hn, hr, hx⟩ := wp_runN (base := base) (c := S.code) hw'
  subst hr
  refine ⟨s', ⟨n + 1, ?_⟩, hx.heap, hx.toks, hx.gens, hx.drawn, hx.os⟩
  have := runN_snoc hn
  rw [step_leaf_ret] at this
  exact this
variable {prog : Program} {w : World}
abbrev Chk (id : String) (vs : List Value) (pre : Shared → Prop) : Prop := ∀ (M : Model) (A : Around) (E : Value → Shared → Prop) (s : Shared) (Q : Unit → Shared → Prop), pre s → Q () s → wpAny M A (checkBuiltinCall id ⟨vs, []⟩) Q E s
theorem chk_slot {T : String} {name : Str} {id : String} (slot : Slot T name id) {self : Value} {rest : List Value} (args : argsOk id ⟨self :: rest, []⟩) {pre : Shared → Prop} (hT : ∀ s, pre s → s.TypeIs self T) : Chk id (self :: rest) pre :=
  fun _ _ _ s _ hp h => slot.check _ _ _ _ _ _ _ _ (hT s hp) args h
theorem sok_meets {id : String} {B : Builtin} {vs : List Value} {T : PySem.Spec} (g : Meets (B ⟨vs, []⟩) T) (plain : plainId id = true) (entry : entryFor table id = some B) {S : Spec} (hc : S.code = callB id vs)
    (chk : Chk id vs fun s => ∀ x ∈ S.pre, s.heap.get? x.2.1 = some x.2.2)
    (hT : ∀ (A : Around) (R : Result → Shared → Prop) (s : Shared), (∀ x ∈ S.pre, s.heap.get? x.2.1 = some x.2.2) → (S.calm = true → A.handled = none) → (∀ s', Eff S s s' → R (S.res s.toks s.heap.objs.size) s') → T A R s) : SpecOK (model prog w) S :=
  spec_of_any fun A s R hp hcl hR => by
    rw [hc]
    exact codeAny_call_builtin plain entry (chk _ _ _ _ _ hp (g prog w A R s (hT A R s hp hcl hR)))
theorem sok_gives {id : String} {B : Builtin} {vs : List Value} {m : Made} (g : Gives (B ⟨vs, []⟩) m) (plain : plainId id = true) (entry : entryFor table id = some B)
    (chk : Chk id vs fun _ => True) {v : VD} {dt : Nat} (hm : ∀ (Q : Value → Shared → Prop) (s : Shared), Q (v.val s.toks) { s with toks := s.toks + dt } → m.post Q s) : SpecOK (model prog w) (spV (callB id vs) v dt) :=
  sok_meets (S := spV (callB id vs) v dt) g.meets plain entry rfl (fun _ _ _ _ _ _ h => chk _ _ _ _ _ trivial h) fun _ _ _ _ _ hR => hm _ _ (hR _ ⟨⟨_, ⟨rfl, fun _ => rfl⟩, rfl⟩, rfl, rfl, rfl, rfl⟩)
theorem sok_int {id : String} {B : Builtin} {vs : List Value} {i : Int} (g : Gives (B ⟨vs, []⟩) (.int i)) (plain : plainId id = true) (entry : entryFor table id = some B) (chk : Chk id vs fun _ => True) : SpecOK (model prog w) (spV (callB id vs) (.int i) 1) :=
  sok_gives g plain entry chk fun _ _ h => h
theorem sok_bool {id : String} {B : Builtin} {vs : List Value} {b : Bool} (g : Gives (B ⟨vs, []⟩) (.val (.bool b))) (plain : plainId id = true) (entry : entryFor table id = some B) (chk : Chk id vs fun _ => True) : SpecOK (model prog w) (spV (callB id vs) (.bool b) 0) :=
  sok_gives g plain entry chk fun _ _ h => h
theorem sok_str {id : String} {B : Builtin} {vs : List Value} {x : Str} (g : Gives (B ⟨vs, []⟩) (.str x)) (hx : x.length ≤ sizeLine) (plain : plainId id = true) (entry : entryFor table id = some B) (chk : Chk id vs fun _ => True) : SpecOK (model prog w) (spV (callB id vs) (.str x) 1) :=
  sok_gives g plain entry chk fun _ _ h => ⟨hx, h⟩
theorem ty_int (s : Shared) (i : Int) (t : Tok) : s.TypeIs (.int i t) "int" := rfl
theorem ty_str (s : Shared) (i : Str) (t : Tok) : s.TypeIs (.str i t) "str" := rfl
noncomputable abbrev II (id : String) (a : Int) (t : Tok) (b : Int) (u : Tok) : Code := callB id [.int a t, .int b u]
noncomputable abbrev SS (id : String) (a : Str) (t : Tok) (b : Str) (u : Tok) : Code := callB id [.str a t, .str b u]
section
variable (a : Int) (t : Tok) (b : Int) (u : Tok)
theorem sok_mod (hb : b ≠ 0) : SpecOK (model prog w) (spV (II "int.__mod__" a t b u) (.int (a.fmod b)) 1) :=
  sok_int (AutoIntG6.int___mod___int_int_1 a t b u (by simpa using hb)) F.slot_int_mod.plain F.entry_int_mod (chk_slot F.slot_int_mod (F.args_int_mod_2 _ _) fun s _ => ty_int s a t)
theorem sok_div (hb : b ≠ 0) (hp : Builtin.divisionGoesByPylong a b = false) : SpecOK (model prog w) (spV (II "int.__floordiv__" a t b u) (.int (a.fdiv b)) 1) :=
  sok_int (AutoIntG4.int___floordiv___int_int_1 a t b u (by simpa using hb) (by simp [hp])) F.slot_int_floordiv.plain F.entry_int_floordiv (chk_slot F.slot_int_floordiv (F.args_int_floordiv_2 _ _) fun s _ => ty_int s a t)
theorem sok_add : SpecOK (model prog w) (spV (II "int.__add__" a t b u) (.int (a + b)) 1) :=
  sok_int (gives_int_add a b t u) F.slot_int_add.plain F.entry_int_add (chk_slot F.slot_int_add (F.args_int_add_2 _ _) fun s _ => ty_int s a t)
theorem sok_sub : SpecOK (model prog w) (spV (II "int.__sub__" a t b u) (.int (a - b)) 1) :=
  sok_int (gives_int_sub a b t u) F.slot_int_sub.plain F.entry_int_sub (chk_slot F.slot_int_sub (F.args_int_sub_2 _ _) fun s _ => ty_int s a t)
theorem sok_mul (hm : IntMulOk a b) : SpecOK (model prog w) (spV (II "int.__mul__" a t b u) (.int (a * b)) 1) :=
  sok_int (gives_int_mul a b t u hm) F.slot_int_mul.plain F.entry_int_mul (chk_slot F.slot_int_mul (F.args_int_mul_2 _ _) fun s _ => ty_int s a t)
theorem sok_xor : SpecOK (model prog w) (spV (II "int.__xor__" a t b u) (.int (Builtin.bitXor a b)) 1) :=
  sok_int (.of_eq rfl) F.slot_int_xor.plain F.entry_int_xor (chk_slot F.slot_int_xor (F.args_int_xor_2 _ _) fun s _ => ty_int s a t)
theorem sok_neg : SpecOK (model prog w) (spV (callB "int.__neg__" [.int a t]) (.int (-a)) 1) :=
  sok_int (gives_int_neg a t) F.slot_int_neg.plain F.entry_int_neg (chk_slot F.slot_int_neg (F.args_int_neg_1 _) fun s _ => ty_int s a t)
theorem sok_eq : SpecOK (model prog w) (spV (II "int.__eq__" a t b u) (.bool (a == b)) 0) :=
  sok_bool (gives_int_eq a b t u) F.slot_int_eq.plain F.entry_int_eq (chk_slot F.slot_int_eq (F.args_int_eq_2 _ _) fun s _ => ty_int s a t)
theorem sok_lt : SpecOK (model prog w) (spV (II "int.__lt__" a t b u) (.bool (decide (a < b))) 0) :=
  sok_bool (gives_int_lt a b t u) F.slot_int_lt.plain F.entry_int_lt (chk_slot F.slot_int_lt (F.args_int_lt_2 _ _) fun s _ => ty_int s a t)
theorem sok_gt : SpecOK (model prog w) (spV (II "int.__gt__" a t b u) (.bool (decide (a > b))) 0) :=
  sok_bool (gives_int_gt a b t u) F.slot_int_gt.plain F.entry_int_gt (chk_slot F.slot_int_gt (F.args_int_gt_2 _ _) fun s _ => ty_int s a t)
end
section
variable (x : Str) (t : Tok) (y : Str) (u : Tok)
theorem sok_scontains : SpecOK (model prog w) (spV (SS "str.__contains__" x t y u) (.bool !(Builtin.Str.occurrences x y 0 x.length 1).isEmpty) 0) :=
  sok_bool (gives_str_contains x y t u) F.slot_str_contains.plain F.entry_str_contains (chk_slot F.slot_str_contains (F.args_str_contains_2 _ _) fun s _ => ty_str s x t)
theorem sok_seq : SpecOK (model prog w) (spV (SS "str.__eq__" x t y u) (.bool (x.cps.toList == y.cps.toList)) 0) :=
  sok_bool (gives_str_eq x y t u) F.slot_str_eq.plain F.entry_str_eq (chk_slot F.slot_str_eq (F.args_str_eq_2 _ _) fun s _ => ty_str s x t)
end
theorem lastOf_one (i : Nat) (a b : Addr) (o : Obj) (d : Option Obj) : lastOf b [(i, a, o)] d = if a = b then some o else d := rfl
theorem heap_upd {s : Shared} {i : Nat} {l : Addr} {o o' : Obj} {f : Obj → Obj} (hl : s.heap.get? l = some o) (hf : f o = o') (hfr : o'.isFreed = false) :
    (s.heap.update l f).objs.size = s.heap.objs.size ∧ ∀ b, (s.heap.update l f).get? b = lastOf b [(i, l, o')] (s.heap.get? b) := by
  have hs : Heap.SameBut l s.heap (s.heap.update l f) := Heap.SameBut.update ..
  refine ⟨hs.1, fun b => ?_⟩
  rw [lastOf_one]
  by_cases e : l = b
  · rw [if_pos e, ← e, ← hf]; exact Heap.get?_update_self f hl (by rw [hf]; exact hfr)
  · rw [if_neg e]; exact hs.2 b (fun q => e q.symm)
theorem eff_upd {S : Spec} {s : Shared} {i : Nat} {l : Addr} {o o' : Obj} {f : Obj → Obj} (hp : S.post = [(i, l, o')]) (hn : S.new = fun _ => []) (hd : S.dt = 0) (hl : s.heap.get? l = some o) (hf : f o = o') (hfr : o'.isFreed = false) : Eff S s { s with heap := s.heap.update l f, toks := s.toks } := by
  have hs : Heap.SameBut l s.heap (s.heap.update l f) := Heap.SameBut.update ..
  refine ⟨⟨s.heap.update l f, ⟨hs.1, fun b => ?_⟩, by rw [hn]; rfl⟩, by rw [hd]; rfl, rfl, rfl, rfl⟩
  rw [hp, lastOf_one]
  by_cases e : l = b
  · rw [if_pos e, ← e, ← hf]; exact Heap.get?_update_self f hl (by rw [hf]; exact hfr)
  · rw [if_neg e]; exact hs.2 b (fun q => e q.symm)
theorem ty_list {s : Shared} {l : Addr} {xs : Array Value} {n : Nat} (h : s.heap.get? l = some (listO xs n)) : s.TypeIs (.ref l) "list" := ⟨_, h, rfl⟩
theorem sok_push (l : Addr) (i : Nat) (xs : Array Value) (n : Nat) (v : Value) (hx : xs.size ≤ sizeLine) : SpecOK (model prog w) (spPush l i xs n v) :=
  sok_meets (AutoListH.list_append_list_val_0 l xs n v hx) F.slot_list_append.plain F.entry_list_append rfl (chk_slot F.slot_list_append (F.args_list_append_2 _ _) fun s hp => ty_list (hp _ (List.mem_cons_self ..)))
    fun A R s hp _ hR => ⟨hp _ (List.mem_cons_self ..), hR _ (eff_upd rfl rfl rfl (hp _ (List.mem_cons_self ..)) (by
      show Obj.mapSeq _ (listO xs n) = listO (xs.push v) (n + 1)
      have hne : ((xs.push v).size == xs.size) = false := by rw [Array.size_push]; simp
      simp [Obj.mapSeq, listO]) rfl)⟩
end Mine
end
section
set_option maxRecDepth 100000
namespace Mine
open PySem PySem.W PySem.W.X
variable {prog : Program} {w : World}
theorem ty_it {s : Shared} {l : Addr} {a : Addr} {k : Int} (h : s.heap.get? l = some (itO a k)) : s.TypeIs (.ref l) "list_iterator" := ⟨_, h, rfl⟩
theorem entry_next : entryFor table "list_iterator.__next__" = some Builtin.«list_iterator.__next__» := entry_listiter_next
theorem meets_next (it l : Addr) (xs : Array Value) (n : Nat) (k : Nat) (v : Value) (hv : xs[k]? = some v) :
    Meets (Builtin.«list_iterator.__next__» ⟨[.ref it], []⟩) (fun _ R s => s.heap.get? it = some (itO l k) ∧ s.heap.get? l = some (listO xs n) ∧ R (.ok (.ret v)) { s with heap := s.heap.update it (Obj.mapFields fun x => x.set! 1 (rawInt (k + 1))) }) := by
  intro prog w A R s ⟨ho, hl, h⟩
  have hd : (itO l k).data = .fields #[.ref l, .int k 0] := rfl
  show wpAny _ _ (field (.ref it) 0 >>= _) _ _ s
  refine wpAny_bind (wpAny_field ho hd (x := .ref l) rfl ?_)
  show wpAny _ _ (if (Value.ref l == Value.none) = true then _ else _) _ _ s
  rw [if_neg (show ¬ ((Value.ref l == Value.none) = true) from Bool.false_ne_true)]
  show wpAny _ _ (field (.ref it) 1 >>= _) _ _ s
  refine wpAny_bind (wpAny_field ho hd (x := .int k 0) rfl ?_)
  show wpAny _ _ (seqItems? (.ref l) >>= _) _ _ s
  refine wpAny_bind (wpAny_seqItems hl rfl ?_)
  simp only [Int.toNat_natCast, hv]
  exact wpAny_bind (wpAny_setField ho hd (by simp) (wpAny_pure h))
theorem sok_next (it l : Addr) (i j : Nat) (xs : Array Value) (n : Nat) (k : Nat) (v : Value) (hv : xs[k]? = some v) : SpecOK (model prog w) (spNext it l i j xs n k v) :=
  sok_meets (S := spNext it l i j xs n k v) (meets_next it l xs n k v hv) slot_listiter_next.plain entry_listiter_next rfl (chk_slot slot_listiter_next (args_listiter_next _) fun _ hp => ty_it (hp _ (List.mem_cons_self ..)))
    fun _ _ _ hp _ hR => ⟨hp _ (List.mem_cons_self ..), hp _ (List.mem_cons_of_mem _ (List.mem_cons_self ..)), hR _ (eff_upd rfl rfl rfl (hp _ (List.mem_cons_self ..)) rfl rfl)⟩
theorem meets_end (it l : Addr) (xs : Array Value) (n : Nat) (k : Nat) (hv : xs[k]? = none) :
    Meets (Builtin.«list_iterator.__next__» ⟨[.ref it], []⟩) (fun A R s => A.handled = none ∧ s.heap.get? it = some (itO l k) ∧ s.heap.get? l = some (listO xs n) ∧
      R (.error (.ref (s.heap.objs.size + 1))) { s with heap := pushAll (s.heap.update it (Obj.mapFields fun x => x.set! 0 .none)) (stopO s.heap.objs.size) }) := by
  intro prog w A R s ⟨hh, ho, hl, h⟩
  have hd : (itO l k).data = .fields #[.ref l, .int k 0] := rfl
  show wpAny _ _ (field (.ref it) 0 >>= _) _ _ s
  refine wpAny_bind (wpAny_field ho hd (x := .ref l) rfl ?_)
  show wpAny _ _ (if (Value.ref l == Value.none) = true then _ else _) _ _ s
  rw [if_neg (show ¬ ((Value.ref l == Value.none) = true) from Bool.false_ne_true)]
  show wpAny _ _ (field (.ref it) 1 >>= _) _ _ s
  refine wpAny_bind (wpAny_field ho hd (x := .int k 0) rfl ?_)
  show wpAny _ _ (seqItems? (.ref l) >>= _) _ _ s
  refine wpAny_bind (wpAny_seqItems hl rfl ?_)
  simp only [Int.toNat_natCast, hv]
  refine wpAny_bind (wpAny_rule (wpAny_bind (wpAny_setField ho hd (by simp) ?_)))
  show wpAny _ _ (newExc (.type "StopIteration") [] >>= _) _ _ _
  refine wpAny_bind ?_
  simp only [newExc, newTuple]
  refine wpAny_bind (wpAny_newObj_type ?_ (by size_fits))
  refine wpAny_bind (m := firstArgMember _ _) (wpAny_of_eq (a := Value.none) (by first | rfl | (simp only [firstArgMember]; rfl)) ?_)
  refine wpAny_newObj_type ?_ (by size_fits)
  simp only [raiseNew]
  refine wpAny_bind (wpAny_handled ?_)
  rw [show A.in1.handled = none from hh]
  refine wpAny_bind (wpAny_pure (wpAny_throw ?_))
  have e : (s.heap.update it (Obj.mapFields fun x => x.setIfInBounds 0 .none)).objs.size = s.heap.objs.size := (Heap.SameBut.update ..).1
  rw [Heap.size_push, e]
  exact h
theorem sok_end (it l : Addr) (i j : Nat) (xs : Array Value) (n : Nat) (k : Nat) (hv : xs[k]? = none) : SpecOK (model prog w) (spEnd it l i j xs n k) :=
  sok_meets (S := spEnd it l i j xs n k) (meets_end it l xs n k hv) slot_listiter_next.plain entry_listiter_next rfl (chk_slot slot_listiter_next (args_listiter_next _) fun _ hp => ty_it (hp _ (List.mem_cons_self ..)))
    fun _ _ _ hp hc hR => ⟨hc rfl, hp _ (List.mem_cons_self ..), hp _ (List.mem_cons_of_mem _ (List.mem_cons_self ..)), hR _
      ⟨⟨_, heap_upd (i := i) (o' := itD k) (hp _ (List.mem_cons_self ..)) rfl rfl, rfl⟩, rfl, rfl, rfl, rfl⟩⟩
theorem sok_read {id : String} {B : Builtin} {vs : List Value} {T : PySem.Spec} (g : Meets (B ⟨vs, []⟩) T) (plain : plainId id = true) (entry : entryFor table id = some B) {l : Addr} {j : Nat} {o : Obj} {v : Value}
    (chk : Chk id vs fun s => s.heap.get? l = some o) (hT : ∀ (A : Around) (R : Result → Shared → Prop) (s : Shared), s.heap.get? l = some o → R (.ok (.ret v)) s → T A R s) :
    SpecOK (model prog w) ⟨callB id vs, [(j, l, o)], [], fun _ _ => .ok (.ret v), 0, fun _ => [], false⟩ :=
  sok_meets (S := ⟨callB id vs, [(j, l, o)], [], fun _ _ => .ok (.ret v), 0, fun _ => [], false⟩) g plain entry rfl (fun _ _ _ _ _ hp h => chk _ _ _ _ _ (hp _ (List.mem_cons_self ..)) h)
    fun _ _ _ hp _ hR => hT _ _ _ (hp _ (List.mem_cons_self ..)) (hR _ ⟨⟨_, ⟨rfl, fun _ => rfl⟩, rfl⟩, rfl, rfl, rfl, rfl⟩)
theorem any_isS {xs : Array Value} {x : Str} {t : Tok} (h : ∀ y ∈ xs, ∃ z t, y = .str z t) : ∀ y, y ∈ xs → MeetsSeq.EqGives y (.str x t) (isS x y) := fun y hy => by
  obtain ⟨z, u, rfl⟩ := h y hy
  exact SeqRoads2.EqGives.str z x u t
theorem sok_has (l : Addr) (j : Nat) (xs : Array Value) (n : Nat) (x : Str) (t : Tok) (b : Bool) (h : HasS xs x b) : SpecOK (model prog w) (spHas l j xs n (.str x t) b) :=
  sok_read (MeetsSeq.list_contains l xs n (.str x t) (isS x) (any_isS h.1)) F.slot_list_contains.plain F.entry_list_contains (chk_slot F.slot_list_contains (F.args_list_contains_2 _ _) fun _ hp => ty_list hp) fun _ _ _ hp hR => ⟨hp, by rw [h.2]; exact hR⟩
theorem meets_item (l : Addr) (xs : Array Value) (n : Nat) (i : Int) (t : Tok) (v : Value) (h : ItemAt xs i v) :
    Meets (Builtin.«list.__getitem__» ⟨[.ref l, .int i t], []⟩) (fun _ R s => s.heap.get? l = some (listO xs n) ∧ R (.ok (.ret v)) s) := by
  intro prog w A R s ⟨ho, hR⟩
  obtain ⟨h0, hfit, hx⟩ := h
  have hd : (listO xs n).data = .seq xs n := rfl
  show wpAny _ _ (Builtin.List.listSubscript? (.int i t) >>= _) _ _ s
  refine wpAny_bind (wpAny_listSubscript_int (fitsIndex_of h0 hfit) ?_)
  clear hfit
  obtain ⟨j, rfl⟩ := Int.eq_ofNat_of_zero_le h0
  have hx' : xs[j]? = some v := hx
  show wpAny _ _ ((seqItemAt l j >>= fun r => pure (r.map (j, ·))) >>= _) _ _ s
  refine wpAny_bind (wpAny_bind (wpAny_seqItemAt ho hd (wpAny_pure ?_)))
  rw [hx']
  first
    | exact wpAny_bind (wpAny_pure (wpAny_pure hR))
    | exact wpAny_pure hR
theorem sok_item (l : Addr) (j : Nat) (xs : Array Value) (n : Nat) (i : Int) (t : Tok) (v : Value) (h : ItemAt xs i v) : SpecOK (model prog w) (spItem l j xs n i t v) :=
  sok_read (meets_item l xs n i t v h) F.slot_list_getitem.plain F.entry_list_getitem (chk_slot F.slot_list_getitem (F.args_list_getitem_2 _ _) fun _ hp => ty_list hp) fun _ _ _ hp hR => ⟨hp, hR⟩
theorem erase_push (xs : Array Value) (v : Value) : (xs.push v).eraseIdxIfInBounds xs.size = xs := by
  unfold Array.eraseIdxIfInBounds
  rw [dif_pos (by rw [Array.size_push]; exact Nat.lt_succ_self _)]
  apply Array.ext'
  rw [Array.toList_eraseIdx, Array.toList_push]
  rw [List.eraseIdx_append_of_length_le (by simp)]
  simp
theorem sok_pop (l : Addr) (j : Nat) (xs : Array Value) (n : Nat) (v : Value) (t : Tok) (h : xs.size < sizeLine) : SpecOK (model prog w) (spPop l j xs n v t) :=
  sok_meets (S := spPop l j xs n v t) (MeetsSeq.list_pop_at l (xs.push v) n (-1) t xs.size v (by decide) (by rw [MeetsSeq.seqIndex_neg (by decide) (by rw [Array.size_push]; omega)]; congr 1; rw [Array.size_push]; omega) (by simp) (by rw [Array.size_push]; omega))
    F.slot_list_pop.plain F.entry_list_pop rfl (chk_slot F.slot_list_pop (F.args_list_pop_2 _ _) fun _ hp => ty_list (hp _ (List.mem_cons_self ..)))
    fun _ _ _ hp _ hR => ⟨hp _ (List.mem_cons_self ..), hR _ (eff_upd (S := spPop l j xs n v t) rfl rfl rfl (hp _ (List.mem_cons_self ..)) (by
      show Obj.mapSeq _ (listO (xs.push v) n) = listO xs (n + 1)
      simp only [Obj.mapSeq, listO, erase_push]
      have hne : (xs.size == (xs.push v).size) = false := by rw [Array.size_push]; simp
      rw [hne]; rfl) rfl)⟩
theorem sok_clear (l : Addr) (j : Nat) (xs : Array Value) (n : Nat) (h : xs.size ≤ sizeLine) : SpecOK (model prog w) (spClear l j xs n) :=
  sok_meets (S := spClear l j xs n) (AutoSeq1.list_clear_list_0 l xs n h) F.slot_list_clear.plain F.entry_list_clear rfl (chk_slot F.slot_list_clear (F.args_list_clear_1 _) fun _ hp => ty_list (hp _ (List.mem_cons_self ..)))
    fun _ _ _ hp _ hR => ⟨hp _ (List.mem_cons_self ..), hR _ (eff_upd (S := spClear l j xs n) rfl rfl rfl (hp _ (List.mem_cons_self ..)) rfl rfl)⟩
theorem div_small (a b : Int) (h : (if b == 0 then 0 else b.natAbs.log2 / 30 + 1) ≤ 300) : Builtin.divisionGoesByPylong a b = false := by
  unfold Builtin.divisionGoesByPylong
  simp only [Bool.and_eq_false_iff, decide_eq_false_iff_not]
  exact .inl (Nat.not_lt.mpr h)
end Mine
end
section
set_option maxRecDepth 100000
namespace Mine
open PySem PySem.W PySem.W.X
variable {prog : Program} {w : World}
theorem sok_sget (x : Str) (t : Tok) (i : Int) (u : Tok) (c : Nat) (h : CharAt x i c) : SpecOK (model prog w) (spV (callB "str.__getitem__" [.str x t, .int i u]) (.str ⟨⟨[c]⟩⟩) 1) :=
  sok_str (gives_str_getitem x i t u c (by
      obtain ⟨h0, h1, _⟩ := h
      simp only [Bool.or_eq_false_iff, decide_eq_false_iff_not]
      omega) (by
      obtain ⟨h0, h1, h2⟩ := h
      have hlt : i.toNat < x.length := (Array.getElem?_eq_some_iff.mp h2).1
      have e : seqIndex? i x.length = some i.toNat := by
        unfold seqIndex?
        have h3 : ¬ i < 0 := by omega
        have h4 : i < (x.length : Int) := by omega
        simp [h3, h0, h4]
      rw [e]; exact h2)) (by show 1 ≤ sizeLine; decide) F.slot_str_getitem.plain F.entry_str_getitem (chk_slot F.slot_str_getitem (F.args_str_getitem_2 _ _) fun s _ => ty_str s x t)
theorem sok_slen (x : Str) (t : Tok) : SpecOK (model prog w) (spV (callB "str.__len__" [.str x t]) (.int (x.length : Int)) 1) :=
  sok_int (gives_str_len x t) F.slot_str_len.plain F.entry_str_len (chk_slot F.slot_str_len (F.args_str_len_1 _) fun s _ => ty_str s x t)
theorem sok_radd (l b : Addr) (i j : Nat) (xs : Array Value) (n : Nat) (ys : Array Value) (m : Nat) (h : xs.size + ys.size ≤ sizeLine) : SpecOK (model prog w) (spLAdd l b i j xs n ys m) :=
  sok_meets (S := spLAdd l b i j xs n ys m) (AutoSeq1.list___add___list_list_0 l xs n b ys m h) F.slot_list_add.plain F.entry_list_add rfl (chk_slot F.slot_list_add (F.args_list_add_2 _ _) fun _ hp => ty_list (hp _ (List.mem_cons_self ..)))
    fun _ _ s hp _ hR => ⟨hp _ (List.mem_cons_self ..), hp _ (List.mem_cons_of_mem _ (List.mem_cons_self ..)), hR _ ⟨⟨s.heap, ⟨rfl, fun _ => rfl⟩, rfl⟩, rfl, rfl, rfl, rfl⟩⟩
theorem sok_riter (r : Addr) (j : Nat) (a : Int) (t : Tok) (b : Int) (u v : Tok) (ha : 0 ≤ a) (hab : a ≤ b) (hb : b < 1000) : SpecOK (model prog w) (spRIter r j a t b u v) := by
  have fit : ∀ n : Int, 0 ≤ n → n < 2000 → Builtin.Range.rangeFitsLong n = true := fun n h1 h2 => by unfold Builtin.Range.rangeFitsLong; simp; omega
  have sz : Builtin.Range.rangeSize a b 1 = b - a := by
    unfold Builtin.Range.rangeSize
    simp
    intro _; omega
  have small : (Builtin.Range.rangeFitsLong a && Builtin.Range.rangeFitsLong b && Builtin.Range.rangeFitsLong 1 && Builtin.Range.rangeFitsLong (Builtin.Range.rangeSize a b 1) && (Builtin.Range.rangeSize a b 1 == 0 || if (1 : Int) > 0 then Builtin.Range.rangeFitsLong (b + (1 - 1)) else Builtin.Range.rangeFitsLong (b + (1 + 1)))) = true := by
    rw [sz, fit a ha (by omega), fit b (by omega) (by omega), fit 1 (by decide) (by decide), fit (b - a) (by omega) (by omega), if_pos (by decide), fit (b + (1 - 1)) (by omega) (by omega)]
    simp
  exact sok_meets (S := spRIter r j a t b u v) (AutoRange.range___iter___range_1 r a b 1 t u v (by rw [small]; decide)) F.slot_range_iter.plain F.entry_range_iter rfl
    (chk_slot F.slot_range_iter (F.args_range_iter_1 _) fun _ hp => ⟨_, hp _ (List.mem_cons_self ..), rfl⟩)
    fun _ _ s hp _ hR => ⟨hp _ (List.mem_cons_self ..), hR _ ⟨⟨s.heap, ⟨rfl, fun _ => rfl⟩, by rw [small, sz]; rfl⟩, rfl, rfl, rfl, rfl⟩⟩
theorem sok_rnext (it : Addr) (j : Nat) (x left : Int) (h : 0 < left) : SpecOK (model prog w) (spRNext it j x left) :=
  sok_meets (S := spRNext it j x left) (AutoRange.range_iterator___next___range_iterator_1 it x left 1 (by omega)) F.slot_range_iterator_next.plain F.entry_range_iterator_next rfl
    (chk_slot F.slot_range_iterator_next (F.args_range_iterator_next_1 _) fun _ hp => ⟨_, hp _ (List.mem_cons_self ..), rfl⟩)
    fun _ _ s hp _ hR => ⟨hp _ (List.mem_cons_self ..), hR _ (by
      have ho := hp _ (List.mem_cons_self ..)
      refine ⟨⟨_, ⟨?_, fun b => ?_⟩, rfl⟩, rfl, rfl, rfl, rfl⟩
      · show ((s.heap.update it _).update it _).objs.size = _
        rw [(Heap.SameBut.update ..).1, (Heap.SameBut.update ..).1]
      · show ((s.heap.update it _).update it _).get? b = _
        have e1 := (heap_upd (s := s) (i := j) (l := it) (o := ritO x left) (o' := ritO (x + 1) left) (f := Obj.mapFields fun x_1 => x_1.setIfInBounds 0 (rawInt (x + 1))) ho rfl rfl).2
        have h1 : (s.heap.update it (Obj.mapFields fun x_1 => x_1.setIfInBounds 0 (rawInt (x + 1)))).get? it = some (ritO (x + 1) left) := by rw [e1 it, lastOf_one, if_pos rfl]
        have e2 := (heap_upd (s := { s with heap := s.heap.update it (Obj.mapFields fun x_1 => x_1.setIfInBounds 0 (rawInt (x + 1))) }) (i := j) (l := it) (o := ritO (x + 1) left) (o' := ritO (x + 1) (left - 1)) (f := Obj.mapFields fun x => x.setIfInBounds 1 (rawInt (left - 1))) h1 rfl rfl).2
        rw [e2 b, lastOf_one]
        show (if it = b then _ else (s.heap.update it _).get? b) = if it = b then _ else _
        by_cases q : it = b
        · rw [if_pos q, if_pos q]
        · rw [if_neg q, if_neg q, e1 b, lastOf_one, if_neg q])⟩
end Mine
end
section
set_option maxRecDepth 100000
namespace Mine
open PySem PySem.W PySem.W.X
structure Sys (K : Top) where
  ok : K.Ok
  H : Shared → Thread → Prop
  back : ∀ {s th s' th'}, Comes (model K.prog K.w) s th s' th' → H s' th' → H s th
noncomputable def OkS (K : Top) (S : Spec) : Prop := SpecOK (model K.prog K.w) S ∧ (∀ x ∈ S.post, x.2.2.isFreed = false) ∧ ∀ b, ∀ o ∈ S.new b, o.isFreed = false
noncomputable def AllOk (K : Top) (l : List Spec) : Prop := ∀ S ∈ l, OkS K S
theorem AllOk.nil {K : Top} : AllOk K [] := fun _ h => nomatch h
theorem AllOk.cons {K : Top} {S : Spec} {l : List Spec} (h : OkS K S) (r : AllOk K l) : AllOk K (S :: l) := fun x hx => (List.mem_cons.mp hx).elim (fun e => e ▸ h) (r x)
theorem okv {K : Top} {c : Code} {v : VD} {dt : Nat} (h : SpecOK (model K.prog K.w) (spV c v dt)) : OkS K (spV c v dt) := ⟨h, (fun _ h => nomatch h), fun _ _ h => nomatch h⟩
theorem ok1 {K : Top} {S : Spec} {i : Nat} {a : Addr} {o : Obj} (hp : S.post = [(i, a, o)]) (hn : S.new = fun _ => []) (hf : o.isFreed = false) (h : SpecOK (model K.prog K.w) S) : OkS K S :=
  ⟨h, fun x hx => by rw [hp] at hx; cases List.mem_singleton.mp hx; exact hf, fun b o ho => by rw [hn] at ho; cases ho⟩
theorem okr {K : Top} {S : Spec} (hp : S.post = []) (hn : S.new = fun _ => []) (h : SpecOK (model K.prog K.w) S) : OkS K S :=
  ⟨h, fun x hx => (by rw [hp] at hx; cases hx), fun b o ho => by rw [hn] at ho; cases ho⟩
theorem ok_end {K : Top} (it l : Addr) (i j : Nat) (xs : Array Value) (n : Nat) (k : Nat) (hv : xs[k]? = none) : OkS K (spEnd it l i j xs n k) :=
  ⟨sok_end it l i j xs n k hv, fun x hx => by cases List.mem_singleton.mp hx; rfl, fun b o ho => by
    have ho : o ∈ stopO b := ho
    unfold stopO at ho
    rcases List.mem_cons.mp ho with rfl | ho
    · rfl
    · cases List.mem_singleton.mp ho; rfl⟩
theorem ok_has {K : Top} (l : Addr) (j : Nat) (xs : Array Value) (n : Nat) (x : Str) (t : Tok) (b : Bool) (h : HasS xs x b) : OkS K (spHas l j xs n (.str x t) b) := okr rfl rfl (sok_has l j xs n x t b h)
theorem ok_item {K : Top} (l : Addr) (j : Nat) (xs : Array Value) (n : Nat) (i : Int) (t : Tok) (v : Value) (h : ItemAt xs i v) : OkS K (spItem l j xs n i t v) := okr rfl rfl (sok_item l j xs n i t v h)
theorem ok_pop {K : Top} (l : Addr) (j : Nat) (xs : Array Value) (n : Nat) (v : Value) (t : Tok) (h : xs.size < sizeLine) : OkS K (spPop l j xs n v t) := ok1 rfl rfl rfl (sok_pop l j xs n v t h)
theorem ok_clear {K : Top} (l : Addr) (j : Nat) (xs : Array Value) (n : Nat) (h : xs.size ≤ sizeLine) : OkS K (spClear l j xs n) := ok1 rfl rfl rfl (sok_clear l j xs n h)
theorem StD.perm {K : Top} {d d' : DM} {gm : GMem} {s : Shared} (h : d.Perm d') (S : StD K d gm s) : StD K d' gm s := by
  obtain ⟨mem, F, S⟩ := S
  have : ∃ mem', mem.Perm mem' ∧ Fits K.w.params d' mem' := by
    clear S
    induction h generalizing mem with
    | nil => cases F; exact ⟨[], .nil, .nil⟩
    | cons x _ ih =>
      cases F with
      | cons τ n F => obtain ⟨m', q, F'⟩ := ih _ F; exact ⟨_, q.cons _, .cons τ n F'⟩
    | swap x y l =>
      cases F with
      | cons τ n F => cases F with
        | cons τ' n' F => exact ⟨_, .swap .., .cons τ' n' (.cons τ n F)⟩
    | trans _ _ ih1 ih2 =>
      obtain ⟨m1, q1, F1⟩ := ih1 _ F
      obtain ⟨m2, q2, F2⟩ := ih2 _ F1
      exact ⟨m2, q1.trans q2, F2⟩
  obtain ⟨m', q, F'⟩ := this
  exact ⟨m', F', fun x hx => S.own x (q.mem_iff.mpr hx), (q.map _).nodup_iff.mp S.nodup, fun x hx => S.src x (q.mem_iff.mpr hx), S.gown, S.gnodup, S.gfin, S.keep, S.drawn, S.os, S.low⟩
theorem StD.drop {K : Top} {d e : DM} {gm : GMem} {s : Shared} (S : StD K (d ++ e) gm s) : StD K d gm s := by
  obtain ⟨mem, F, S⟩ := S
  obtain ⟨x, y, rfl, F1, F2⟩ := F.split
  exact ⟨x, F1, fun q hq => S.own q (List.mem_append_left _ hq), by have := S.nodup; rw [List.map_append] at this; exact (List.nodup_append.mp this).1, fun q hq => S.src q (List.mem_append_left _ hq), S.gown, S.gnodup, S.gfin, S.keep, S.drawn, S.os, S.low⟩
theorem restNil : RestOK [] [] := ⟨rfl, rfl, rfl, Nat.zero_le _⟩
end Mine
end
section
set_option maxRecDepth 100000
namespace Mine
open PySem PySem.W PySem.W.X
structure RestB (n : Nat) (rest : List Frame) : Prop where
  top : topHandled rest = none
  past : topHandled.go true rest = none
  few : wts (rest.map Frame.where_) ≤ n
theorem RestB.ok {n : Nat} {rest : List Frame} (h : RestB n rest) (hn : n ≤ 300) : RestOK (rest.map Frame.where_) rest := ⟨rfl, h.top, h.past, Nat.le_trans h.few hn⟩
theorem RestB.mono {n m : Nat} {rest : List Frame} (h : RestB n rest) (hn : n ≤ m) : RestB m rest := ⟨h.top, h.past, Nat.le_trans h.few hn⟩
theorem RestB.nil (n : Nat) : RestB n [] := ⟨rfl, rfl, Nat.zero_le _⟩
structure In where
  τ : Nat → Nat → Tok
  ν : Nat → Cn
  N : Nat
  T : Nat
  G : Nat
  p : Pos
structure SG where
  n : Nat
  t : Sem Fin
  c : Code
  fs : List Frame
  d : DM
  gm : GMem
  hs : List Hint
  idx : List Nat
structure SE where
  t : Sem Fin
  c : Option Code
  fs : List Frame
  d : DM
  gm : GMem
noncomputable def SE.cd (e : SE) (c : Code) : Code := match e.c with | some x => x | none => c
abbrev Tup := Sem Fin × Code × List Frame × Mem × GMem × List Ob
noncomputable def SG.out (a : SG) (K : Top) (W : List (Code × Pos)) (sp : In → List Spec) (al : In → List Alt) (i : In) : Out := run (K.V W i.N i.T i.G (sp i) (al i)) a.n a.t a.c i.p a.fs (memOf K.w.params i.τ i.ν 0 a.d) 0 0 a.gm 0 a.hs []
noncomputable def lhsR (o : Out) (idx : List Nat) : Tup := (o.t, o.c, o.fs, pick idx o.mem, live o.gm, o.eqs)
noncomputable def rhsR (P : Params) (o : Out) (idx : List Nat) (e : SE) : Tup := (e.t, e.cd o.c, e.fs, renorm P e.d (pick idx o.mem), e.gm, o.eqs.map Ob.diag)
noncomputable def RunsA (K : Top) (a : SG) (sp : In → List Spec) (al : In → List Alt) (e : In → SE) : Prop := ∀ W i, lhsR (a.out K W sp al i) a.idx = rhsR K.w.params (a.out K W sp al i) a.idx (e i)
noncomputable abbrev RunsTo (K : Top) (a : SG) (sp : In → List Spec) (e : In → SE) : Prop := RunsA K a sp (fun _ => []) e
noncomputable def SegT {K : Top} (Y : Sys K) (a : SG) (e : In → SE) : Prop := ∀ {L : DM} {s : Shared} {p : Pos} {rest : List Frame}, RestB 300 rest → StD K (a.d ++ L) a.gm s →
  (∀ (i : In) (s' : Shared) (p' : Pos) (c' : Code), K.B ≤ i.N → i.N ≤ s'.heap.objs.size → StD K ((e i).d ++ L) (e i).gm s' → Y.H s' ⟨(e i).t, (e i).cd c', p', (e i).fs ++ rest⟩) → Y.H s ⟨a.t, a.c, p, a.fs ++ rest⟩
theorem Sys.seg {K : Top} (Y : Sys K) {a : SG} {sp : In → List Spec} {al : In → List Alt} {e : In → SE} (hrun : RunsA K a sp al e) (hidx : a.idx.Nodup) (hspec : ∀ i : In, K.B ≤ i.N → AllOk K (sp i)) : SegT Y a e := by
  intro L s p rest hrest S next
  obtain ⟨mem, F, S⟩ := S
  obtain ⟨x, y, rfl, F1, F2⟩ := F.split
  obtain ⟨τ, ν, rfl⟩ := F1.memOf 0
  let i : In := ⟨τ, ν, s.heap.objs.size, s.toks, s.gens.size, p⟩
  have hsp := hspec i S.low
  have h := hrun (rest.map Frame.where_) i
  unfold lhsR rhsR at h
  simp only [Prod.mk.injEq] at h
  obtain ⟨h1, h2, h3, h4, h5, h6⟩ := h
  have key := useOne (K := K) Y.ok (W := rest.map Frame.where_) (specs := sp i) (alts := al i) (fun S hS => (hsp S hS).1) (fun S hS => (hsp S hS).2) (n := a.n) (t := a.t) (c := a.c) (p := p) (fs := a.fs) (hs := a.hs) hidx h6 S (hrest.ok (Nat.le_refl _))
  obtain ⟨s', C, S', hs⟩ := key
  have S2 : St K (pick a.idx (a.out K (rest.map Frame.where_) sp al i).mem ++ y) (live (a.out K (rest.map Frame.where_) sp al i).gm) s' := S'
  rw [h5] at S2
  have nx := next i s' (a.out K (rest.map Frame.where_) sp al i).p (a.out K (rest.map Frame.where_) sp al i).c S.low hs ⟨_, Fits.append (Fits.renorm _ h4) F2, S2⟩
  rw [← h1, ← h2, ← h3] at nx
  exact Y.back C nx
noncomputable def withPos : List Code → (Nat → Pos) → Nat → List (Code × Pos)
  | [], _, _ => []
  | c :: r, f, n => (c, f n) :: withPos r f (n + 1)
theorem withPos_of : ∀ (l : List (Code × Pos)) (n : Nat), ∃ f, l = withPos (l.map (·.1)) f n
  | [], _ => ⟨fun _ => default, rfl⟩
  | x :: r, n => by
    obtain ⟨f, h⟩ := withPos_of r (n + 1)
    have key : ∀ (l : List Code) (m : Nat), n < m → withPos l f m = withPos l (fun j => if j = n then x.2 else f j) m := by
      intro l
      induction l with
      | nil => intro _ _; rfl
      | cons y l ih =>
        intro m hm
        simp only [withPos, if_neg (Nat.ne_of_gt hm)]
        rw [ih (m + 1) (Nat.lt_succ_of_lt hm)]
    refine ⟨fun j => if j = n then x.2 else f j, ?_⟩
    simp only [List.map_cons, withPos, if_true]
    rw [← key _ _ (Nat.lt_succ_self n), ← h]
noncomputable def RunsC (K : Top) (cs : List Code) (a : SG) (sp : In → List Spec) (al : In → List Alt) (e : In → SE) : Prop := ∀ (f : Nat → Pos) i, lhsR (a.out K (withPos cs f 0) sp al i) a.idx = rhsR K.w.params (a.out K (withPos cs f 0) sp al i) a.idx (e i)
noncomputable def SegC {K : Top} (Y : Sys K) (cs : List Code) (a : SG) (e : In → SE) : Prop := ∀ {L : DM} {s : Shared} {p : Pos} {rest : List Frame}, rest.map (·.where_.1) = cs → RestB 300 rest → StD K (a.d ++ L) a.gm s →
  (∀ (i : In) (s' : Shared) (p' : Pos) (c' : Code), K.B ≤ i.N → i.N ≤ s'.heap.objs.size → StD K ((e i).d ++ L) (e i).gm s' → Y.H s' ⟨(e i).t, (e i).cd c', p', (e i).fs ++ rest⟩) → Y.H s ⟨a.t, a.c, p, a.fs ++ rest⟩
theorem Sys.segC {K : Top} (Y : Sys K) {cs : List Code} {a : SG} {sp : In → List Spec} {al : In → List Alt} {e : In → SE} (hrun : RunsC K cs a sp al e) (hidx : a.idx.Nodup) (hspec : ∀ i : In, K.B ≤ i.N → AllOk K (sp i)) : SegC Y cs a e := by
  intro L s p rest hcs hrest S next
  obtain ⟨f, hf⟩ := withPos_of (rest.map Frame.where_) 0
  rw [List.map_map] at hf
  have hcs' : rest.map ((fun x : Code × Pos => x.1) ∘ Frame.where_) = cs := hcs
  rw [hcs'] at hf
  have hr : RestOK (withPos cs f 0) rest := hf ▸ hrest.ok (Nat.le_refl _)
  obtain ⟨mem, F, S⟩ := S
  obtain ⟨x, y, rfl, F1, F2⟩ := F.split
  obtain ⟨τ, ν, rfl⟩ := F1.memOf 0
  let i : In := ⟨τ, ν, s.heap.objs.size, s.toks, s.gens.size, p⟩
  have hsp := hspec i S.low
  have h := hrun f i
  unfold lhsR rhsR at h
  simp only [Prod.mk.injEq] at h
  obtain ⟨h1, h2, h3, h4, h5, h6⟩ := h
  have key := useOne (K := K) Y.ok (W := withPos cs f 0) (specs := sp i) (alts := al i) (fun S hS => (hsp S hS).1) (fun S hS => (hsp S hS).2) (n := a.n) (t := a.t) (c := a.c) (p := p) (fs := a.fs) (hs := a.hs) hidx h6 S hr
  obtain ⟨s', C, S', hs⟩ := key
  have S2 : St K (pick a.idx (a.out K (withPos cs f 0) sp al i).mem ++ y) (live (a.out K (withPos cs f 0) sp al i).gm) s' := S'
  rw [h5] at S2
  have nx := next i s' (a.out K (withPos cs f 0) sp al i).p (a.out K (withPos cs f 0) sp al i).c S.low hs ⟨_, Fits.append (Fits.renorm _ h4) F2, S2⟩
  rw [← h1, ← h2, ← h3] at nx
  exact Y.back C nx
end Mine
end
section
set_option maxRecDepth 100000
namespace Mine
open PySem PySem.W PySem.W.X
section
variable {K : Top} {mem : Mem} {gm : GMem} {s : Shared}
theorem St.upd {a : Addr} {o : Obj} (S : St K ((a, o) :: mem) gm s) {f : Obj → Obj} (hf : (f o).isFreed = false) : St K ((a, f o) :: mem) gm { s with heap := s.heap.update a f } := by
  have hs : Heap.SameBut a s.heap (s.heap.update a f) := Heap.SameBut.update ..
  have nd := S.nodup
  rw [List.map_cons] at nd
  refine ⟨fun x hx => ?_, by rw [List.map_cons]; exact nd, fun x hx => ?_, S.gown, S.gnodup, S.gfin, fun b o' e ht hb => ?_, S.drawn, S.os, by show K.B ≤ (s.heap.update a f).objs.size; rw [hs.1]; exact S.low⟩
  · rcases List.mem_cons.mp hx with rfl | hx
    · exact Heap.get?_update_self f (S.own _ (List.mem_cons_self ..)) hf
    · have hne : x.1 ≠ a := fun e => (List.nodup_cons.mp nd).1 (by have q := List.mem_map_of_mem (f := fun x => x.1) hx; simp only [e] at q; exact q)
      exact (hs.2 x.1 hne).trans (S.own x (List.mem_cons_of_mem _ hx))
  · rcases List.mem_cons.mp hx with rfl | hx
    · exact S.src (a, o) (List.mem_cons_self ..)
    · exact S.src x (List.mem_cons_of_mem _ hx)
  · have hne : b ≠ a := fun e => by
      rcases S.src (a, o) (List.mem_cons_self ..) with q | q
      · exact ht (e ▸ q)
      · exact Nat.lt_irrefl _ (Nat.lt_of_lt_of_le hb (e ▸ q))
    exact (hs.2 b hne).trans (S.keep b o' e ht hb)
theorem St.alloc (S : St K mem gm s) {o : Obj} (hf : o.isFreed = false) : St K ((s.heap.objs.size, o) :: mem) gm { s with heap := s.heap.push o } := by
  refine ⟨fun x hx => ?_, ?_, fun x hx => ?_, S.gown, S.gnodup, S.gfin, fun b o' e ht hb => Heap.get?_push_of_some _ (S.keep b o' e ht hb), S.drawn, S.os, by show K.B ≤ (s.heap.push o).objs.size; rw [Heap.size_push]; exact Nat.le_succ_of_le S.low⟩
  · rcases List.mem_cons.mp hx with rfl | hx
    · exact Heap.get?_push_size _ hf
    · exact Heap.get?_push_of_some _ (S.own x hx)
  · refine List.nodup_cons.mpr ⟨fun hm => ?_, S.nodup⟩
    obtain ⟨z, hz, e⟩ := List.mem_map.mp hm
    have := Heap.lt_size (S.own z hz)
    exact Nat.lt_irrefl _ (e ▸ this)
  · rcases List.mem_cons.mp hx with rfl | hx
    · exact .inr S.low
    · exact S.src x hx
end
section
variable {K : Top} {d : DM} {gm : GMem} {s : Shared}
theorem StD.get {a : Addr} {o : OD} (h : (a, o) ∈ d) (S : StD K d gm s) : ∃ τ n, s.heap.get? a = some (o.obj K.w.params τ n) := by
  obtain ⟨mem, F, S⟩ := S
  have : ∃ τ n, (a, o.obj K.w.params τ n) ∈ mem := by
    clear S
    induction F with
    | nil => cases h
    | cons τ n _ ih =>
      rcases List.mem_cons.mp h with e | h
      · cases e; exact ⟨τ, n, List.mem_cons_self ..⟩
      · obtain ⟨τ', n', q⟩ := ih h; exact ⟨τ', n', List.mem_cons_of_mem _ q⟩
  obtain ⟨τ, n, q⟩ := this
  exact ⟨τ, n, S.own _ q⟩
theorem StD.lt {a : Addr} {o : OD} (S : StD K d gm s) (h : (a, o) ∈ d) : a < s.heap.objs.size := by
  obtain ⟨τ, n, e⟩ := S.get h
  exact Heap.lt_size e
theorem StD.upd {a : Addr} {o o' : OD} {f : Obj → Obj} (S : StD K ((a, o) :: d) gm s) (hf : ∀ τ n, ∃ τ' n', f (o.obj K.w.params τ n) = o'.obj K.w.params τ' n') (hfr : ∀ τ n, (o'.obj K.w.params τ n).isFreed = false) :
    StD K ((a, o') :: d) gm { s with heap := s.heap.update a f } := by
  obtain ⟨mem, F, S⟩ := S
  cases F with
  | cons τ n F =>
    obtain ⟨τ', n', e⟩ := hf τ n
    have := S.upd (f := f) (by rw [e]; exact hfr _ _)
    rw [e] at this
    exact ⟨_, .cons τ' n' F, this⟩
theorem StD.updAt {a : Addr} {o o' : OD} {x : Obj} {f : Obj → Obj} (S : StD K ((a, o) :: d) gm s) (e : s.heap.get? a = some x) (hf : ∃ τ' n', f x = o'.obj K.w.params τ' n') (hfr : ∀ τ n, (o'.obj K.w.params τ n).isFreed = false) :
    StD K ((a, o') :: d) gm { s with heap := s.heap.update a f } := by
  obtain ⟨mem, F, S⟩ := S
  cases F with
  | cons τ n F =>
    have q := S.own _ (List.mem_cons_self ..)
    rw [e] at q
    cases Option.some.inj q
    obtain ⟨τ', n', e'⟩ := hf
    have := S.upd (f := f) (by rw [e']; exact hfr _ _)
    rw [e'] at this
    exact ⟨_, .cons τ' n' F, this⟩
theorem StD.alloc {o : Obj} (S : StD K d gm s) (hf : o.isFreed = false) : StD K ((s.heap.objs.size, .raw o) :: d) gm { s with heap := s.heap.push o } := by
  obtain ⟨mem, F, S⟩ := S
  exact ⟨_, .cons (fun _ => 0) ⟨0, #[]⟩ F, S.alloc hf⟩
theorem StD.low (S : StD K d gm s) : K.B ≤ s.heap.objs.size := by
  obtain ⟨mem, F, S⟩ := S
  exact S.low
end
section
variable {K : Top} (Y : Sys K) {d : DM} {gm : GMem} {s : Shared} {c : Code} {p : Pos} {fs : List Frame}
theorem Sys.step1 {t : Sem Fin} {s' : Shared} {th : Thread} (h : (model K.prog K.w).step s ⟨t, c, p, fs⟩ = .go s' th) (next : Y.H s' th) : Y.H s ⟨t, c, p, fs⟩ := Y.back (.step h (.refl _ _)) next
theorem Sys.load1 {a : Addr} {o : OD} (h : (a, o) ∈ d) {part : Option Value} {k : Obj → Sem Fin} (S : StD K d gm s) (next : ∀ τ n, Y.H s ⟨k (o.obj K.w.params τ n), c, p, fs⟩) : Y.H s ⟨.load a part k, c, p, fs⟩ := by
  obtain ⟨τ, n, e⟩ := S.get h
  exact Y.step1 (step_load _ _ _ _ _ _ _ e) (next τ n)
theorem Sys.upd1 {a : Addr} {o o' : OD} {part : Option Value} {f : Obj → Obj} {k : Unit → Sem Fin} (S : StD K ((a, o) :: d) gm s) (hf : ∀ τ n, ∃ τ' n', f (o.obj K.w.params τ n) = o'.obj K.w.params τ' n') (hfr : ∀ τ n, (o'.obj K.w.params τ n).isFreed = false)
    (next : ∀ s', StD K ((a, o') :: d) gm s' → Y.H s' ⟨k (), c, p, fs⟩) : Y.H s ⟨.update a part f k, c, p, fs⟩ := by
  obtain ⟨τ, n, e⟩ := S.get (List.mem_cons_self ..)
  exact Y.step1 (step_update _ _ _ _ _ _ _ _ (by rw [e]; rfl)) (next _ (S.upd hf hfr))
theorem Sys.stack1 {k : List (Code × Pos) → Sem Fin} (next : Y.H s ⟨k ((c, p) :: fs.map Frame.where_), c, p, fs⟩) : Y.H s ⟨.stack k, c, p, fs⟩ := Y.step1 (step_stack _ _ _ _ _ _) next
theorem Sys.updFrq {a : Addr} {kvs : List (List Nat × VD)} (h : (a, .frq kvs) ∈ d) {part : Option Value} {k : Unit → Sem Fin} {g : Obj → Array (Option Value)} (S : StD K d gm s)
    (next : ∀ s', StD K d gm s' → Y.H s' ⟨k (), c, p, fs⟩) : Y.H s ⟨.update a part (fun o => { o with slots := g o }) k, c, p, fs⟩ := by
  obtain ⟨l1, l2, rfl⟩ := List.append_of_mem h
  have q : (l1 ++ (a, OD.frq kvs) :: l2).Perm ((a, OD.frq kvs) :: (l1 ++ l2)) := List.perm_middle
  refine Y.upd1 (S.perm q) (o' := .frq kvs) (fun τ n => ⟨τ, ⟨n.n, g (OD.obj K.w.params τ n (OD.frq kvs))⟩, rfl⟩) (fun τ n => rfl) fun s' S' => next s' (S'.perm q.symm)
noncomputable def EnvOk (d : DM) (env : Env) : Prop := env.scope.kind ≠ .module ∧ ∃ f kvs, env.frame = some f ∧ (f, OD.frq kvs) ∈ d
theorem notImport {env : Env} (h : env.scope.kind ≠ .module) (outer : List Env) : behindIsImport env outer = pure false := by
  unfold behindIsImport
  have : (env.scope.kind != ScopeKind.module || outer.isEmpty) = true := by
    rw [Bool.or_eq_true]; left
    exact bne_iff_ne.mpr h
  rw [if_pos this]
theorem ready_cons {env : Env} {f : Addr} (hf : env.frame = some f) (h : env.scope.kind ≠ .module) (outer : List Env) : readyFrames (env :: outer) = (load f >>= fun o => if (o.slots.getD 3 none).isSome then pure () else keptBack env false outer >>= fun back =>
    update f (fun o => { o with slots := #[some env.code, some (.ref env.globals), o.slots.getD 2 none, some back, o.slots.getD 4 none, env.func.map Value.ref, some (.ref env.builtins)] ++ (env.cells.map fun c => some (.ref c.2)).toArray }) >>= fun _ => readyFrames outer) := by
  conv => lhs; unfold readyFrames
  simp only [hf, notImport h, pure_bind]
theorem Sys.kept (env : Env) (outer : List Env) {R : Value → Sem Fin} (next : ∀ v, Y.H s ⟨R v, c, p, fs⟩) : Y.H s ⟨keptBack env false outer >>= R, c, p, fs⟩ := by
  cases outer with
  | nil =>
    unfold keptBack
    cases (env.scope.isGenerator || env.scope.isCoroutine) with
    | true => exact next _
    | false => exact Y.stack1 (next _)
  | cons x r => exact next _
theorem Sys.ready {R : Unit → Sem Fin} : ∀ (l : List Env), (∀ env ∈ l, EnvOk d env) → ∀ {s : Shared}, StD K d gm s → (∀ s', StD K d gm s' → Y.H s' ⟨R (), c, p, fs⟩) → Y.H s ⟨readyFrames l >>= R, c, p, fs⟩
  | [], _, s, S, next => next s S
  | env :: outer, h, s, S, next => by
    obtain ⟨hk, f, kvs, hf, hm⟩ := h env (List.mem_cons_self ..)
    rw [ready_cons hf hk, bind_assoc]
    refine Y.load1 hm S fun τ n => ?_
    show Y.H s ⟨(if ((OD.obj K.w.params τ n (.frq kvs)).slots.getD 3 none).isSome = true then pure () else _) >>= R, c, p, fs⟩
    split
    · exact next s S
    · rw [bind_assoc]
      refine Y.kept env outer fun v => ?_
      rw [bind_assoc]
      exact Y.updFrq hm S fun s' S' => Sys.ready outer (fun e he => h e (List.mem_cons_of_mem _ he)) S' next
noncomputable def envsOf (acts : List (Code × Pos)) : List Env := (acts.filter (·.1.isFrame)).filterMap (·.1.env?)
structure StkOk (d : DM) (f : Addr) (acts : List (Code × Pos)) : Prop where
  head : ∃ e r, envsOf acts = e :: r ∧ e.frame = some f
  all : ∀ e ∈ envsOf acts, EnvOk d e
theorem Sys.frOf {env : Env} {f : Addr} (hf : env.frame = some f) (ho : StkOk d f ((c, p) :: fs.map Frame.where_)) {R : Value → Sem Fin} (S : StD K d gm s) (next : ∀ s', StD K d gm s' → Y.H s' ⟨R (.ref f), c, p, fs⟩) : Y.H s ⟨PySem.frameOf env >>= R, c, p, fs⟩ := by
  unfold PySem.frameOf frameEnvs
  simp only [bind_assoc, pure_bind]
  refine Y.stack1 ?_
  obtain ⟨⟨e, r, he, hef⟩, hall⟩ := ho
  rw [envsOf] at he hall
  show Y.H s ⟨((frameObject (List.dropWhile _ (List.filterMap (fun x => x.1.env?) (List.filter (fun x => x.1.isFrame) ((c, p) :: fs.map Frame.where_))))) >>= fun x => _ >>= R), c, p, fs⟩
  rw [he]
  have : List.dropWhile (fun x => x.frame != env.frame) (e :: r) = e :: r := by
    rw [List.dropWhile_cons_of_neg]
    rw [hef, hf]; simp
  rw [this]
  unfold frameObject
  rw [bind_assoc]
  refine Y.ready (e :: r) (fun x hx => hall x (he ▸ hx)) S fun s' S' => ?_
  rw [hef]
  exact next s' S'
structure Six where
  a : Value
  b : Value
  c : Value
  d : Value
  e : Value
  f : Value
noncomputable def tbO (nx fr fl : Value) (v : Six) : Obj := ⟨.type "traceback", none, .fields ⟨[nx, fr, .none, fl, .none, v.a, v.b, v.c, v.d, v.e, v.f]⟩, #[]⟩
noncomputable def excO (dc ar : Addr) (tb : Value) : Obj := ⟨.ref 111, some dc, .fields ⟨[.ref ar, tb, .none, .none, .bool false, .none]⟩, #[]⟩
theorem Sys.place (f : Addr) (b : Bool) {R : List Value → Sem Fin} (next : ∀ pl, (∃ v : Six, (if pl.isEmpty then List.replicate 6 .none else pl) = [v.a, v.b, v.c, v.d, v.e, v.f]) → Y.H s ⟨R pl, c, p, fs⟩) : Y.H s ⟨entryPlaceOf f b >>= R, c, p, fs⟩ := by
  unfold entryPlaceOf
  rw [bind_assoc]
  refine Y.stack1 ?_
  have none6 : ∃ v : Six, (if ([] : List Value).isEmpty then List.replicate 6 .none else ([] : List Value)) = [v.a, v.b, v.c, v.d, v.e, v.f] := ⟨⟨.none, .none, .none, .none, .none, .none⟩, rfl⟩
  simp only [Sem.bind]
  split
  · rename_i pos _
    rw [pure_bind]
    cases pos.line == 0 with
    | true => exact next [] none6
    | false =>
      refine next _ ?_
      unfold EntryCells.cells
      cases EntryCells.beneath f ((c, p) :: fs.map Frame.where_) with
      | none => exact ⟨⟨rawInt pos.line, rawInt pos.endLine, rawInt pos.col, rawInt pos.endCol, .none, .bool b⟩, rfl⟩
      | some ids => exact ⟨⟨rawInt pos.line, rawInt pos.endLine, rawInt pos.col, rawInt pos.endCol, if (EntryCells.make ids).length > sizeLine then Value.none else Value.str (EntryCells.make ids) 0, .bool b⟩, rfl⟩
  · exact next [] none6
theorem Sys.alloc1 {o : Obj} {k : Addr → Sem Fin} (S : StD K d gm s) (hf : o.isFreed = false) (next : ∀ s' a, K.B ≤ a → a < s'.heap.objs.size → StD K ((a, .raw o) :: d) gm s' → Y.H s' ⟨k a, c, p, fs⟩) : Y.H s ⟨.alloc o k, c, p, fs⟩ :=
  Y.step1 (step_alloc _ _ _ _ _ _ _) (next _ _ S.low (by show _ < (s.heap.push o).objs.size; rw [Heap.size_push]; exact Nat.lt_succ_self _) (S.alloc hf))
theorem Sys.entry {e f dc ar : Addr} {hd : Value} {env : Env} (hf : env.frame = some f) (ho : StkOk d f ((c, p) :: fs.map Frame.where_)) {R : Unit → Sem Fin} (S : StD K ((e, .raw (excO dc ar hd)) :: d) gm s)
    (next : ∀ s' t v, K.B ≤ t → t < s'.heap.objs.size → StD K ((t, .raw (tbO hd (.ref f) (rawInt f) v)) :: (e, .raw (excO dc ar (.ref t))) :: d) gm s' → Y.H s' ⟨R (), c, p, fs⟩) (b : Bool) :
    Y.H s ⟨(PySem.frameOf env >>= fun fr => entryPlaceOf f b >>= fun pl => EntryCells.newEntry hd fr .none (rawInt f) .none pl >>= fun x => setField (.ref e) 1 x) >>= R, c, p, fs⟩ := by
  rw [bind_assoc]
  have ho' : StkOk ((e, .raw (excO dc ar hd)) :: d) f ((c, p) :: fs.map Frame.where_) := ⟨ho.1, fun x hx => by
    obtain ⟨h1, f', kvs, h2, h3⟩ := ho.2 x hx
    exact ⟨h1, f', kvs, h2, List.mem_cons_of_mem _ h3⟩⟩
  refine Y.frOf hf ho' S fun s1 S1 => ?_
  rw [bind_assoc]
  refine Y.place f b fun pl hpl => ?_
  obtain ⟨v, hv⟩ := hpl
  rw [bind_assoc]
  unfold EntryCells.newEntry
  rw [hv]
  refine Y.alloc1 (o := tbO hd (.ref f) (rawInt f) v) S1 rfl fun s2 t h1 h2 S2 => ?_
  have S3 := S2.perm (d' := (e, .raw (excO dc ar hd)) :: (t, .raw (tbO hd (.ref f) (rawInt f) v)) :: d) (List.Perm.swap ..)
  refine Y.load1 (List.mem_cons_self ..) S3 fun τ n => ?_
  refine Y.upd1 S3 (o' := .raw (excO dc ar (.ref t))) (fun _ _ => ⟨τ, n, rfl⟩) (fun _ _ => rfl) fun s4 S4 => ?_
  exact next s4 t v h1 (S4.lt (List.mem_cons_of_mem _ (List.mem_cons_self ..))) (S4.perm (List.Perm.swap ..))
theorem StkOk.mono {d d' : DM} {f : Addr} {acts : List (Code × Pos)} (h : StkOk d f acts) (hd : ∀ x ∈ d, x ∈ d') : StkOk d' f acts := ⟨h.1, fun x hx => by
  obtain ⟨h1, f', kvs, h2, h3⟩ := h.2 x hx
  exact ⟨h1, f', kvs, h2, hd _ h3⟩⟩
theorem Sys.note0 {e f dc ar : Addr} {env : Env} (hf : env.frame = some f) (ho : StkOk d f ((c, p) :: fs.map Frame.where_)) {R : Unit → Sem Fin} (S : StD K ((e, .raw (excO dc ar .none)) :: d) gm s)
    (next : ∀ s' t v, K.B ≤ t → t < s'.heap.objs.size → StD K ((t, .raw (tbO .none (.ref f) (rawInt f) v)) :: (e, .raw (excO dc ar (.ref t))) :: d) gm s' → Y.H s' ⟨R (), c, p, fs⟩) :
    Y.H s ⟨noteFrame (.ref e) env >>= R, c, p, fs⟩ := by
  unfold noteFrame
  simp only [hf]
  rw [bind_assoc]
  refine Y.load1 (List.mem_cons_self ..) S fun τ n => ?_
  exact Y.entry hf ho S next _
theorem Sys.note1 {e f dc ar t0 : Addr} {nx fr : Value} {v0 : Six} {env : Env} (hf : env.frame = some f) (ho : StkOk d f ((c, p) :: fs.map Frame.where_)) {R : Unit → Sem Fin} (S : StD K ((t0, .raw (tbO nx fr .none v0)) :: (e, .raw (excO dc ar (.ref t0))) :: d) gm s)
    (next : ∀ s' t v, K.B ≤ t → t < s'.heap.objs.size → StD K ((t, .raw (tbO (.ref t0) (.ref f) (rawInt f) v)) :: (e, .raw (excO dc ar (.ref t))) :: d) gm s' → Y.H s' ⟨R (), c, p, fs⟩) :
    Y.H s ⟨noteFrame (.ref e) env >>= R, c, p, fs⟩ := by
  unfold noteFrame
  simp only [hf]
  rw [bind_assoc]
  refine Y.load1 (List.mem_cons_of_mem _ (List.mem_cons_self ..)) S fun τ n => ?_
  refine Y.load1 (List.mem_cons_self ..) S fun τ n => ?_
  refine Y.load1 (List.mem_cons_self ..) S fun τ n => ?_
  refine Y.upd1 S (o' := .raw (tbO nx fr .none v0)) (fun _ _ => ⟨τ, n, rfl⟩) (fun _ _ => rfl) fun s4 S4 => ?_
  have S5 := S4.perm (d' := (e, .raw (excO dc ar (.ref t0))) :: (t0, .raw (tbO nx fr .none v0)) :: d) (List.Perm.swap ..)
  refine Y.entry hf (ho.mono fun x hx => List.mem_cons_of_mem _ hx) S5 (fun s' t v h1 h2 S' => next s' t v h1 h2 ?_) _
  have S6 := S'.perm (d' := ((t, .raw (tbO (.ref t0) (.ref f) (rawInt f) v)) :: (e, .raw (excO dc ar (.ref t))) :: d) ++ [(t0, .raw (tbO nx fr .none v0))]) (by
    refine .cons _ (.cons _ ?_)
    exact (List.perm_append_comm (l₁ := [_]) (l₂ := d)))
  exact S6.drop
theorem Sys.noteSame {e f dc ar t0 : Addr} {nx fr : Value} {v0 : Six} {env : Env} (hf : env.frame = some f) {R : Unit → Sem Fin} (S : StD K ((t0, .raw (tbO nx fr (rawInt f) v0)) :: (e, .raw (excO dc ar (.ref t0))) :: d) gm s)
    (next : Y.H s ⟨R (), c, p, fs⟩) : Y.H s ⟨noteFrame (.ref e) env >>= R, c, p, fs⟩ := by
  unfold noteFrame
  simp only [hf]
  rw [bind_assoc]
  refine Y.load1 (List.mem_cons_of_mem _ (List.mem_cons_self ..)) S fun τ n => ?_
  refine Y.load1 (List.mem_cons_self ..) S fun τ n => ?_
  show Y.H s ⟨(if (rawInt f == rawInt f) = true then pure () else _) >>= R, c, p, fs⟩
  rw [if_pos (by simp)]
  exact next
end
end Mine
end
section
set_option maxRecDepth 100000
namespace Mine
open PySem PySem.W PySem.W.X
variable {prog : Program} {w : World}
noncomputable def c_strit : String := PySem.W.SZ.s13500813778147066322x18
noncomputable def sitO (x : Str) (t : Tok) (k : Int) : Obj := ⟨.type c_strit, none, .fields ⟨[.str x t, .int k 0]⟩, #[]⟩
noncomputable def sitD (k : Int) : Obj := ⟨.type c_strit, none, .fields ⟨[.none, .int k 0]⟩, #[]⟩
noncomputable def spSIter (x : Str) (t : Tok) : Spec := ⟨callB "str.__iter__" [.str x t], [], [], fun _ n => .ok (.ret (.ref n)), 0, fun _ => [sitO x t 0], false⟩
noncomputable def spSNext (it : Addr) (i : Nat) (x : Str) (t : Tok) (k : Nat) (c : Nat) : Spec := ⟨callB "str_ascii_iterator.__next__" [.ref it], [(i, it, sitO x t k)], [(i, it, sitO x t (k + 1))], fun tk _ => .ok (.ret (.str ⟨⟨[c]⟩⟩ tk)), 1, fun _ => [], false⟩
noncomputable def spSEnd (it : Addr) (i : Nat) (x : Str) (t : Tok) (k : Nat) : Spec := ⟨callB "str_ascii_iterator.__next__" [.ref it], [(i, it, sitO x t k)], [(i, it, sitD k)], fun _ b => .error (.ref (b + 1)), 0, stopO, true⟩
theorem ty_sit {s : Shared} {l : Addr} {x : Str} {t : Tok} {k : Int} (h : s.heap.get? l = some (sitO x t k)) : s.TypeIs (.ref l) "str_ascii_iterator" := ⟨_, h, rfl⟩
theorem meets_siter (x : Str) (t : Tok) (ha : x.cps.all (· < 128) = true) :
    Meets (Builtin.«str.__iter__» ⟨[.str x t], []⟩) (fun _ R s => R (.ok (.ret (.ref s.heap.objs.size))) { s with heap := s.heap.push (sitO x t 0) }) := by
  intro prog w A R s h
  show wpAny _ _ (do ret (← newFields (if (true && x.cps.all (· < 128)) = true then "str_ascii_iterator" else "str_iterator") [.str x t, rawInt 0])) _ _ s
  rw [ha]
  exact wpAny_bind (wpAny_newObj_type (wpAny_pure h))
theorem sok_siter (x : Str) (t : Tok) (ha : x.cps.all (· < 128) = true) : SpecOK (model prog w) (spSIter x t) :=
  sok_meets (S := spSIter x t) (meets_siter x t ha) F.slot_str_iter.plain F.entry_str_iter rfl (chk_slot F.slot_str_iter (F.args_str_iter_1 _) fun s _ => ty_str s x t)
    fun _ _ s _ _ hR => hR _ ⟨⟨s.heap, ⟨rfl, fun _ => rfl⟩, rfl⟩, rfl, rfl, rfl, rfl⟩
theorem meets_snext (it : Addr) (x : Str) (t : Tok) (k c : Nat) (hx : x.cps[k]? = some c) :
    Meets (Builtin.«str_ascii_iterator.__next__» ⟨[.ref it], []⟩) (fun _ R s => s.heap.get? it = some (sitO x t k) ∧ R (.ok (.ret (.str ⟨#[c]⟩ s.toks))) { s with heap := s.heap.update it (Obj.mapFields fun x => x.set! 1 (rawInt (k + 1))), toks := s.toks + 1 }) := by
  intro prog w A R s ⟨ho, h⟩
  have hd : (sitO x t k).data = .fields #[.str x t, .int k 0] := rfl
  show wpAny _ _ (field (.ref it) 0 >>= _) _ _ s
  refine wpAny_bind (wpAny_field ho hd (x := .str x t) rfl ?_)
  show wpAny _ _ (field (.ref it) 1 >>= _) _ _ s
  refine wpAny_bind (wpAny_field ho hd (x := .int k 0) rfl ?_)
  simp only [Int.toNat_natCast, hx]
  exact wpAny_bind (wpAny_setField ho hd (by simp) (wpAny_bind (wpAny_mkStr (wpAny_pure h) (by show 1 ≤ sizeLine; decide))))
theorem sok_snext (it : Addr) (i : Nat) (x : Str) (t : Tok) (k c : Nat) (hx : x.cps[k]? = some c) : SpecOK (model prog w) (spSNext it i x t k c) :=
  sok_meets (S := spSNext it i x t k c) (meets_snext it x t k c hx) F.slot_str_ascii_iterator_next.plain F.entry_str_ascii_iterator_next rfl (chk_slot F.slot_str_ascii_iterator_next (F.args_str_ascii_iterator_next_1 _) fun _ hp => ty_sit (hp _ (List.mem_cons_self ..)))
    fun _ _ s hp _ hR => ⟨hp _ (List.mem_cons_self ..), hR _ ⟨⟨_, heap_upd (i := i) (o' := sitO x t (k + 1)) (hp _ (List.mem_cons_self ..)) rfl rfl, rfl⟩, rfl, rfl, rfl, rfl⟩⟩
theorem meets_send (it : Addr) (x : Str) (t : Tok) (k : Nat) (hx : x.cps[k]? = none) :
    Meets (Builtin.«str_ascii_iterator.__next__» ⟨[.ref it], []⟩) (fun A R s => A.handled = none ∧ s.heap.get? it = some (sitO x t k) ∧
      R (.error (.ref (s.heap.objs.size + 1))) { s with heap := pushAll (s.heap.update it (Obj.mapFields fun x => x.set! 0 .none)) (stopO s.heap.objs.size) }) := by
  intro prog w A R s ⟨hh, ho, h⟩
  have hd : (sitO x t k).data = .fields #[.str x t, .int k 0] := rfl
  show wpAny _ _ (field (.ref it) 0 >>= _) _ _ s
  refine wpAny_bind (wpAny_field ho hd (x := .str x t) rfl ?_)
  show wpAny _ _ (field (.ref it) 1 >>= _) _ _ s
  refine wpAny_bind (wpAny_field ho hd (x := .int k 0) rfl ?_)
  simp only [Int.toNat_natCast, hx]
  refine wpAny_bind (wpAny_rule (wpAny_bind (wpAny_setField ho hd (by simp) (wpAny_bind (wpAny_letGo ?_)))))
  show wpAny _ _ (newExc (.type "StopIteration") [] >>= _) _ _ _
  refine wpAny_bind ?_
  simp only [newExc, newTuple]
  refine wpAny_bind (wpAny_newObj_type ?_ (by size_fits))
  refine wpAny_bind (m := firstArgMember _ _) (wpAny_of_eq (a := Value.none) (by first | rfl | (simp only [firstArgMember]; rfl)) ?_)
  refine wpAny_newObj_type ?_ (by size_fits)
  simp only [raiseNew]
  refine wpAny_bind (wpAny_handled ?_)
  rw [show A.in1.handled = none from hh]
  refine wpAny_bind (wpAny_pure (wpAny_throw ?_))
  have e : (s.heap.update it (Obj.mapFields fun x => x.setIfInBounds 0 .none)).objs.size = s.heap.objs.size := (Heap.SameBut.update ..).1
  rw [Heap.size_push, e]
  exact h
theorem sok_send (it : Addr) (i : Nat) (x : Str) (t : Tok) (k : Nat) (hx : x.cps[k]? = none) : SpecOK (model prog w) (spSEnd it i x t k) :=
  sok_meets (S := spSEnd it i x t k) (meets_send it x t k hx) F.slot_str_ascii_iterator_next.plain F.entry_str_ascii_iterator_next rfl (chk_slot F.slot_str_ascii_iterator_next (F.args_str_ascii_iterator_next_1 _) fun _ hp => ty_sit (hp _ (List.mem_cons_self ..)))
    fun _ _ _ hp hc hR => ⟨hc rfl, hp _ (List.mem_cons_self ..), hR _
      ⟨⟨_, heap_upd (i := i) (o' := sitD k) (hp _ (List.mem_cons_self ..)) rfl rfl, rfl⟩, rfl, rfl, rfl, rfl⟩⟩
theorem ok_send {K : Top} (it : Addr) (i : Nat) (x : Str) (t : Tok) (k : Nat) (hx : x.cps[k]? = none) : OkS K (spSEnd it i x t k) :=
  ⟨sok_send it i x t k hx, fun x hx => by cases List.mem_singleton.mp hx; rfl, fun b o ho => by
    have ho : o ∈ stopO b := ho
    unfold stopO at ho
    rcases List.mem_cons.mp ho with rfl | ho
    · rfl
    · cases List.mem_singleton.mp ho; rfl⟩
theorem oka {K : Top} {S : Spec} {o : Nat → Obj} (hp : S.post = []) (hn : S.new = fun b => [o b]) (hf : ∀ b, (o b).isFreed = false) (h : SpecOK (model K.prog K.w) S) : OkS K S :=
  ⟨h, fun x hx => (by rw [hp] at hx; cases hx), fun b q hq => by rw [hn] at hq; cases List.mem_singleton.mp hq; exact hf b⟩
theorem ok_ladd {K : Top} (l b : Addr) (i j : Nat) (xs : Array Value) (n : Nat) (ys : Array Value) (m : Nat) (h : xs.size + ys.size ≤ sizeLine) : OkS K (spLAdd l b i j xs n ys m) := oka rfl rfl (fun _ => rfl) (sok_radd l b i j xs n ys m h)
theorem ok_riter {K : Top} (r : Addr) (j : Nat) (a : Int) (t : Tok) (b : Int) (u v : Tok) (ha : 0 ≤ a) (hab : a ≤ b) (hb : b < 1000) : OkS K (spRIter r j a t b u v) := oka rfl rfl (fun _ => rfl) (sok_riter r j a t b u v ha hab hb)
theorem ok_siter {K : Top} (x : Str) (t : Tok) (ha : x.cps.all (· < 128) = true) : OkS K (spSIter x t) := oka rfl rfl (fun _ => rfl) (sok_siter x t ha)
noncomputable def slO (vl vu : Value) : Obj := ⟨.type c_slice, none, .fields ⟨[vl, vu, .none]⟩, #[]⟩
noncomputable def spSlice (l sl : Addr) (i j : Nat) (xs : Array Value) (n : Nat) (vl vu : Value) (ys : Array Value) : Spec := ⟨callB "list.__getitem__" [.ref l, .ref sl], [(i, l, listO xs n), (j, sl, slO vl vu)], [], fun _ b => .ok (.ret (.ref b)), 0, fun _ => [listO ys 0], false⟩
noncomputable def SliceIs (xs : Array Value) (vl vu : Value) (ys : Array Value) : Prop := ∃ lo hi, IsPart vl lo ∧ IsPart vu hi ∧ xs.size ≤ sizeLine ∧ slicePick xs lo hi none = ys
theorem meets_slice (l sl : Addr) (items : Array Value) (n : Nat) (vl vu : Value) (lo hi : Option Int) (pl : IsPart vl lo) (pu : IsPart vu hi) (hsz : items.size ≤ sizeLine) :
    Meets (Builtin.«list.__getitem__» ⟨[.ref l, .ref sl], []⟩) (fun _ R s => s.heap.get? l = some (listO items n) ∧ s.heap.get? sl = some (slO vl vu) ∧ R (.ok (.ret (.ref s.heap.objs.size))) { s with heap := s.heap.push (listO (slicePick items lo hi none) 0) }) := by
  intro prog w A R s ⟨ho, hos, h⟩
  have hd : (listO items n).data = .seq items n := rfl
  have hds : (slO vl vu).data = .fields #[vl, vu, .none] := rfl
  have hTs : s.TypeIs (.ref sl) "slice" := ⟨_, hos, rfl⟩
  show wpAny _ _ (Builtin.List.listSubscript? (.ref sl) >>= _) _ _ s
  refine wpAny_bind ?_
  · unfold Builtin.List.listSubscript?
    refine wpAny_bind (wpAny_specialOf hTs slice_no_index ?_)
    simp only [Option.isNone_none, if_true]
    refine wpAny_pure ?_
    show wpAny _ _ (typeOf (.ref sl) >>= _) _ _ s
    refine wpAny_bind (wpAny_typeOf hTs ?_)
    rw [if_neg (by decide)]
    rw [listSliceParts_eq]
    refine wpAny_bind (wpAny_bind (wpAny_field hos hds (x := .none) rfl (wpAny_bind (wpAny_listPart .none ?_))))
    rw [if_neg (show ¬ ((rawPart none == rawInt 0) = true) from Bool.false_ne_true)]
    refine wpAny_bind (wpAny_field hos hds (x := vl) rfl (wpAny_bind (wpAny_listPart pl ?_)))
    refine wpAny_bind (wpAny_field hos hds (x := vu) rfl (wpAny_bind (wpAny_listPart pu (wpAny_pure ?_))))
    refine wpAny_bind (m := Builtin.List.listItems (.ref l)) ?_
    · unfold Builtin.List.listItems
      refine wpAny_bind (wpAny_seqItems ho hd (wpAny_pure ?_))
      refine wpAny_bind (wpAny_of_eq (sliceIndices_raw lo hi none items.size (by simp)) ?_)
      exact wpAny_bind (wpAny_newObj_type (wpAny_pure h) (Nat.le_trans (slicePick_size_le items lo hi none) hsz))
theorem ok_slice {K : Top} (l sl : Addr) (i j : Nat) (xs : Array Value) (n : Nat) (vl vu : Value) (ys : Array Value) (h : SliceIs xs vl vu ys) : OkS K (spSlice l sl i j xs n vl vu ys) := by
  obtain ⟨lo, hi, pl, pu, hsz, rfl⟩ := h
  exact oka rfl rfl (fun _ => rfl) (sok_meets (S := spSlice l sl i j xs n vl vu _) (meets_slice l sl xs n vl vu lo hi pl pu hsz) F.slot_list_getitem.plain F.entry_list_getitem rfl (chk_slot F.slot_list_getitem (F.args_list_getitem_2 _ _) fun _ hp => ty_list (hp _ (List.mem_cons_self ..)))
    fun _ _ s hp _ hR => ⟨hp _ (List.mem_cons_self ..), hp _ (List.mem_cons_of_mem _ (List.mem_cons_self ..)), hR _ ⟨⟨s.heap, ⟨rfl, fun _ => rfl⟩, rfl⟩, rfl, rfl, rfl, rfl⟩⟩)
noncomputable def wtok (wh : Bool) (t u : Tok) : Tok := match wh with | true => t | false => u
noncomputable def wdt (wh : Bool) : Nat := match wh with | true => 0 | false => 1
noncomputable def spSSlice (x : Str) (t : Tok) (sl : Addr) (j : Nat) (vl vu : Value) (y : Str) (wh : Bool) : Spec := ⟨callB "str.__getitem__" [.str x t, .ref sl], [(j, sl, slO vl vu)], [], fun u _ => .ok (.ret (.str y (wtok wh t u))), wdt wh, fun _ => [], false⟩
noncomputable def SSliceIs (x : Str) (vl vu : Value) (y : Str) (wh : Bool) : Prop := ∃ l u : Option (Int × Tok), vl = partValue l ∧ vu = partValue u ∧ y.length ≤ sizeLine ∧
  match wh with
  | true => y = x ∧ (slicePicked x l u none).length = x.length
  | false => y = ⟨((slicePicked x l u none).filterMap (x.cps[·]?)).toArray⟩ ∧ (slicePicked x l u none).length ≠ x.length
theorem ok_sslice {K : Top} (x : Str) (t : Tok) (sl : Addr) (j : Nat) (vl vu : Value) (y : Str) (wh : Bool) (h : SSliceIs x vl vu y wh) : OkS K (spSSlice x t sl j vl vu y wh) := by
  obtain ⟨l, u, rfl, rfl, hy, h⟩ := h
  refine okr rfl rfl (sok_meets (S := spSSlice x t sl j _ _ y wh) (meets_str_getitem_slice x t sl l u none rfl) F.slot_str_getitem.plain F.entry_str_getitem rfl (chk_slot F.slot_str_getitem (F.args_str_getitem_2 _ _) fun s _ => ty_str s x t)
    fun _ _ s hp _ hR => ⟨⟨_, hp _ (List.mem_cons_self ..), rfl, rfl⟩, ?_⟩)
  unfold sliceMade
  have e1 : ((Option.map (fun x : Int × Tok => x.1) none).getD 1 == 1) = true := rfl
  rw [e1, Bool.true_and]
  cases wh with
  | true =>
    obtain ⟨rfl, h2⟩ := h
    rw [if_pos (by simpa using h2)]
    exact hR _ ⟨⟨s.heap, ⟨rfl, fun _ => rfl⟩, rfl⟩, rfl, rfl, rfl, rfl⟩
  | false =>
    obtain ⟨h1, h2⟩ := h
    rw [if_neg (by simpa using h2), ← h1]
    exact ⟨hy, hR _ ⟨⟨s.heap, ⟨rfl, fun _ => rfl⟩, rfl⟩, rfl, rfl, rfl, rfl⟩⟩
noncomputable def jtok : List (Str × Tok) → Tok → Tok
  | [], u => u
  | p :: r, u => match r with
    | [] => p.2
    | _ :: _ => u
noncomputable def jdt : List (Str × Tok) → Nat
  | [] => 1
  | _ :: r => match r with
    | [] => 0
    | _ :: _ => 1
noncomputable def glue0 : List (Str × Tok) → Str
  | [] => ⟨⟨[]⟩⟩
  | p :: r => match r with
    | [] => p.1
    | q :: r => Builtin.Str.glued ⟨⟨[]⟩⟩ (p.1 :: q.1 :: r.map (·.1))
noncomputable def spJoin (t : Tok) (l : Addr) (j : Nat) (vs : List (Str × Tok)) (n : Nat) : Spec := ⟨callB "str.join" [.str ⟨⟨[]⟩⟩ t, .ref l], [(j, l, listO (strValues vs).toArray n)], [], fun u _ => .ok (.ret (.str (glue0 vs) (jtok vs u))), jdt vs, fun _ => [], false⟩
noncomputable def JoinOk (vs : List (Str × Tok)) : Prop := (glue0 vs).length ≤ sizeLine ∧ Builtin.Str.tooLong ((vs.map (·.1)).toArray.foldl (· + ·.length + (⟨⟨[]⟩⟩ : Str).length) 0) = false
theorem ok_join {K : Top} (t : Tok) (l : Addr) (j : Nat) (vs : List (Str × Tok)) (n : Nat) (h : JoinOk vs) : OkS K (spJoin t l j vs n) := by
  refine okr rfl rfl (sok_meets (S := spJoin t l j vs n) (meets_str_join_list ⟨⟨[]⟩⟩ t l vs h.2) F.slot_str_join.plain F.entry_str_join rfl (chk_slot F.slot_str_join (F.args_str_join_2 _ _) fun s _ => ty_str s _ t)
    fun _ _ s hp _ hR => ⟨⟨_, hp _ (List.mem_cons_self ..), rfl, _, rfl⟩, ?_⟩)
  have hh : Eff (spJoin t l j vs n) s { s with toks := s.toks + jdt vs } := ⟨⟨s.heap, ⟨rfl, fun _ => rfl⟩, rfl⟩, rfl, rfl, rfl, rfl⟩
  have hR' := hR _ hh
  match vs, h, hR' with
  | [], h, hR' => exact ⟨h.1, hR'⟩
  | [p], h, hR' => exact hR'
  | p :: q :: r, h, hR' => exact ⟨h.1, hR'⟩
theorem sok_pow2 (q : Int) (t u : Tok) (h0 : 0 ≤ q) (h1 : q < 4) : SpecOK (model prog w) (spV (II "int.__pow__" q t 2 u) (.int (q * q)) 1) := by
  have h : q = 0 ∨ q = 1 ∨ q = 2 ∨ q = 3 := by omega
  rcases h with rfl | rfl | rfl | rfl <;>
  exact sok_int (by first | exact .of_eq rfl | exact .rule (.of_eq rfl) | exact .rule (.rule (.of_eq rfl))) F.slot_int_pow.plain F.entry_int_pow (chk_slot F.slot_int_pow (F.args_int_pow_2 _ _) fun s _ => ty_int s _ t)
theorem sok_ibool (a : Int) (t : Tok) : SpecOK (model prog w) (spV (callB "int.__bool__" [.int a t]) (.bool (a != 0)) 0) :=
  sok_bool (gives_int_bool a t) F.slot_int_bool.plain F.entry_int_bool (chk_slot F.slot_int_bool (F.args_int_bool_1 _) fun s _ => ty_int s a t)
theorem sok_sadd0 (y : Str) (t u : Tok) : SpecOK (model prog w) (spV (SS "str.__add__" ⟨⟨[]⟩⟩ t y u) (.raw (.str y u)) 0) :=
  sok_gives (m := .val (.str y u)) (gives_str_add ⟨⟨[]⟩⟩ y t u) F.slot_str_add.plain F.entry_str_add (chk_slot F.slot_str_add (F.args_str_add_2 _ _) fun s _ => ty_str s _ t) fun _ _ h => h
theorem sok_sadd (x y : Str) (t u : Tok) (hx : (x.length == 0) = false) (hy : (y.length == 0) = false) (hs : (x ++ y).length ≤ sizeLine) : SpecOK (model prog w) (spV (SS "str.__add__" x t y u) (.str (x ++ y)) 1) :=
  sok_str (by have := gives_str_add x y t u; rw [hx, hy] at this; exact this) hs F.slot_str_add.plain F.entry_str_add (chk_slot F.slot_str_add (F.args_str_add_2 _ _) fun s _ => ty_str s _ t)
noncomputable def partOf : Value → Option Int
  | .int i _ => some i
  | _ => none
noncomputable def isPartV : Value → Bool
  | .int _ _ => true
  | .none => true
  | _ => false
theorem isPart_of : ∀ {v : Value}, isPartV v = true → IsPart v (partOf v)
  | .int i t, _ => .int i t
  | .none, _ => .none
noncomputable def SliceL (xs : Array Value) (lo hi : Option Int) (ys : Array Value) : Prop := xs.size ≤ sizeLine ∧ slicePick xs lo hi none = ys
theorem ok_sliceL {K : Top} (l sl : Addr) (i j : Nat) (xs : Array Value) (n : Nat) (vl vu : Value) (ys : Array Value) {lo hi : Option Int} (h1 : (isPartV vl, partOf vl) = (true, lo)) (h2 : (isPartV vu, partOf vu) = (true, hi)) (h : SliceL xs lo hi ys) : OkS K (spSlice l sl i j xs n vl vu ys) := by
  injection h1 with a1 a2
  injection h2 with b1 b2
  exact ok_slice l sl i j xs n vl vu ys ⟨lo, hi, a2 ▸ isPart_of a1, b2 ▸ isPart_of b1, h.1, h.2⟩
noncomputable def SSliceL (x : Str) (lo hi : Option Int) (y : Str) (wh : Bool) : Prop := y.length ≤ sizeLine ∧
  match wh with
  | true => y = x ∧ (Builtin.Str.strSliceIndices lo hi 1 x.length).length = x.length
  | false => y = ⟨((Builtin.Str.strSliceIndices lo hi 1 x.length).filterMap (x.cps[·]?)).toArray⟩ ∧ (Builtin.Str.strSliceIndices lo hi 1 x.length).length ≠ x.length
theorem partValue_of : ∀ {v : Value} {lo : Option Int}, (isPartV v, partOf v) = (true, lo) → ∃ l : Option (Int × Tok), v = partValue l ∧ l.map (·.1) = lo
  | .int i t, _, h => ⟨some (i, t), rfl, by injection h⟩
  | .none, _, h => ⟨none, rfl, by injection h⟩
theorem ok_ssliceL {K : Top} (x : Str) (t : Tok) (sl : Addr) (j : Nat) (vl vu : Value) (y : Str) (wh : Bool) {lo hi : Option Int} (h1 : (isPartV vl, partOf vl) = (true, lo)) (h2 : (isPartV vu, partOf vu) = (true, hi)) (h : SSliceL x lo hi y wh) : OkS K (spSSlice x t sl j vl vu y wh) := by
  obtain ⟨l, rfl, rfl⟩ := partValue_of h1
  obtain ⟨u, rfl, rfl⟩ := partValue_of h2
  exact ok_sslice x t sl j _ _ y wh ⟨l, u, rfl, rfl, h.1, h.2⟩
noncomputable def spLen (v : Value) (n : Int) : Spec := ⟨callB "len" [v], [], [], fun t _ => .ok (.ret (.int n (t + 1))), 2, fun _ => [], false⟩
theorem chk_len (v : Value) : Chk "len" [v] fun _ => True := fun M A E s Q _ hq => by
  have ha : argsOk "len" ⟨[v], []⟩ := args_len1 v
  simp only [checkBuiltinCall, kind_len]
  cases hsig : Manifest.signature? "len" with
  | none => exact wpAny_pure hq
  | some sig =>
    simp only [argsOk, hsig] at ha
    have h2 : Bind.checkArgs "len" sig ⟨[v], []⟩ = pure () := ha
    show wpAny _ A (Bind.checkArgs "len" sig ⟨[v], []⟩) _ _ s
    rw [h2]; exact wpAny_pure hq
theorem meets_len_str (x : Str) (t : Tok) (hx : (x.length : Int) < 2 ^ 63) :
    Meets (Builtin.«len» ⟨[.str x t], []⟩) (fun _ R s => R (.ok (.ret (.int x.length (s.toks + 1)))) { s with toks := s.toks + 1 + 1 }) := by
  intro prog w A R s h
  unfold Builtin.«len»
  refine wpAny_bind (m := oneArg "len" _) (wpAny_pure ?_)
  refine wpAny_bind (m := callSpecial? (.str x t) (Str.ofString "__len__")) (wpAny_callSpecial?_slot (name := Str.ofString "__len__") (ty_str s x t) F.slot_str_len (call_gives F.slot_str_len (ty_str s x t) F.entry_str_len (F.args_str_len_1 _) (gives_str_len x t) ?_))
  show wpAny _ _ _ _ _ { s with toks := s.toks + 1 }
  refine wpAny_bind (wpAny_holding (wpAny_pure ?_))
  refine wpAny_bind (wpAny_letGo ?_)
  show wpAny _ _ (if (x.length : Int) < 0 then _ else _) _ _ _
  rw [if_neg (by omega)]
  show wpAny _ _ (if (x.length : Int) ≥ 2 ^ 63 then _ else _) _ _ _
  rw [if_neg (by omega)]
  exact wpAny_bind (wpAny_mkInt (wpAny_pure h))
theorem ok_len_str {K : Top} (x : Str) (t : Tok) (hx : (x.length : Int) < 2 ^ 63) : OkS K (spLen (.str x t) x.length) :=
  okr rfl rfl (sok_meets (S := spLen (.str x t) x.length) (meets_len_str x t hx) plain_len entry_len rfl (fun _ _ _ _ _ _ h => chk_len _ _ _ _ _ _ trivial h)
    fun _ _ s _ _ hR => hR _ ⟨⟨s.heap, ⟨rfl, fun _ => rfl⟩, rfl⟩, rfl, rfl, rfl, rfl⟩)
end Mine
end
section
set_option maxRecDepth 100000
namespace Mine
open PySem PySem.W PySem.W.X
variable {prog : Program} {w : World}
noncomputable def spLenL (l : Addr) (j : Nat) (xs : Array Value) (n : Nat) : Spec := ⟨callB "len" [.ref l], [(j, l, listO xs n)], [], fun t _ => .ok (.ret (.int xs.size (t + 1))), 2, fun _ => [], false⟩
theorem meets_len_list (l : Addr) (xs : Array Value) (n : Nat) (hx : (xs.size : Int) < 2 ^ 63) :
    Meets (Builtin.«len» ⟨[.ref l], []⟩) (fun _ R s => s.heap.get? l = some (listO xs n) ∧ R (.ok (.ret (.int xs.size (s.toks + 1)))) { s with toks := s.toks + 1 + 1 }) := by
  intro prog w A R s ⟨ho, h⟩
  have hd : (listO xs n).data = .seq xs n := rfl
  unfold Builtin.«len»
  refine wpAny_bind (m := oneArg "len" _) (wpAny_pure ?_)
  refine wpAny_bind (m := callSpecial? (.ref l) (Str.ofString "__len__")) (wpAny_callSpecial?_slot (name := Str.ofString "__len__") (ty_list ho) slot_list_len
    (wpAny_call_entry slot_list_len (ty_list ho) entry_list_len ?_ (args_list_len _)))
  · show wpAny _ _ (do retInt (← seqSize l)) _ _ s
    unfold seqSize
    refine wpAny_bind (wpAny_bind (wpAny_load ho ?_))
    rw [hd]
    refine wpAny_pure (wpAny_bind (wpAny_mkInt (wpAny_pure ⟨_, rfl, ?_⟩)))
    refine wpAny_bind (wpAny_holding (wpAny_pure ?_))
    refine wpAny_bind (wpAny_letGo ?_)
    show wpAny _ _ (if ((xs.size : Nat) : Int) < 0 then _ else _) _ _ _
    rw [if_neg (by omega)]
    show wpAny _ _ (if ((xs.size : Nat) : Int) ≥ 2 ^ 63 then _ else _) _ _ _
    rw [if_neg (by omega)]
    exact wpAny_bind (wpAny_mkInt (wpAny_pure h))
theorem ok_len_list {K : Top} (l : Addr) (j : Nat) (xs : Array Value) (n : Nat) (hx : (xs.size : Int) < 2 ^ 63) : OkS K (spLenL l j xs n) :=
  okr rfl rfl (sok_meets (S := spLenL l j xs n) (meets_len_list l xs n hx) plain_len entry_len rfl (fun _ _ _ _ _ _ h => chk_len _ _ _ _ _ _ trivial h)
    fun _ _ s hp _ hR => ⟨hp _ (List.mem_cons_self ..), hR _ ⟨⟨s.heap, ⟨rfl, fun _ => rfl⟩, rfl⟩, rfl, rfl, rfl, rfl⟩⟩)
theorem sok_repr (j : Nat) (t : Tok) (h : j < 4) : SpecOK (model prog w) (spV (callB "int.__repr__" [.int (j : Int) t]) (.str ⟨⟨[48 + j]⟩⟩) 1) := by
  have h : j = 0 ∨ j = 1 ∨ j = 2 ∨ j = 3 := by omega
  rcases h with rfl | rfl | rfl | rfl <;>
  exact sok_str (.of_eq rfl) (by decide) F.slot_int_repr.plain F.entry_int_repr (chk_slot F.slot_int_repr (F.args_int_repr_1 _) fun s _ => ty_int s _ t)
theorem ok_laddC {K : Top} (l b : Addr) (i j : Nat) (xs : Array Value) (n : Nat) (ys : Array Value) (a : Option Int) (m : Nat) (h : xs.size ≤ 100) (hy : ys.size ≤ 100) : OkS K (spLAdd l b i j xs n (slicePick ys a none none) m) :=
  ok_ladd l b i j xs n _ m (by have := slicePick_size_le ys a none none; show _ ≤ 2 ^ 24; omega)
theorem ok_sliceC {K : Top} (l sl : Addr) (i j : Nat) (xs : Array Value) (n : Nat) (vl vu : Value) {lo hi : Option Int} (h1 : (isPartV vl, partOf vl) = (true, lo)) (h2 : (isPartV vu, partOf vu) = (true, hi)) (h : xs.size ≤ 100) : OkS K (spSlice l sl i j xs n vl vu (slicePick xs lo hi none)) :=
  ok_sliceL l sl i j xs n vl vu _ h1 h2 ⟨by show _ ≤ 2 ^ 24; omega, rfl⟩
end Mine
end
section
set_option maxRecDepth 100000
namespace Mine
open PySem PySem.W PySem.W.X
noncomputable def tupT : Expr := .Tuple [] default default
noncomputable def loadK {α : Type} (t : Sem α) : Obj → Sem α := match t with | .load _ _ k => k | _ => fun _ => t
noncomputable def enumO (x y : Value) (l : Addr) (j e : Value) : Obj := ⟨.type c_enum, none, .fields ⟨[x, .bool false, .ref l, j, y, e]⟩, #[]⟩
theorem own_true (r u : Addr) (l : Addr) (j e : Value) : loadK (letOwnedTupleGo tupT (.ref r) (.ref u)) (enumO (rawInt u) .none l j e) = (do rule "for.unpacks-the-owned-tuple"; updateField r 0 .none : Sem Unit) := by
  show (if (_ && (some (rawInt u) == some (rawInt u))) = true then _ else _) = _
  have h1 : (some (rawInt u) == some (rawInt u)) = true := by simp
  rw [h1]
  exact if_pos (by decide)
end Mine
end
section
set_option maxRecDepth 100000
set_option maxHeartbeats 0
namespace Mine
open PySem PySem.W PySem.W.X
noncomputable def rowIs (r s : String) : Bool := Nat.beq (S.codeS r) (S.codeS s)
noncomputable def ov (P : Params) (b1 b2 : Bool) : Params := { P with followText := fun r => cond (rowIs r "special-get-raises") b1 (cond (rowIs r "comprehension-iter-twice") b2 (P.followText r)) }
theorem rowIs_iff {r s : String} : rowIs r s = true ↔ r = s := by
  unfold rowIs
  constructor
  · intro h
    exact PySem.code_inj _ _ (by rw [S.code_S, S.code_S]; exact Nat.eq_of_beq_eq_true h)
  · rintro rfl; exact Nat.beq_refl _
theorem ov_eq (P : Params) : P = ov P (P.followText "special-get-raises") (P.followText "comprehension-iter-twice") := by
  have e : P.followText = (ov P (P.followText "special-get-raises") (P.followText "comprehension-iter-twice")).followText := by
    funext r
    show _ = cond (rowIs r "special-get-raises") _ (cond (rowIs r "comprehension-iter-twice") _ _)
    cases h1 : rowIs r "special-get-raises" with
    | true => rw [rowIs_iff.mp h1]; rfl
    | false =>
      cases h2 : rowIs r "comprehension-iter-twice" with
      | true => rw [rowIs_iff.mp h2]; rfl
      | false => rfl
  cases P
  simp only [ov] at e ⊢
  congr
theorem t1 (P : Params) (b1 b2 : Bool) : (ov P b1 b2).followText "special-get-raises" = b1 := by kernel_rfl
theorem t2 (P : Params) (b1 b2 : Bool) : (ov P b1 b2).followText "comprehension-iter-twice" = b2 := by kernel_rfl
end Mine
end
section
set_option maxRecDepth 100000
set_option maxHeartbeats 0
namespace Mine
open PySem PySem.W PySem.W.X
theorem for_shape (tgt : Expr) (it : Value) (body orelse : List Stmt) (env : Env) : ∃ (on : Sem Fin) (rest : Value → Unit → Sem Fin), forTurn tgt it body orelse env =
    (standAt tgt.pos >>= fun _ => (pyNext it).onRaise (fun _ => standAt { tgt.pos with line := 0 }) >>= fun x => match x with | none => on | some v => letOwnedTupleGo tgt it v >>= rest v) := ⟨_, _, rfl⟩
theorem comp_shape (elt tgt iter : Expr) (ifs : List Expr) (gs : List Comprehension) (sc : Scope) (p : Pos) (it acc : Value) (env : Env) : ∃ (rest : Value → Unit → Sem Fin), compTurn (.ListComp elt (⟨tgt, iter, ifs, 0⟩ :: gs) sc p) 0 it acc env =
    (standAt iter.pos >>= fun _ => pyNext it >>= fun x => match x with | none => pure (.done .next) | some v => letOwnedTupleGo tgt it v >>= rest v) := ⟨_, rfl⟩
noncomputable def oNx (V : V) (c : Code) (r : Addr) : Out := run V 3 (denF c) c default [] [(r, enumO .none .none 0 (.int 0 0) .none)] 0 0 [] 0 [.o 0] []
structure RF where
  k : Result → Sem Fin
  g : Bool
  l : List Value
  p : Pos
noncomputable def RF.fr (x : RF) (c : Code) : Frame := .ret x.k none x.g x.l c x.p []
noncomputable def rfOf : List Frame → RF
  | .ret k _ g l _ p _ :: _ => ⟨k, g, l, p⟩
  | _ => ⟨fun _ => .raise .none, false, [], default⟩
noncomputable def rNx (V : V) (c : Code) (r : Addr) : RF := rfOf (oNx V c r).fs
noncomputable def tUx (V : V) (c : Code) (r u : Addr) : Sem Fin := (run V 1 ((rNx V c r).k (.ok (.ret (.ref u)))) c default [] [(r, enumO .none .none 0 (.int 0 0) .none)] 0 0 [] 0 [.o 0] []).t
noncomputable def OwnOk (kk : Sem Fin) (r u : Addr) (t : Sem Fin) : Prop := ∃ K, kk = .load r none K ∧ ∀ l j e, ∃ K2 pt f, K (enumO (rawInt u) .none l j e) = .rule "for.unpacks-the-owned-tuple" (fun _ => .load r none K2) ∧
  K2 (enumO (rawInt u) .none l j e) = .update r pt f (fun _ => t) ∧ f (enumO (rawInt u) .none l j e) = enumO .none .none l j e
theorem own_for (V : V) (el : List Expr) (cx : Nat) (p : Pos) (r u : Addr) (body orelse : List Stmt) (env : Env) :
    OwnOk ((rNx V (.forLoop (.Tuple el cx p) (.ref r) body orelse env) r).k (.ok (.ret (.ref u)))) r u (tUx V (.forLoop (.Tuple el cx p) (.ref r) body orelse env) r u) := by
  obtain ⟨on, rest, h⟩ := for_shape (.Tuple el cx p) (.ref r) body orelse env
  have e : denF (.forLoop (.Tuple el cx p) (.ref r) body orelse env) = (forTurn (.Tuple el cx p) (.ref r) body orelse env).onRaise (fun x => do noteFrame x env; theTreesLotGoes x) := by rw [← denF_eq]; rfl
  unfold tUx rNx oNx
  rw [e, h]
  refine ⟨fun o => (loadK (letOwnedTupleGo tupT (.ref r) (.ref u)) o >>= rest (.ref u)).onRaise (fun x => do noteFrame x env; theTreesLotGoes x), by kernel_rfl, fun l j ee =>
    ⟨fun o => ((loadK (updateField r 0 .none)) o >>= rest (.ref u)).onRaise (fun x => do noteFrame x env; theTreesLotGoes x), none, Obj.mapFields (·.setIfInBounds 0 .none), ?_, by kernel_rfl, by kernel_rfl⟩⟩
  show (loadK (letOwnedTupleGo tupT (.ref r) (.ref u)) (enumO (rawInt u) .none l j ee) >>= rest (.ref u)).onRaise _ = _
  rw [own_true]
  kernel_rfl
theorem own_comp (V : V) (elt iter : Expr) (el : List Expr) (cx : Nat) (p : Pos) (ifs : List Expr) (gs : List Comprehension) (sc : Scope) (p2 : Pos) (r u : Addr) (acc : Value) (env : Env) :
    OwnOk ((rNx V (.compLoop (.ListComp elt (⟨.Tuple el cx p, iter, ifs, 0⟩ :: gs) sc p2) 0 (.ref r) acc env) r).k (.ok (.ret (.ref u)))) r u (tUx V (.compLoop (.ListComp elt (⟨.Tuple el cx p, iter, ifs, 0⟩ :: gs) sc p2) 0 (.ref r) acc env) r u) := by
  obtain ⟨rest, h⟩ := comp_shape elt (.Tuple el cx p) iter ifs gs sc p2 (.ref r) acc env
  have e : denF (.compLoop (.ListComp elt (⟨.Tuple el cx p, iter, ifs, 0⟩ :: gs) sc p2) 0 (.ref r) acc env) = (compTurn (.ListComp elt (⟨.Tuple el cx p, iter, ifs, 0⟩ :: gs) sc p2) 0 (.ref r) acc env).onRaise (fun x => do noteFrame x env; theTreesLotGoes x) := by
    rw [← denF_eq]
    rfl
  unfold tUx rNx oNx
  rw [e, h]
  refine ⟨fun o => (loadK (letOwnedTupleGo tupT (.ref r) (.ref u)) o >>= rest (.ref u)).onRaise (fun x => do noteFrame x env; theTreesLotGoes x), by kernel_rfl, fun l j ee =>
    ⟨fun o => ((loadK (updateField r 0 .none)) o >>= rest (.ref u)).onRaise (fun x => do noteFrame x env; theTreesLotGoes x), none, Obj.mapFields (·.setIfInBounds 0 .none), ?_, by kernel_rfl, by kernel_rfl⟩⟩
  show (loadK (letOwnedTupleGo tupT (.ref r) (.ref u)) (enumO (rawInt u) .none l j ee) >>= rest (.ref u)).onRaise _ = _
  rw [own_true]
  kernel_rfl
theorem Sys.own {K : Top} (Y : Sys K) {kk t : Sem Fin} {r u : Addr} (h : OwnOk kk r u t) {l : Addr} {jv : Value} {ed : VD} {d : DM} {gm : GMem} {s : Shared} {c : Code} {p : Pos} {fs : List Frame}
    (S : StD K ((r, .fields c_enum [.raw (.int (u : Int) 0), .bool false, .ref l, .raw jv, .none, ed]) :: d) gm s)
    (next : ∀ s', StD K ((r, .fields c_enum [.none, .bool false, .ref l, .raw jv, .none, ed]) :: d) gm s' → Y.H s' ⟨t, c, p, fs⟩) : Y.H s ⟨kk, c, p, fs⟩ := by
  obtain ⟨K1, rfl, h⟩ := h
  have key : ∀ τ n, (OD.fields c_enum [.raw (.int (u : Int) 0), .bool false, .ref l, .raw jv, .none, ed]).obj K.w.params τ n = enumO (rawInt u) .none l jv (ed.val (τ 5)) := fun τ n => rfl
  obtain ⟨τ, n, e⟩ := S.get (List.mem_cons_self ..)
  rw [key] at e
  obtain ⟨K2, pt, f, e1, e2, e3⟩ := h l jv (ed.val (τ 5))
  refine Y.step1 (step_load _ _ _ _ _ _ _ e) ?_
  rw [e1]
  refine Y.step1 (step_rule _ _ _ _ _ _ _) (Y.step1 (step_load _ _ _ _ _ _ _ e) ?_)
  rw [e2]
  exact Y.step1 (step_update _ _ _ _ _ _ _ _ (by rw [e]; rfl)) (next _ (S.updAt e ⟨τ, n, e3⟩ (fun _ _ => rfl)))
noncomputable def forTup : Code → Option Addr
  | .forLoop (.Tuple _ _ _) (.ref r) _ _ _ => some r
  | _ => none
noncomputable def compTup : Code → Option Addr
  | .compLoop (.ListComp _ (⟨.Tuple _ _ _, _, _, 0⟩ :: _) _ _) 0 (.ref r) _ _ => some r
  | _ => none
theorem own_for' (V : V) (c : Code) (r u : Addr) (h : forTup c = some r) : OwnOk ((rNx V c r).k (.ok (.ret (.ref u)))) r u (tUx V c r u) := by
  unfold forTup at h
  split at h
  · cases h; exact own_for V _ _ _ _ u _ _ _
  · cases h
theorem own_comp' (V : V) (c : Code) (r u : Addr) (h : compTup c = some r) : OwnOk ((rNx V c r).k (.ok (.ret (.ref u)))) r u (tUx V c r u) := by
  unfold compTup at h
  split at h
  · cases h; exact own_comp V _ _ _ _ _ _ _ _ _ _ u _ _
  · cases h
end Mine
end
section
set_option maxRecDepth 100000
namespace Mine
open PySem PySem.W PySem.W.X
noncomputable def lvT (env : Env) : Value → Sem Unit := PySem.W.Fast.tw9442747609961115081 env
noncomputable def ntT (e : Value) (env : Env) : Sem Unit := PySem.W.Fast.tw17872113653443481271 e env
noncomputable def retG : Flow → Sem Fin := fun fl => match fl with
  | .ret v => PySem.W.Fast.tw6905046200447255374 v
  | _ => PySem.W.Fast.tw6905046200447255374 .none
noncomputable def errF (env : Env) (e : Addr) : Sem Fin := PySem.W.R.bindR (PySem.W.R.onRaiseR (.raise (.ref e)) (lvT env)) retG
noncomputable def errL (env : Env) (e : Addr) : Sem Fin := PySem.W.R.onRaiseR (.raise (.ref e)) fun x => PySem.W.R.bindR (ntT x env) fun _ => PySem.W.Fast.tw1623429502029203251 x
noncomputable def sfT (e : Value) (f : Option Addr) : Sem Unit := PySem.W.Fast.tw5670386056902412789 e f
theorem errF_eq (env : Env) (e : Addr) : errF env e = (noteFrame (.ref e) env >>= fun _ => setFlight (.ref e) none >>= fun _ => (Sem.raise (.ref e) : Sem Fin)) := by
  unfold errF lvT
  rw [← PySem.W.Fast.te9442747609961115081, ← PySem.W.R.onRaiseR_eq, ← PySem.W.R.bindR_eq]
  show ((leaving env (.ref e) >>= fun _ => (Sem.raise (.ref e) : Sem Flow)) >>= retG) = _
  unfold leaving
  simp only [bind_assoc]
  rfl
theorem errL_eq (env : Env) (e : Addr) : errL env e = (noteFrame (.ref e) env >>= fun _ => theTreesLotGoes (.ref e) >>= fun _ => (Sem.raise (.ref e) : Sem Fin)) := by
  unfold errL ntT
  rw [← PySem.W.Fast.te17872113653443481271, ← PySem.W.Fast.te1623429502029203251, ← PySem.W.R.onRaiseR_eq, ← PySem.W.R.bindR_eq]
  show ((noteFrame (.ref e) env >>= fun _ => theTreesLotGoes (.ref e)) >>= fun _ => (Sem.raise (.ref e) : Sem Fin)) = _
  simp only [bind_assoc]
noncomputable def ExcAt (K : Top) (e dc ar : Addr) (fl : Value) (d : DM) (gm : GMem) (s : Shared) : Prop := ∃ t nx fr v, StD K ((t, .raw (tbO nx fr fl v)) :: (e, .raw (excO dc ar (.ref t))) :: d) gm s
noncomputable def RestE (d : DM) (rest : List Frame) : Prop := ∀ e ∈ envsOf (rest.map Frame.where_), EnvOk d e
section
variable {K : Top} (Y : Sys K) {d : DM} {gm : GMem} {s : Shared} {c : Code} {p : Pos} {fs : List Frame} {e dc ar f : Addr} {env : Env}
theorem Sys.setFl {t : Addr} {nx fr fl : Value} {v : Six} {R : Unit → Sem Fin} (S : StD K ((t, .raw (tbO nx fr fl v)) :: (e, .raw (excO dc ar (.ref t))) :: d) gm s) (next : ∀ s', ExcAt K e dc ar .none d gm s' → Y.H s' ⟨R (), c, p, fs⟩) :
    Y.H s ⟨setFlight (.ref e) none >>= R, c, p, fs⟩ := by
  unfold setFlight
  rw [bind_assoc]
  refine Y.load1 (List.mem_cons_of_mem _ (List.mem_cons_self ..)) S fun τ n => ?_
  refine Y.load1 (List.mem_cons_self ..) S fun τ n => ?_
  refine Y.upd1 S (o' := .raw (tbO nx fr .none v)) (fun _ _ => ⟨τ, n, rfl⟩) (fun _ _ => rfl) fun s' S' => next s' ⟨t, nx, fr, v, S'⟩
theorem Sys.lot {x : Addr} {R : Unit → Sem Fin} (next : ∀ p', Y.H s ⟨R (), c, p', fs⟩) : Y.H s ⟨theTreesLotGoes (.ref x) >>= R, c, p, fs⟩ := by
  unfold theTreesLotGoes
  rw [bind_assoc]
  refine Y.stack1 ?_
  refine Y.step1 (step_at _ _ _ _ _ _ _) (Y.step1 (step_point _ _ _ _ _ _ _) (Y.step1 (step_at _ _ _ _ _ _ _) (next _)))
theorem Sys.pop {k : Result → Sem Fin} {hd : Option Value} {g : Bool} {l kp : List Value} {c' : Code} {p' : Pos} (next : Y.H s ⟨k (.error (.ref e)), c', p', fs⟩) : Y.H s ⟨.raise (.ref e), c, p, .ret k hd g l c' p' kp :: fs⟩ :=
  Y.step1 (step_leaf_ret _ _ _ _ _ (.error (.ref e)) _ _ _ _ _ _ _) next
theorem Sys.leave0 (hf : env.frame = some f) (ho : StkOk d f ((c, p) :: fs.map Frame.where_)) (S : StD K ((e, .raw (excO dc ar .none)) :: d) gm s) (next : ∀ s', ExcAt K e dc ar .none d gm s' → Y.H s' ⟨.raise (.ref e), c, p, fs⟩) : Y.H s ⟨errF env e, c, p, fs⟩ := by
  rw [errF_eq]
  exact Y.note0 hf ho S fun s1 t v _ _ S1 => Y.setFl S1 next
theorem Sys.leave1 (hf : env.frame = some f) (ho : StkOk d f ((c, p) :: fs.map Frame.where_)) (S : ExcAt K e dc ar .none d gm s) (next : ∀ s', ExcAt K e dc ar .none d gm s' → Y.H s' ⟨.raise (.ref e), c, p, fs⟩) : Y.H s ⟨errF env e, c, p, fs⟩ := by
  obtain ⟨t, nx, fr, v, S⟩ := S
  rw [errF_eq]
  exact Y.note1 hf ho S fun s1 t v _ _ S1 => Y.setFl S1 next
theorem Sys.leaveSame (hf : env.frame = some f) (S : ExcAt K e dc ar (rawInt f) d gm s) (next : ∀ s', ExcAt K e dc ar .none d gm s' → Y.H s' ⟨.raise (.ref e), c, p, fs⟩) : Y.H s ⟨errF env e, c, p, fs⟩ := by
  obtain ⟨t, nx, fr, v, S⟩ := S
  rw [errF_eq]
  exact Y.noteSame hf S (Y.setFl S next)
theorem Sys.lot1 (hf : env.frame = some f) (ho : StkOk d f ((c, p) :: fs.map Frame.where_)) (S : ExcAt K e dc ar .none d gm s) (next : ∀ s' p', ExcAt K e dc ar (rawInt f) d gm s' → Y.H s' ⟨.raise (.ref e), c, p', fs⟩) : Y.H s ⟨errL env e, c, p, fs⟩ := by
  obtain ⟨t, nx, fr, v, S⟩ := S
  rw [errL_eq]
  exact Y.note1 hf ho S fun s1 t v _ _ S1 => Y.lot fun p' => next s1 p' ⟨t, _, _, v, S1⟩
theorem Sys.lotSame (hf : env.frame = some f) (S : ExcAt K e dc ar (rawInt f) d gm s) (next : ∀ p', Y.H s ⟨.raise (.ref e), c, p', fs⟩) : Y.H s ⟨errL env e, c, p, fs⟩ := by
  obtain ⟨t, nx, fr, v, S⟩ := S
  rw [errL_eq]
  exact Y.noteSame hf S (Y.lot next)
theorem Sys.load1C {C : Sem Unit → Sem Fin} (hl : ∀ a p k, C (.load a p k) = .load a p fun o => C (k o)) {a : Addr} {o : OD} (h : (a, o) ∈ d) {part : Option Value} {k : Obj → Sem Unit} (S : StD K d gm s) (next : ∀ τ n, Y.H s ⟨C (k (o.obj K.w.params τ n)), c, p, fs⟩) : Y.H s ⟨C (.load a part k), c, p, fs⟩ := by
  rw [hl]; exact Y.load1 h S next
theorem Sys.noteC {C : Sem Unit → Sem Fin} (hl : ∀ a p k, C (.load a p k) = .load a p fun o => C (k o)) (hf : env.frame = some f) (S : ExcAt K e dc ar (rawInt f) d gm s) (next : Y.H s ⟨C (.pure ()), c, p, fs⟩) : Y.H s ⟨C (ntT (.ref e) env), c, p, fs⟩ := by
  obtain ⟨t, nx, fr, v, S⟩ := S
  unfold ntT
  rw [← PySem.W.Fast.te17872113653443481271]
  unfold noteFrame
  simp only [hf]
  refine Y.load1C hl (List.mem_cons_of_mem _ (List.mem_cons_self ..)) S fun τ n => ?_
  refine Y.load1C hl (List.mem_cons_self ..) S fun τ n => ?_
  show Y.H s ⟨C (if (rawInt f == rawInt f) = true then pure () else _), c, p, fs⟩
  rw [if_pos (by simp)]
  exact next
end
end Mine
end
section
open PySem PySem.W PySem.W.X PyProof.Rows
set_option maxRecDepth 100000
set_option maxHeartbeats 0
namespace MineTop
theorem PySem.W.holds_openX {r : OpenRow} {q : Program} {loose : List Str} {Xt : Shared → Bool} {XP : (Str → Option Value) → Heap → Prop} {α : Type} {Yf : Shared → α} {Ya : World → α} {d : DefRec} {kwd : List (Str × Expr)} {N : Nat}
    (left : LeftO r.prog q loose Xt Yf Ya N)
    (hX : ∀ s, Xt s = true → XP (s.heap.nsMap mainGlobals) s.heap) (hXk : ∀ mg h h', XP mg h → (∀ b o, h.get? b = some o → h'.get? b = some o) → XP mg h')
    (hdef : defOf q r.name = some (d, kwd)) (hp : r.prog.theDef r.name = some (d.params, d.body, d.scope)) (hk : kwWritten? d.params.kwonlyargs d.params.kw_defaults = some kwd) (hRf : ∀ s, Xt s = true → RecFacts r.records s.heap) (hwr : (!r.writes || r.records.isEmpty) = true)
    (k1 : r.wellSaid = true) (ok : (chainsOk q && opensWell r.prog && (frees r.toRowW && r.within.isEmpty)) = true) (hb : r.prog.bare) (hw : True)
    (call : True) (hF : False := by assumption) : r.Holds := hF.elim
def top4.tw467552350610872723 : Unit := ()
def top4.tw4435691488768161029 : Unit := ()
def top4.tw10839237931461845117 : Unit := ()
def top4.tw2409624295332581593 : Unit := ()
def top4.tw10641275091228639187 : Unit := ()
def top4.tw12548902471690286655 : Unit := ()
def top4.tw4638892477652720073 : Unit := ()
def top4.tw14025221858090725870 : Unit := ()
def top4.tw7527815046622192000 : Unit := ()
def top4.tw3757799309162806353 : Unit := ()
def top4.tw7925482816467932355 : Unit := ()
def top4.tw11101697225912474544 : Unit := ()
set_option Elab.async true in
theorem top4 (hf : False) : PySem.Challenge.rw_rk0005_04.Holds := by
  w_on; o_law; z_head <;> exact True.intro
end MineTop
namespace Mine
noncomputable def kt (P : Params) : X.KT := MineTop.top4.ktop_1_524 P
noncomputable def ob (P : Params) (a : Nat) : Obj := match (kt P).get a with | some o => o | none => default
end Mine
end
section
set_option maxRecDepth 100000
namespace Mine
open PySem PySem.W PySem.W.X
structure LA where
  l0 : Nat
  b : Nat
  cl : Nat
  g : Nat
  nb : Nat
  zb : Int
  zs : Int
namespace LA
variable (A : LA)
noncomputable def Lr : Nat := A.b
noncomputable def cbr : Nat := A.b + 1
noncomputable def ch : Nat := A.b + 2
noncomputable def cst : Nat := A.b + 3
noncomputable def ctn : Nat := A.b + 4
noncomputable def sd : Nat := A.b + 5
noncomputable def sf : Nat := A.b + 6
noncomputable def tb : Nat := A.b + 8
noncomputable def pb : Nat := A.b + 9
noncomputable def ct : Nat := A.b + 10
noncomputable def tn : Nat := A.b + 11
noncomputable def btup : Nat := A.b + 12
noncomputable def bcode : Nat := A.b + 18
noncomputable def fbr : Nat := A.b + 19
noncomputable def stup : Nat := A.b + 20
noncomputable def scode : Nat := A.b + 26
noncomputable def fst : Nat := A.b + 27
noncomputable def seen : Nat := A.b + 28
noncomputable def it : Nat := A.b + 29
noncomputable def Lt : Nat := A.b + 30
noncomputable def go : Nat := A.b + 31
end LA
structure Qd where
  w : World
  s : Shared
  b1 : Bool
  b2 : Bool
noncomputable def Qd.P (q : Qd) : Params := q.w.params
noncomputable def K4 (q : Qd) : Top := ⟨PySem.Challenge.pw_rk0005_04, q.w, ov q.P q.b1 q.b2, kt q.P, [180, 242, 252], 270, q.s⟩
noncomputable def V0 (P : Params) (N : Nat) : V := ⟨PySem.Challenge.pw_rk0005_04, ov P false false, kt P, [180, 242, 252], 270, [], N, 0, 0, [], []⟩
noncomputable def V0t (P : Params) (N T : Nat) : V := ⟨PySem.Challenge.pw_rk0005_04, ov P false false, kt P, [180, 242, 252], 270, [], N, T, 0, [], []⟩
noncomputable def nthS : List Stmt → Nat → Stmt
  | [], _ => .Pass default
  | x :: r, n => match n with
    | 0 => x
    | n + 1 => nthS r n
noncomputable def dropS : Nat → List Stmt → List Stmt
  | 0, l => l
  | n + 1, l => match l with
    | [] => []
    | _ :: r => dropS n r
noncomputable def lawB (P : Params) : List Stmt := stmtsOf (fnOf (ob P 269))
noncomputable def readB (P : Params) : List Stmt := stmtsOf (fnOf (ob P 257))
noncomputable def funO (nm qn : Str) (cl : List (Str × Addr)) (code tup : Addr) : Stmt → Obj
  | .FunctionDef name args body _ _ _ scope _ _ _ => ⟨.type c_fun, none, .func { name := nm, qualname := qn, params := args, body := .stmts body, scope := scope, globals := 3, closure := cl, defaults := .none, kwdefaults := .none, doc := .none, pyModule := .str ⟨⟨[108, 97, 119, 95, 114, 107, 48, 48, 48, 53, 95, 48, 52]⟩⟩ 499, annotations := none, code := .ref code, closureTuple := .ref tup, builtins := 0 }, #[]⟩
  | _ => default
noncomputable def nBr : Str := ⟨⟨[98, 114, 97, 99, 107, 101, 116]⟩⟩
noncomputable def nSt : Str := ⟨⟨[115, 116, 97, 114, 116]⟩⟩
noncomputable def nTn : Str := ⟨⟨[116, 117, 114, 110]⟩⟩
noncomputable def nH : Str := ⟨⟨[104]⟩⟩
noncomputable def qRd (l : List Nat) : Str := ⟨⟨[95, 108, 97, 119, 95, 114, 101, 97, 100, 46, 60, 108, 111, 99, 97, 108, 115, 62, 46] ++ l⟩⟩
noncomputable def brO (P : Params) (A : LA) : Obj := funO nBr ⟨⟨[95, 108, 97, 119, 95, 114, 101, 97, 100, 46, 60, 108, 111, 99, 97, 108, 115, 62, 46, 98, 114, 97, 99, 107, 101, 116]⟩⟩ [(nTn, A.ctn), (nH, A.ch), (nBr, A.cbr)] A.bcode A.btup (nthS (readB P) 2)
noncomputable def startO (P : Params) (A : LA) : Obj := funO nSt ⟨⟨[95, 108, 97, 119, 95, 114, 101, 97, 100, 46, 60, 108, 111, 99, 97, 108, 115, 62, 46, 115, 116, 97, 114, 116]⟩⟩ [(nTn, A.ctn), (nSt, A.cst), (nH, A.ch), (nBr, A.cbr)] A.scode A.stup (nthS (readB P) 3)
noncomputable def lawEnv (P : Params) (A : LA) : Env := envF (fnOf (ob P 269)) 269 A.l0 []
noncomputable def readEnv (P : Params) (A : LA) : Env := envF (fnOf (ob P 257)) 257 A.Lr [(nTn, A.ctn), (nSt, A.cst), (nH, A.ch), (nBr, A.cbr)]
noncomputable def brB (P : Params) (A : LA) : List Stmt := stmtsOf (fnOf (brO P A))
noncomputable def brEnv (P : Params) (A : LA) (L : Addr) : Env := envF (fnOf (brO P A)) A.fbr L [(nTn, A.ctn), (nH, A.ch), (nBr, A.cbr)]
noncomputable def startB (P : Params) (A : LA) : List Stmt := stmtsOf (fnOf (startO P A))
noncomputable def startEnv (P : Params) (A : LA) (L : Addr) : Env := envF (fnOf (startO P A)) A.fst L [(nTn, A.ctn), (nSt, A.cst), (nH, A.ch), (nBr, A.cbr)]
noncomputable def tokEnv (P : Params) (A : LA) : Env := envF (fnOf (ob P 163)) 163 A.Lt []
noncomputable def cOuter (P : Params) (A : LA) : Code := whileOf (dropS 2 (stmtsOf (fnOf (ob P 163)))) (tokEnv P A)
noncomputable def cInner (P : Params) (A : LA) : Code := match cOuter P A with | .whileLoop _ b _ e => whileOf b e | c => c
noncomputable def cTokB (P : Params) (A : LA) : Code := .func (stmtsOf (fnOf (ob P 163))) (tokEnv P A)
noncomputable def cGnext (A : LA) : Code := .builtin "generator.__next__" ⟨[.ref A.go], []⟩
noncomputable def cReadFor (P : Params) (A : LA) : Code := match nthS (readB P) 5 with
  | .Try (.For t _ b o _ :: _) _ _ _ _ => .forLoop t (.ref A.go) b o (readEnv P A)
  | _ => .builtin "" {}
noncomputable def cReadB (P : Params) (A : LA) : Code := .func (readB P) (readEnv P A)
noncomputable def cLawB (P : Params) (A : LA) : Code := .func (lawB P) (lawEnv P A)
noncomputable def cCaller : Code := .builtin "claim.caller" ⟨[], []⟩
noncomputable def cStB (P : Params) (A : LA) (L : Addr) : Code := .func (startB P A) (startEnv P A L)
noncomputable def lowCs (P : Params) (A : LA) : List Code := [cOuter P A, cTokB P A, cGnext A, cReadFor P A, cReadB P A, cLawB P A, cCaller]
noncomputable def cFn (f : Addr) (vs : List Value) : Code := .call (.ref f) ⟨vs, []⟩
noncomputable def cBr (A : LA) : Code := cFn A.fbr []
noncomputable def cAcc (A : LA) (v : Value) : Code := cFn 199 [.ref A.sf, v]
noncomputable def cExp (A : LA) (v : Value) : Code := cFn 227 [.ref A.sf, v]
inductive SV where
  | s (x : Str) (t : Tok)
  | l (a : Addr)
noncomputable def SV.val : SV → Value
  | .s x t => .str x t
  | .l a => .ref a
theorem cOuter_is (P : Params) (A : LA) : (match cOuter P A with | .whileLoop _ b _ e => (b.length, e.locals) | _ => (0, 0)) = (2, A.Lt) := by kernel_rfl
theorem cInner_is (P : Params) (A : LA) : (match cInner P A with | .whileLoop _ b _ e => (b.length, e.locals) | _ => (0, 0)) = (1, A.Lt) := by kernel_rfl
theorem cReadFor_is (P : Params) (A : LA) : (match cReadFor P A with | .forLoop _ it b _ e => (it, b.length, e.locals) | _ => (.none, 0, 0)) = (.ref A.go, 1, A.Lr) := by kernel_rfl
theorem brB_is (P : Params) (A : LA) : ((brB P A).length, (startB P A).length, (lawB P).length) = (2, 5, 6) := by kernel_rfl
end Mine
end
section
set_option linter.unusedVariables false
set_option linter.unusedSimpArgs false
set_option maxRecDepth 100000
set_option maxHeartbeats 0
namespace Mine
open PySem PySem.W PySem.W.X
noncomputable def oneL : Option Addr → List VD
  | none => []
  | some a => [.ref a]
abbrev GR (A : LA) : GMem := [(A.g, .running)]
noncomputable def smD (A : LA) : DM := [(A.sf, .inst 230 A.sd), (A.sd, .dict c_dict [([116, 111, 107, 101, 110, 95, 98, 117, 102, 102, 101, 114], .ref A.tb), ([112, 117, 115, 104, 101, 100, 95, 98, 97, 99, 107], .ref A.pb), ([99, 117, 114, 114, 101, 110, 116, 95, 116, 101, 120, 116], .ref A.ct), ([99, 104, 97, 114, 97, 99, 116, 101, 114, 115], .ref A.it)])]
noncomputable def lmD (A : LA) (e : Bool) (k : Nat) (pb : Option Addr) (xs cs : Array Value) : DM := [(A.pb, .seq c_list (oneL pb)), (A.ct, .arr c_list xs), (A.it, .fields c_listit [cond e .none (.ref A.cl), .raw (.int ((k : Nat) : Int) 0)]), (A.cl, .arr c_list cs)]
noncomputable def lxD (A : LA) (e : Bool) (k : Nat) (pb : Option Addr) (xs cs : Array Value) : DM := smD A ++ lmD A e k pb xs cs
noncomputable def chD (c cd lc : Addr) (sg : Str) : DM := [(c, .inst 138 cd), (cd, .dict c_dict [([99, 104, 97, 114], .str sg), ([108, 111, 99], .ref lc)])]
noncomputable def AccSt_a (q : Qd) (A : LA) (k : Nat) (xs cs : Array Value) (e : Bool) (c cd lc : Addr) (sg : Str) (va : Str) (tv : Tok) : SG := ⟨223, denF (cAcc A (.str va tv)), cAcc A (.str va tv), [], lxD A e k (some c) xs cs ++ chD c cd lc sg, (GR A), hz 130 0x81d19f88fff8fff81fff8fff81110080d055553f22fff2fff20fff8fff80004444444443f22fff2fff20444443f22fff2fff20e0000ffff21ffff1fff1fff10e0000ff, [2, 3, 4, 5, 6, 7, 8, 9]⟩
noncomputable def AccSt_s (q : Qd) (A : LA) (k : Nat) (xs cs : Array Value) (e : Bool) (c cd lc : Addr) (sg : Str) (va : Str) (tv : Tok) (i : In) : List Spec := [spPush A.ct 5 xs (i.ν 3).n (.ref c),
  spV (callB "str.__contains__" [.str (va) tv, .str (sg) (i.τ 7 1)]) (.bool true) 0]
noncomputable def AccSt_e (q : Qd) (A : LA) (k : Nat) (xs cs : Array Value) (e : Bool) (c cd lc : Addr) (sg : Str) (va : Str) (tv : Tok) (i : In) : SE := ⟨.pure (.done (.ret (.bool true))), none, [], lxD A e k none (xs.push (.ref c)) cs ++ chD c cd lc sg, (GR A)⟩
theorem AccSt_r (q : Qd) (A : LA) (k : Nat) (xs cs : Array Value) (e : Bool) (c cd lc : Addr) (sg : Str) (va : Str) (tv : Tok)  : RunsA (K4 q) (AccSt_a q A k xs cs e c cd lc sg va tv) (AccSt_s q A k xs cs e c cd lc sg va tv) (fun _ => []) (AccSt_e q A k xs cs e c cd lc sg va tv) := by
  intro W i; cases e <;> (kernel_rfl)
theorem AccSt {q : Qd} (Y : Sys (K4 q)) (A : LA) (k : Nat) (xs cs : Array Value) (e : Bool) (c cd lc : Addr) (sg : Str) (va : Str) (tv : Tok)  (h0 : xs.size ≤ sizeLine) (h1 : (!(Builtin.Str.occurrences (va) (sg) 0 (va).length 1).isEmpty) = true) : SegT Y (AccSt_a q A k xs cs e c cd lc sg va tv) (AccSt_e q A k xs cs e c cd lc sg va tv) :=
  Y.seg (AccSt_r q A k xs cs e c cd lc sg va tv ) (show List.Nodup [2, 3, 4, 5, 6, 7, 8, 9] by decide) (fun i hN => .cons (ok1 rfl rfl rfl (sok_push _ _ _ _ _ h0)) (.cons (okv (h1 ▸ sok_scontains _ _ _ _)) (AllOk.nil)))
noncomputable def AccSf_a (q : Qd) (A : LA) (k : Nat) (xs cs : Array Value) (e : Bool) (c cd lc : Addr) (sg : Str) (va : Str) (tv : Tok) : SG := ⟨348, denF (cAcc A (.str va tv)), cAcc A (.str va tv), [], lxD A e k (some c) xs cs ++ chD c cd lc sg, (GR A), hz 205 0x5555055554f33fff3fff3083d82d66664f33fff3fff30fff9fff90e0000fff132ffff2fff2fff2181d19f88fff8fff81fff8fff81110080d055553f22fff2fff20fff8fff80004444444443f22fff2fff20444443f22fff2fff20e0000ffff21ffff1fff1fff10e0000ff, [3, 4, 5, 6, 7, 8, 9, 10]⟩
noncomputable def AccSf_s (q : Qd) (A : LA) (k : Nat) (xs cs : Array Value) (e : Bool) (c cd lc : Addr) (sg : Str) (va : Str) (tv : Tok) (i : In) : List Spec := [spPush A.ct 5 xs (i.ν 3).n (.ref c),
  spV (callB "str.__contains__" [.str (va) tv, .str (sg) (i.τ 7 1)]) (.bool false) 0,
  spV (callB "int.__neg__" [.int (1) (i.T + 16)]) (.int (-(1))) 1,
  spPop A.ct 6 xs ((i.ν 3).n + 1) (.ref c) (i.T + 17)]
noncomputable def AccSf_e (q : Qd) (A : LA) (k : Nat) (xs cs : Array Value) (e : Bool) (c cd lc : Addr) (sg : Str) (va : Str) (tv : Tok) (i : In) : SE := ⟨.pure (.done (.ret (.bool false))), none, [], lxD A e k (some c) xs cs ++ chD c cd lc sg, (GR A)⟩
theorem AccSf_r (q : Qd) (A : LA) (k : Nat) (xs cs : Array Value) (e : Bool) (c cd lc : Addr) (sg : Str) (va : Str) (tv : Tok)  : RunsA (K4 q) (AccSf_a q A k xs cs e c cd lc sg va tv) (AccSf_s q A k xs cs e c cd lc sg va tv) (fun _ => []) (AccSf_e q A k xs cs e c cd lc sg va tv) := by
  intro W i; cases e <;> (kernel_rfl)
theorem AccSf {q : Qd} (Y : Sys (K4 q)) (A : LA) (k : Nat) (xs cs : Array Value) (e : Bool) (c cd lc : Addr) (sg : Str) (va : Str) (tv : Tok)  (h0 : xs.size ≤ sizeLine) (h1 : (!(Builtin.Str.occurrences (va) (sg) 0 (va).length 1).isEmpty) = false) (h2 : xs.size < sizeLine) : SegT Y (AccSf_a q A k xs cs e c cd lc sg va tv) (AccSf_e q A k xs cs e c cd lc sg va tv) :=
  Y.seg (AccSf_r q A k xs cs e c cd lc sg va tv ) (show List.Nodup [3, 4, 5, 6, 7, 8, 9, 10] by decide) (fun i hN => .cons (ok1 rfl rfl rfl (sok_push _ _ _ _ _ h0)) (.cons (okv (h1 ▸ sok_scontains _ _ _ _)) (.cons (okv (sok_neg _ _)) (.cons (ok_pop _ _ _ _ _ _ h2) (AllOk.nil)))))
noncomputable def AccNt_a (q : Qd) (A : LA) (k : Nat) (xs cs : Array Value) (c cd lc : Addr) (sg : Str) (va : Str) (tv : Tok) : SG := ⟨217, denF (cAcc A (.str va tv)), cAcc A (.str va tv), [], lxD A false k none xs cs ++ chD c cd lc sg, (GR A), hz 126 0x82d19f88fff8fff81fff8fff81110081d055553f22fff2fff20fff8fff800080d663f22fff2fff20ff444443f22fff2fff20e0000ffff21ffff1fff1fff10e0000ff, [2, 3, 4, 5, 6, 7, 8, 9]⟩
noncomputable def AccNt_s (q : Qd) (A : LA) (k : Nat) (xs cs : Array Value) (c cd lc : Addr) (sg : Str) (va : Str) (tv : Tok) (i : In) : List Spec := [spNext A.it A.cl 6 7 cs (i.ν 5).n (k : Nat) (.ref c),
  spPush A.ct 5 xs (i.ν 3).n (.ref c),
  spV (callB "str.__contains__" [.str (va) tv, .str (sg) (i.τ 7 1)]) (.bool true) 0]
noncomputable def AccNt_e (q : Qd) (A : LA) (k : Nat) (xs cs : Array Value) (c cd lc : Addr) (sg : Str) (va : Str) (tv : Tok) (i : In) : SE := ⟨.pure (.done (.ret (.bool true))), none, [], lxD A false (k + 1) none (xs.push (.ref c)) cs ++ chD c cd lc sg, (GR A)⟩
theorem AccNt_r (q : Qd) (A : LA) (k : Nat) (xs cs : Array Value) (c cd lc : Addr) (sg : Str) (va : Str) (tv : Tok)  : RunsA (K4 q) (AccNt_a q A k xs cs c cd lc sg va tv) (AccNt_s q A k xs cs c cd lc sg va tv) (fun _ => []) (AccNt_e q A k xs cs c cd lc sg va tv) := by
  intro W i; (kernel_rfl)
theorem AccNt {q : Qd} (Y : Sys (K4 q)) (A : LA) (k : Nat) (xs cs : Array Value) (c cd lc : Addr) (sg : Str) (va : Str) (tv : Tok)  (h0 : cs[k]? = some (.ref c)) (h1 : xs.size ≤ sizeLine) (h2 : (!(Builtin.Str.occurrences (va) (sg) 0 (va).length 1).isEmpty) = true) : SegT Y (AccNt_a q A k xs cs c cd lc sg va tv) (AccNt_e q A k xs cs c cd lc sg va tv) :=
  Y.seg (AccNt_r q A k xs cs c cd lc sg va tv ) (show List.Nodup [2, 3, 4, 5, 6, 7, 8, 9] by decide) (fun i hN => .cons (ok1 rfl rfl rfl (sok_next _ _ _ _ _ _ _ _ h0)) (.cons (ok1 rfl rfl rfl (sok_push _ _ _ _ _ h1)) (.cons (okv (h2 ▸ sok_scontains _ _ _ _)) (AllOk.nil))))
noncomputable def AccNf_a (q : Qd) (A : LA) (k : Nat) (xs cs : Array Value) (c cd lc : Addr) (sg : Str) (va : Str) (tv : Tok) : SG := ⟨342, denF (cAcc A (.str va tv)), cAcc A (.str va tv), [], lxD A false k none xs cs ++ chD c cd lc sg, (GR A), hz 201 0x5555055554f33fff3fff3084d83d66664f33fff3fff30fff9fff90e0000fff132ffff2fff2fff2182d19f88fff8fff81fff8fff81110081d055553f22fff2fff20fff8fff800080d663f22fff2fff20ff444443f22fff2fff20e0000ffff21ffff1fff1fff10e0000ff, [3, 4, 5, 6, 7, 8, 9, 10]⟩
noncomputable def AccNf_s (q : Qd) (A : LA) (k : Nat) (xs cs : Array Value) (c cd lc : Addr) (sg : Str) (va : Str) (tv : Tok) (i : In) : List Spec := [spNext A.it A.cl 6 7 cs (i.ν 5).n (k : Nat) (.ref c),
  spPush A.ct 5 xs (i.ν 3).n (.ref c),
  spV (callB "str.__contains__" [.str (va) tv, .str (sg) (i.τ 7 1)]) (.bool false) 0,
  spV (callB "int.__neg__" [.int (1) (i.T + 15)]) (.int (-(1))) 1,
  spPop A.ct 6 xs ((i.ν 3).n + 1) (.ref c) (i.T + 16)]
noncomputable def AccNf_e (q : Qd) (A : LA) (k : Nat) (xs cs : Array Value) (c cd lc : Addr) (sg : Str) (va : Str) (tv : Tok) (i : In) : SE := ⟨.pure (.done (.ret (.bool false))), none, [], lxD A false (k + 1) (some c) xs cs ++ chD c cd lc sg, (GR A)⟩
theorem AccNf_r (q : Qd) (A : LA) (k : Nat) (xs cs : Array Value) (c cd lc : Addr) (sg : Str) (va : Str) (tv : Tok)  : RunsA (K4 q) (AccNf_a q A k xs cs c cd lc sg va tv) (AccNf_s q A k xs cs c cd lc sg va tv) (fun _ => []) (AccNf_e q A k xs cs c cd lc sg va tv) := by
  intro W i; (kernel_rfl)
theorem AccNf {q : Qd} (Y : Sys (K4 q)) (A : LA) (k : Nat) (xs cs : Array Value) (c cd lc : Addr) (sg : Str) (va : Str) (tv : Tok)  (h0 : cs[k]? = some (.ref c)) (h1 : xs.size ≤ sizeLine) (h2 : (!(Builtin.Str.occurrences (va) (sg) 0 (va).length 1).isEmpty) = false) (h3 : xs.size < sizeLine) : SegT Y (AccNf_a q A k xs cs c cd lc sg va tv) (AccNf_e q A k xs cs c cd lc sg va tv) :=
  Y.seg (AccNf_r q A k xs cs c cd lc sg va tv ) (show List.Nodup [3, 4, 5, 6, 7, 8, 9, 10] by decide) (fun i hN => .cons (ok1 rfl rfl rfl (sok_next _ _ _ _ _ _ _ _ h0)) (.cons (ok1 rfl rfl rfl (sok_push _ _ _ _ _ h1)) (.cons (okv (h2 ▸ sok_scontains _ _ _ _)) (.cons (okv (sok_neg _ _)) (.cons (ok_pop _ _ _ _ _ _ h3) (AllOk.nil))))))
noncomputable def AccE_a (q : Qd) (A : LA) (k : Nat) (xs cs : Array Value) (va : Str) (tv : Tok) : SG := ⟨192, denF (cAcc A (.str va tv)), cAcc A (.str va tv), [], lxD A false k none xs cs, (GR A), hz 103 0x0e0000fff354ffff4fff4fff4333322222080d663f22fff2fff20ff444443f22fff2fff20e0000ffff21ffff1fff1fff10e0000ff, [5, 6, 7, 8, 9, 10]⟩
noncomputable def AccE_s (q : Qd) (A : LA) (k : Nat) (xs cs : Array Value) (va : Str) (tv : Tok) (i : In) : List Spec := [spEnd A.it A.cl 6 7 cs (i.ν 5).n (k : Nat)]
noncomputable def AccE_e (q : Qd) (A : LA) (k : Nat) (xs cs : Array Value) (va : Str) (tv : Tok) (i : In) : SE := ⟨.pure (.done (.ret (.bool false))), none, [], lxD A true k none xs cs, (GR A)⟩
theorem AccE_r (q : Qd) (A : LA) (k : Nat) (xs cs : Array Value) (va : Str) (tv : Tok)  : RunsA (K4 q) (AccE_a q A k xs cs va tv) (AccE_s q A k xs cs va tv) (fun _ => []) (AccE_e q A k xs cs va tv) := by
  intro W i; (kernel_rfl)
theorem AccE {q : Qd} (Y : Sys (K4 q)) (A : LA) (k : Nat) (xs cs : Array Value) (va : Str) (tv : Tok)  (h0 : cs[k]? = none) : SegT Y (AccE_a q A k xs cs va tv) (AccE_e q A k xs cs va tv) :=
  Y.seg (AccE_r q A k xs cs va tv ) (show List.Nodup [5, 6, 7, 8, 9, 10] by decide) (fun i hN => .cons (ok_end _ _ _ _ _ _ _ h0) (AllOk.nil))
noncomputable def AccX_a (q : Qd) (A : LA) (k : Nat) (xs cs : Array Value) (va : Str) (tv : Tok) : SG := ⟨200, denF (cAcc A (.str va tv)), cAcc A (.str va tv), [], lxD A true k none xs cs, (GR A), hz 104 0x0e0000fff354ffff4fff4fff4333322222066663f22fff2fff20ff444443f22fff2fff20e0000ffff21ffff1fff1fff10e0000ff, [5, 6, 7, 8, 9, 10]⟩
noncomputable def AccX_s (q : Qd) (A : LA) (k : Nat) (xs cs : Array Value) (va : Str) (tv : Tok) (i : In) : List Spec := []
noncomputable def AccX_e (q : Qd) (A : LA) (k : Nat) (xs cs : Array Value) (va : Str) (tv : Tok) (i : In) : SE := ⟨.pure (.done (.ret (.bool false))), none, [], lxD A true k none xs cs, (GR A)⟩
theorem AccX_r (q : Qd) (A : LA) (k : Nat) (xs cs : Array Value) (va : Str) (tv : Tok)  : RunsA (K4 q) (AccX_a q A k xs cs va tv) (AccX_s q A k xs cs va tv) (fun _ => []) (AccX_e q A k xs cs va tv) := by
  intro W i; (kernel_rfl)
theorem AccX {q : Qd} (Y : Sys (K4 q)) (A : LA) (k : Nat) (xs cs : Array Value) (va : Str) (tv : Tok)   : SegT Y (AccX_a q A k xs cs va tv) (AccX_e q A k xs cs va tv) :=
  Y.seg (AccX_r q A k xs cs va tv ) (show List.Nodup [5, 6, 7, 8, 9, 10] by decide) (fun i hN => AllOk.nil)
noncomputable def AccLt_a (q : Qd) (A : LA) (k : Nat) (xs cs : Array Value) (e : Bool) (c cd lc : Addr) (sg : Str) (va : Addr) (vs : Array Value) : SG := ⟨225, denF (cAcc A (.ref va)), cAcc A (.ref va), [], lxD A e k (some c) xs cs ++ chD c cd lc sg ++ ([(va, .arr c_list vs)] : DM), (GR A), hz 132 0x81daa19f88fff8fff81fff8fff81110080d055553f22fff2fff20fff8fff80004444444443f22fff2fff20444443f22fff2fff20e0000ffff21ffff1fff1fff10e0000ff, [2, 3, 4, 5, 6, 7, 8, 9, 10]⟩
noncomputable def AccLt_s (q : Qd) (A : LA) (k : Nat) (xs cs : Array Value) (e : Bool) (c cd lc : Addr) (sg : Str) (va : Addr) (vs : Array Value) (i : In) : List Spec := [spPush A.ct 5 xs (i.ν 3).n (.ref c),
  spHas va 10 vs (i.ν 8).n (.str (sg) (i.τ 7 1)) true]
noncomputable def AccLt_e (q : Qd) (A : LA) (k : Nat) (xs cs : Array Value) (e : Bool) (c cd lc : Addr) (sg : Str) (va : Addr) (vs : Array Value) (i : In) : SE := ⟨.pure (.done (.ret (.bool true))), none, [], lxD A e k none (xs.push (.ref c)) cs ++ chD c cd lc sg ++ ([(va, .arr c_list vs)] : DM), (GR A)⟩
theorem AccLt_r (q : Qd) (A : LA) (k : Nat) (xs cs : Array Value) (e : Bool) (c cd lc : Addr) (sg : Str) (va : Addr) (vs : Array Value)  : RunsA (K4 q) (AccLt_a q A k xs cs e c cd lc sg va vs) (AccLt_s q A k xs cs e c cd lc sg va vs) (fun _ => []) (AccLt_e q A k xs cs e c cd lc sg va vs) := by
  intro W i; cases e <;> (kernel_rfl)
theorem AccLt {q : Qd} (Y : Sys (K4 q)) (A : LA) (k : Nat) (xs cs : Array Value) (e : Bool) (c cd lc : Addr) (sg : Str) (va : Addr) (vs : Array Value)  (h0 : xs.size ≤ sizeLine) (h1 : HasS vs (sg) true) : SegT Y (AccLt_a q A k xs cs e c cd lc sg va vs) (AccLt_e q A k xs cs e c cd lc sg va vs) :=
  Y.seg (AccLt_r q A k xs cs e c cd lc sg va vs ) (show List.Nodup [2, 3, 4, 5, 6, 7, 8, 9, 10] by decide) (fun i hN => .cons (ok1 rfl rfl rfl (sok_push _ _ _ _ _ h0)) (.cons (ok_has _ _ _ _ _ _ _ h1) (AllOk.nil)))
noncomputable def AccLf_a (q : Qd) (A : LA) (k : Nat) (xs cs : Array Value) (e : Bool) (c cd lc : Addr) (sg : Str) (va : Addr) (vs : Array Value) : SG := ⟨350, denF (cAcc A (.ref va)), cAcc A (.ref va), [], lxD A e k (some c) xs cs ++ chD c cd lc sg ++ ([(va, .arr c_list vs)] : DM), (GR A), hz 207 0x5555055554f33fff3fff3083d82d66664f33fff3fff30fff9fff90e0000fff132ffff2fff2fff2181daa19f88fff8fff81fff8fff81110080d055553f22fff2fff20fff8fff80004444444443f22fff2fff20444443f22fff2fff20e0000ffff21ffff1fff1fff10e0000ff, [3, 4, 5, 6, 7, 8, 9, 10, 11]⟩
noncomputable def AccLf_s (q : Qd) (A : LA) (k : Nat) (xs cs : Array Value) (e : Bool) (c cd lc : Addr) (sg : Str) (va : Addr) (vs : Array Value) (i : In) : List Spec := [spPush A.ct 5 xs (i.ν 3).n (.ref c),
  spHas va 10 vs (i.ν 8).n (.str (sg) (i.τ 7 1)) false,
  spV (callB "int.__neg__" [.int (1) (i.T + 16)]) (.int (-(1))) 1,
  spPop A.ct 6 xs ((i.ν 3).n + 1) (.ref c) (i.T + 17)]
noncomputable def AccLf_e (q : Qd) (A : LA) (k : Nat) (xs cs : Array Value) (e : Bool) (c cd lc : Addr) (sg : Str) (va : Addr) (vs : Array Value) (i : In) : SE := ⟨.pure (.done (.ret (.bool false))), none, [], lxD A e k (some c) xs cs ++ chD c cd lc sg ++ ([(va, .arr c_list vs)] : DM), (GR A)⟩
theorem AccLf_r (q : Qd) (A : LA) (k : Nat) (xs cs : Array Value) (e : Bool) (c cd lc : Addr) (sg : Str) (va : Addr) (vs : Array Value)  : RunsA (K4 q) (AccLf_a q A k xs cs e c cd lc sg va vs) (AccLf_s q A k xs cs e c cd lc sg va vs) (fun _ => []) (AccLf_e q A k xs cs e c cd lc sg va vs) := by
  intro W i; cases e <;> (kernel_rfl)
theorem AccLf {q : Qd} (Y : Sys (K4 q)) (A : LA) (k : Nat) (xs cs : Array Value) (e : Bool) (c cd lc : Addr) (sg : Str) (va : Addr) (vs : Array Value)  (h0 : xs.size ≤ sizeLine) (h1 : HasS vs (sg) false) (h2 : xs.size < sizeLine) : SegT Y (AccLf_a q A k xs cs e c cd lc sg va vs) (AccLf_e q A k xs cs e c cd lc sg va vs) :=
  Y.seg (AccLf_r q A k xs cs e c cd lc sg va vs ) (show List.Nodup [3, 4, 5, 6, 7, 8, 9, 10, 11] by decide) (fun i hN => .cons (ok1 rfl rfl rfl (sok_push _ _ _ _ _ h0)) (.cons (ok_has _ _ _ _ _ _ _ h1) (.cons (okv (sok_neg _ _)) (.cons (ok_pop _ _ _ _ _ _ h2) (AllOk.nil)))))
noncomputable def AccLX_a (q : Qd) (A : LA) (k : Nat) (xs cs : Array Value) (va : Addr) (vs : Array Value) : SG := ⟨200, denF (cAcc A (.ref va)), cAcc A (.ref va), [], lxD A true k none xs cs ++ ([(va, .arr c_list vs)] : DM), (GR A), hz 104 0x0e0000fff354ffff4fff4fff4333322222066663f22fff2fff20ff444443f22fff2fff20e0000ffff21ffff1fff1fff10e0000ff, [5, 6, 7, 8, 9, 10, 11]⟩
noncomputable def AccLX_s (q : Qd) (A : LA) (k : Nat) (xs cs : Array Value) (va : Addr) (vs : Array Value) (i : In) : List Spec := []
noncomputable def AccLX_e (q : Qd) (A : LA) (k : Nat) (xs cs : Array Value) (va : Addr) (vs : Array Value) (i : In) : SE := ⟨.pure (.done (.ret (.bool false))), none, [], lxD A true k none xs cs ++ ([(va, .arr c_list vs)] : DM), (GR A)⟩
theorem AccLX_r (q : Qd) (A : LA) (k : Nat) (xs cs : Array Value) (va : Addr) (vs : Array Value)  : RunsA (K4 q) (AccLX_a q A k xs cs va vs) (AccLX_s q A k xs cs va vs) (fun _ => []) (AccLX_e q A k xs cs va vs) := by
  intro W i; (kernel_rfl)
theorem AccLX {q : Qd} (Y : Sys (K4 q)) (A : LA) (k : Nat) (xs cs : Array Value) (va : Addr) (vs : Array Value)   : SegT Y (AccLX_a q A k xs cs va vs) (AccLX_e q A k xs cs va vs) :=
  Y.seg (AccLX_r q A k xs cs va vs ) (show List.Nodup [5, 6, 7, 8, 9, 10, 11] by decide) (fun i hN => AllOk.nil)
end Mine
end
section
set_option maxRecDepth 100000
namespace Mine
open PySem PySem.W PySem.W.X
inductive Op where
  | p | b | c
noncomputable def Op.o : Op → Nat
  | .p => 40 | .b => 91 | .c => 123
noncomputable def Op.d : Op → Nat
  | .p => 41 | .b => 93 | .c => 125
noncomputable def Op.pk {α : Sort _} (x y z : α) : Op → α
  | .p => x | .b => y | .c => z
structure PT where
  a : Tok
  a' : Tok
  b : Tok
  b' : Tok
  c : Tok
  c' : Tok
  n : Nat
noncomputable def dpE (P : Params) (x : PT) : Array DictEntry := ⟨[⟨hE P [40], .str ⟨⟨[40]⟩⟩ x.a, .str ⟨⟨[41]⟩⟩ x.a'⟩, ⟨hE P [91], .str ⟨⟨[91]⟩⟩ x.b, .str ⟨⟨[93]⟩⟩ x.b'⟩, ⟨hE P [123], .str ⟨⟨[123]⟩⟩ x.c, .str ⟨⟨[125]⟩⟩ x.c'⟩]⟩
noncomputable def dpO (P : Params) (x : PT) : Obj := ⟨.type c_dict, none, .dict (dpE P x) x.n, #[]⟩
noncomputable def spGet (d : Addr) (i : Nat) (P : Params) (x : PT) (j : Op) (t : Tok) : Spec := ⟨callB "dict.__getitem__" [.ref d, .str ⟨⟨[j.o]⟩⟩ t], [(i, d, dpO P x)], [], fun _ _ => .ok (.ret (.str ⟨⟨[j.d]⟩⟩ (j.pk x.a' x.b' x.c'))), 1, fun _ => [], false⟩
noncomputable def spIn (d : Addr) (i : Nat) (P : Params) (x : PT) (sg : Nat) (t : Tok) (b : Bool) : Spec := ⟨callB "dict.__contains__" [.ref d, .str ⟨⟨[sg]⟩⟩ t], [(i, d, dpO P x)], [], fun _ _ => .ok (.ret (.bool b)), 1, fun _ => [], false⟩
section
variable {prog : Program} {w : World}
theorem sok_meetsIn {id : String} {B : Builtin} {vs : List Value} {T : PySem.Spec} (g : MeetsIn prog w (B ⟨vs, []⟩) T) (plain : plainId id = true) (entry : entryFor table id = some B) {S : Spec} (hc : S.code = callB id vs)
    (chk : Chk id vs fun s => ∀ x ∈ S.pre, s.heap.get? x.2.1 = some x.2.2)
    (hT : ∀ (A : Around) (R : Result → Shared → Prop) (s : Shared), (∀ x ∈ S.pre, s.heap.get? x.2.1 = some x.2.2) → (S.calm = true → A.handled = none) → (∀ s', Eff S s s' → R (S.res s.toks s.heap.objs.size) s') → T A R s) : SpecOK (model prog w) S :=
  spec_of_any fun A s R hp hcl hR => by
    rw [hc]
    exact codeAny_call_builtin plain entry (chk _ _ _ _ _ hp (g A R s (hT A R s hp hcl hR)))
theorem ok_modk {K : Top} (a : Int) (t : Tok) (b : Int) (u : Tok) (k : Int) (hb : b ≠ 0) (h : a.fmod b = k) : OkS K (spV (II "int.__mod__" a t b u) (.int k) 1) := by subst h; exact okv (sok_mod _ _ _ _ hb)
theorem dp_map {s : Shared} {d : Addr} {x : PT} (h : s.heap.get? d = some (dpO w.params x)) : s.heap.MapOf (strKind prog w) d (fun k => findBy (strKind prog w).is (dpE w.params x) k) :=
  ⟨_, dpE w.params x, x.n, h, ⟨rfl, rfl, rfl⟩, rfl, fun e he => by
    simp only [dpE, List.mem_toArray, List.mem_cons, List.not_mem_nil, or_false] at he
    rcases he with rfl | rfl | rfl
    · exact ⟨⟨⟨[40]⟩⟩, by simp [strKind, Value.isStrOf], rfl⟩
    · exact ⟨⟨⟨[91]⟩⟩, by simp [strKind, Value.isStrOf], rfl⟩
    · exact ⟨⟨⟨[123]⟩⟩, by simp [strKind, Value.isStrOf], rfl⟩, fun _ => rfl⟩
theorem dp_find (x : PT) (sg : Nat) : findBy (strKind prog w).is (dpE w.params x) ⟨⟨[sg]⟩⟩ = if sg = 40 then some (.str ⟨⟨[41]⟩⟩ x.a') else if sg = 91 then some (.str ⟨⟨[93]⟩⟩ x.b') else if sg = 123 then some (.str ⟨⟨[125]⟩⟩ x.c') else none := by
  have e : ∀ (a : Nat) (t : Tok), (strKind prog w).is ⟨⟨[sg]⟩⟩ (.str ⟨⟨[a]⟩⟩ t) = decide (sg = a) := by
    intro a t
    show (({ cps := ⟨[a]⟩ } : Str) == { cps := ⟨[sg]⟩ }) = _
    by_cases h : sg = a
    · subst h; simp
    · simp only [h, decide_false, beq_eq_false_iff_ne, ne_eq, Str.mk.injEq, Array.mk.injEq, List.cons.injEq, and_true]
      exact fun q => h q.symm
  unfold findBy dpE
  simp only [List.find?_toArray, List.find?_cons, e, List.find?_nil]
  by_cases h1 : sg = 40
  · simp [h1]
  · by_cases h2 : sg = 91
    · simp [h2]
    · by_cases h3 : sg = 123
      · simp [h3]
      · simp [h1, h2, h3]
theorem ok_get {K : Top} (d : Addr) (i : Nat) (x : PT) (j : Op) (t : Tok) : OkS K (spGet d i K.w.params x j t) := okr rfl rfl <| by
  refine sok_meetsIn (T := _) (S := spGet d i K.w.params x j t) (meets_dict_getitem (knd := strKind K.prog K.w) (k := ⟨⟨[j.o]⟩⟩) (key := .str ⟨⟨[j.o]⟩⟩ t) d (by simp [strKind, Value.isStrOf])) F.slot_dict_getitem.plain F.entry_dict_getitem rfl
    (chk_slot F.slot_dict_getitem (F.args_dict_getitem_2 _ _) fun s hp => (dp_map (prog := K.prog) (hp _ (List.mem_cons_self ..))).typeIs) fun A R s hp _ hR => ⟨_, .str ⟨⟨[j.d]⟩⟩ (j.pk x.a' x.b' x.c'), dp_map (hp _ (List.mem_cons_self ..)), ?_, hR _ ⟨⟨_, ⟨rfl, fun _ => rfl⟩, rfl⟩, rfl, rfl, rfl, rfl⟩⟩
  rw [dp_find]
  cases j <;> rfl
theorem ok_in {K : Top} (d : Addr) (i : Nat) (x : PT) (sg : Nat) (t : Tok) (b : Bool) (hb : (sg = 40 ∨ sg = 91 ∨ sg = 123) ↔ b = true) (hd : (d == sysModules) = false) : OkS K (spIn d i K.w.params x sg t b) := okr rfl rfl <| by
  refine sok_meetsIn (T := _) (S := spIn d i K.w.params x sg t b) (meets_dict_contains (knd := strKind K.prog K.w) (k := ⟨⟨[sg]⟩⟩) (key := .str ⟨⟨[sg]⟩⟩ t) d (by simp [strKind, Value.isStrOf]) hd) F.slot_dict_contains.plain F.entry_dict_contains rfl
    (chk_slot F.slot_dict_contains (F.args_dict_contains_2 _ _) fun s hp => (dp_map (prog := K.prog) (hp _ (List.mem_cons_self ..))).typeIs) fun A R s hp _ hR => ⟨_, dp_map (hp _ (List.mem_cons_self ..)), ?_⟩
  have e : (findBy (strKind K.prog K.w).is (dpE K.w.params x) ⟨⟨[sg]⟩⟩).isSome = b := by
    rw [dp_find]
    by_cases h1 : sg = 40
    · simp [h1] at hb ⊢; exact hb
    · by_cases h2 : sg = 91
      · simp [h2] at hb ⊢; exact hb
      · by_cases h3 : sg = 123
        · simp [h3] at hb ⊢; exact hb
        · simp [h1, h2, h3] at hb ⊢; exact hb
  rw [e]
  exact hR _ ⟨⟨_, ⟨rfl, fun _ => rfl⟩, rfl⟩, rfl, rfl, rfl, rfl⟩
end
end Mine
end
section
set_option maxRecDepth 100000
namespace Mine
open PySem PySem.W PySem.W.X
noncomputable def cIadd (l g : Addr) : Code := .builtin "list.__iadd__" ⟨[.ref l, .ref g], []⟩
theorem iadd_is (l g : Addr) : denF (cIadd l g) = PySem.W.Fast.tw8938917530802602619 (.ref l) (.ref g) (.ref l) := by kernel_rfl
theorem same_ne {l g : Addr} (h : l ≠ g) : Builtin.List.listSameRef (.ref l) (.ref g) = false := by simp [Builtin.List.listSameRef, h]
noncomputable def altIadd (l g : Addr) (h : l ≠ g) : Alt := by
  refine ⟨cIadd l g, ?t, ?h⟩
  case h =>
    refine (iadd_is l g).trans ?_
    unfold PySem.W.Fast.tw8938917530802602619
    rw [same_ne h]
theorem off_ne {a b : Nat} (n : Nat) (h : a ≠ b) : n + a ≠ n + b := by omega
end Mine
end
section
set_option linter.unusedVariables false
set_option linter.unusedSimpArgs false
set_option maxRecDepth 100000
set_option maxHeartbeats 0
namespace Mine
open PySem PySem.W PySem.W.X
noncomputable def bcD (A : LA) : OD := .fields c_code [.str ⟨⟨[98, 114, 97, 99, 107, 101, 116]⟩⟩, .str ⟨⟨[95, 108, 97, 119, 95, 114, 101, 97, 100, 46, 60, 108, 111, 99, 97, 108, 115, 62, 46, 98, 114, 97, 99, 107, 101, 116]⟩⟩, .str ⟨⟨[47, 99, 108, 97, 105, 109, 47, 99, 117, 116, 46, 112, 121]⟩⟩, .raw (.int 141 0), .raw (.int 0 0), .raw (.int 0 0), .raw (.int 0 0), .raw (.int 19 0), .ref (A.b + 13), .bool true, .raw (.int 181 0), .ref (A.b + 14), .none, .ref (A.b + 15), .ref (A.b + 16), .ref (A.b + 17), .raw (.int A.zb 0), .raw (.int 141 0), .str ⟨⟨[47, 99, 108, 97, 105, 109, 47, 99, 117, 116, 46, 112, 121]⟩⟩]
noncomputable def scD (A : LA) : OD := .fields c_code [.str ⟨⟨[115, 116, 97, 114, 116]⟩⟩, .str ⟨⟨[95, 108, 97, 119, 95, 114, 101, 97, 100, 46, 60, 108, 111, 99, 97, 108, 115, 62, 46, 115, 116, 97, 114, 116]⟩⟩, .str ⟨⟨[47, 99, 108, 97, 105, 109, 47, 99, 117, 116, 46, 112, 121]⟩⟩, .raw (.int 152 0), .raw (.int 0 0), .raw (.int 0 0), .raw (.int 0 0), .raw (.int 19 0), .ref (A.b + 21), .bool true, .raw (.int 181 0), .ref (A.b + 22), .none, .ref (A.b + 23), .ref (A.b + 24), .ref (A.b + 25), .raw (.int A.zs 0), .raw (.int 152 0), .str ⟨⟨[47, 99, 108, 97, 105, 109, 47, 99, 117, 116, 46, 112, 121]⟩⟩]
noncomputable def rdB (P : Params) (A : LA) : DM := [(A.fbr, .raw (brO P A)), (A.bcode, bcD A), (A.ch, .cell (some (.ref A.sf))), (A.cbr, .cell (some (.ref A.fbr)))]
noncomputable def tnD (A : LA) (tn : Int) : DM := [(A.ctn, .cell (some (.ref A.tn))), (A.tn, .seq c_list [.int tn])]
noncomputable def lvF (L : Addr) (sg : Nat) : DM := [(L, .frq [([115, 105, 103, 110], .str ⟨⟨[sg]⟩⟩)])]
noncomputable def lvI (L : Addr) (k : Int) : DM := [(L + 1, .fields c_strit [.str ⟨⟨[40, 91, 123]⟩⟩, .raw (.int k 0)])]
noncomputable def oB0 (P : Params) (A : LA) (L : Nat) : Out := run (V0t P (L) (0)) 58 (denF (cBr A)) (cBr A) default ([]) (memOf P (fun _ _ => 0) (fun _ => ⟨0, #[]⟩) 0 (smD A ++ rdB P A)) 0 0 ([]) 0 (hz 30 0xf132ffff2fff2fff26110000000e32) []
noncomputable def fsB (P : Params) (A : LA) (L : Nat) : List Frame := (oB0 P A L).fs
noncomputable def BR0_a (q : Qd) (A : LA) : SG := ⟨58, denF (cBr A), cBr A, [], smD A ++ rdB q.P A, (GR A), hz 30 0xf132ffff2fff2fff26110000000e32, [2, 3, 4, 5, 6, 7, 1, 0]⟩
noncomputable def BR0_s (q : Qd) (A : LA) (i : In) : List Spec := []
noncomputable def BR0_e (q : Qd) (A : LA) (i : In) : SE := ⟨denF (cAcc A (.str (⟨⟨[40]⟩⟩) (i.T + 1))), some (cAcc A (.str (⟨⟨[40]⟩⟩) (i.T + 1))), fsB q.P A i.N, smD A ++ (rdB q.P A ++ (lvF i.N 40 ++ lvI i.N 1)), (GR A)⟩
theorem BR0_r (q : Qd) (A : LA)  : RunsA (K4 q) (BR0_a q A) (BR0_s q A) (fun _ => []) (BR0_e q A) := by
  intro W i; obtain ⟨w, s₀, b1, b2⟩ := q; cases b1 <;> (kernel_rfl)
theorem BR0 {q : Qd} (Y : Sys (K4 q)) (A : LA)   : SegT Y (BR0_a q A) (BR0_e q A) :=
  Y.seg (BR0_r q A ) (show List.Nodup [2, 3, 4, 5, 6, 7, 1, 0] by decide) (fun i hN => AllOk.nil)
noncomputable def BRn1_a (q : Qd) (A : LA) (L : Nat) (c₀ : Code) : SG := ⟨47, .pure (.done (.ret (.bool false))), c₀, fsB q.P A L, smD A ++ (([(A.ch, .cell (some (.ref A.sf)))] : DM) ++ (lvF L 40 ++ lvI L 1)), (GR A), hz 26 0xf310ffff0fff0fff0233444444, [0, 1, 2, 3, 4]⟩
noncomputable def BRn1_s (q : Qd) (A : LA) (L : Nat) (c₀ : Code) (i : In) : List Spec := []
noncomputable def BRn1_e (q : Qd) (A : LA) (L : Nat) (c₀ : Code) (i : In) : SE := ⟨denF (cAcc A (.str (⟨⟨[91]⟩⟩) (i.T + 0))), some (cAcc A (.str (⟨⟨[91]⟩⟩) (i.T + 0))), fsB q.P A L, smD A ++ (([(A.ch, .cell (some (.ref A.sf)))] : DM) ++ (lvF L 91 ++ lvI L 2)), (GR A)⟩
theorem BRn1_r (q : Qd) (A : LA) (L : Nat) (c₀ : Code)  : RunsA (K4 q) (BRn1_a q A L c₀) (BRn1_s q A L c₀) (fun _ => []) (BRn1_e q A L c₀) := by
  intro W i; obtain ⟨w, s₀, b1, b2⟩ := q; cases b1 <;> (kernel_rfl)
theorem BRn1 {q : Qd} (Y : Sys (K4 q)) (A : LA) (L : Nat) (c₀ : Code)   : SegT Y (BRn1_a q A L c₀) (BRn1_e q A L c₀) :=
  Y.seg (BRn1_r q A L c₀ ) (show List.Nodup [0, 1, 2, 3, 4] by decide) (fun i hN => AllOk.nil)
noncomputable def BRn2_a (q : Qd) (A : LA) (L : Nat) (c₀ : Code) : SG := ⟨47, .pure (.done (.ret (.bool false))), c₀, fsB q.P A L, smD A ++ (([(A.ch, .cell (some (.ref A.sf)))] : DM) ++ (lvF L 91 ++ lvI L 2)), (GR A), hz 26 0xf310ffff0fff0fff0233444444, [0, 1, 2, 3, 4]⟩
noncomputable def BRn2_s (q : Qd) (A : LA) (L : Nat) (c₀ : Code) (i : In) : List Spec := []
noncomputable def BRn2_e (q : Qd) (A : LA) (L : Nat) (c₀ : Code) (i : In) : SE := ⟨denF (cAcc A (.str (⟨⟨[123]⟩⟩) (i.T + 0))), some (cAcc A (.str (⟨⟨[123]⟩⟩) (i.T + 0))), fsB q.P A L, smD A ++ (([(A.ch, .cell (some (.ref A.sf)))] : DM) ++ (lvF L 123 ++ lvI L 3)), (GR A)⟩
theorem BRn2_r (q : Qd) (A : LA) (L : Nat) (c₀ : Code)  : RunsA (K4 q) (BRn2_a q A L c₀) (BRn2_s q A L c₀) (fun _ => []) (BRn2_e q A L c₀) := by
  intro W i; obtain ⟨w, s₀, b1, b2⟩ := q; cases b1 <;> (kernel_rfl)
theorem BRn2 {q : Qd} (Y : Sys (K4 q)) (A : LA) (L : Nat) (c₀ : Code)   : SegT Y (BRn2_a q A L c₀) (BRn2_e q A L c₀) :=
  Y.seg (BRn2_r q A L c₀ ) (show List.Nodup [0, 1, 2, 3, 4] by decide) (fun i hN => AllOk.nil)
noncomputable def BRz_a (q : Qd) (A : LA) (L : Nat) (c₀ : Code) : SG := ⟨23, .pure (.done (.ret (.bool false))), c₀, fsB q.P A L, smD A ++ (([(A.ch, .cell (some (.ref A.sf)))] : DM) ++ (lvF L 123 ++ lvI L 3)), (GR A), hz 7 0x0444444, [2, 3, 4]⟩
noncomputable def BRz_s (q : Qd) (A : LA) (L : Nat) (c₀ : Code) (i : In) : List Spec := []
noncomputable def BRz_e (q : Qd) (A : LA) (L : Nat) (c₀ : Code) (i : In) : SE := ⟨.pure (.done (.ret (.bool false))), none, [], smD A ++ ([(A.ch, .cell (some (.ref A.sf)))] : DM), (GR A)⟩
theorem BRz_r (q : Qd) (A : LA) (L : Nat) (c₀ : Code)  : RunsA (K4 q) (BRz_a q A L c₀) (BRz_s q A L c₀) (fun _ => []) (BRz_e q A L c₀) := by
  intro W i; (kernel_rfl)
theorem BRz {q : Qd} (Y : Sys (K4 q)) (A : LA) (L : Nat) (c₀ : Code)   : SegT Y (BRz_a q A L c₀) (BRz_e q A L c₀) :=
  Y.seg (BRz_r q A L c₀ ) (show List.Nodup [2, 3, 4] by decide) (fun i hN => AllOk.nil)
noncomputable def oBT (P : Params) (A : LA) (L : Nat) : Out := run (V0t P (0) (0)) 28 (.pure (.done (.ret (.bool true)))) (.builtin "" {}) default (fsB P A L) (memOf P (fun _ _ => 0) (fun _ => ⟨0, #[]⟩) 0 (smD A ++ ([(A.ch, .cell (some (.ref A.sf)))] : DM))) 0 0 ([]) 0 (hz 17 0xf10ffff0fff0fff02) []
noncomputable def fsW (P : Params) (A : LA) (L : Nat) : List Frame := (oBT P A L).fs
noncomputable def BRt_a (q : Qd) (A : LA) (L : Nat) (c₀ : Code) : SG := ⟨28, .pure (.done (.ret (.bool true))), c₀, fsB q.P A L, smD A ++ ([(A.ch, .cell (some (.ref A.sf)))] : DM), (GR A), hz 17 0xf10ffff0fff0fff02, [0, 1, 2]⟩
noncomputable def BRt_s (q : Qd) (A : LA) (L : Nat) (c₀ : Code) (i : In) : List Spec := []
noncomputable def BRt_e (q : Qd) (A : LA) (L : Nat) (c₀ : Code) (i : In) : SE := ⟨denF (cAcc A (.str (⟨⟨[97, 32]⟩⟩) (i.T + 0))), some (cAcc A (.str (⟨⟨[97, 32]⟩⟩) (i.T + 0))), fsW q.P A L, smD A ++ ([(A.ch, .cell (some (.ref A.sf)))] : DM), (GR A)⟩
theorem BRt_r (q : Qd) (A : LA) (L : Nat) (c₀ : Code)  : RunsA (K4 q) (BRt_a q A L c₀) (BRt_s q A L c₀) (fun _ => []) (BRt_e q A L c₀) := by
  intro W i; obtain ⟨w, s₀, b1, b2⟩ := q; cases b1 <;> (kernel_rfl)
theorem BRt {q : Qd} (Y : Sys (K4 q)) (A : LA) (L : Nat) (c₀ : Code)   : SegT Y (BRt_a q A L c₀) (BRt_e q A L c₀) :=
  Y.seg (BRt_r q A L c₀ ) (show List.Nodup [0, 1, 2] by decide) (fun i hN => AllOk.nil)
noncomputable def oWF (P : Params) (A : LA) (L : Nat) : Out := run (V0t P (0) (0)) 8 (.pure (.done (.ret (.bool false)))) (.builtin "" {}) default (fsW P A L) (memOf P (fun _ _ => 0) (fun _ => ⟨0, #[]⟩) 0 (([(A.fbr, .raw (brO P A)), (A.cbr, .cell (some (.ref A.fbr)))] : DM))) 0 0 ([]) 0 (hz 2 0x01) []
noncomputable def fsO (P : Params) (A : LA) (L : Nat) : List Frame := (oWF P A L).fs
noncomputable def WHf_a (q : Qd) (A : LA) (L : Nat) (c₀ : Code) : SG := ⟨8, .pure (.done (.ret (.bool false))), c₀, fsW q.P A L, ([(A.fbr, .raw (brO q.P A)), (A.cbr, .cell (some (.ref A.fbr)))] : DM), (GR A), hz 2 0x01, [0, 1]⟩
noncomputable def WHf_s (q : Qd) (A : LA) (L : Nat) (c₀ : Code) (i : In) : List Spec := []
noncomputable def WHf_e (q : Qd) (A : LA) (L : Nat) (c₀ : Code) (i : In) : SE := ⟨denF (cBr A), some (cBr A), fsO q.P A L, ([(A.fbr, .raw (brO q.P A)), (A.cbr, .cell (some (.ref A.fbr)))] : DM), (GR A)⟩
theorem WHf_r (q : Qd) (A : LA) (L : Nat) (c₀ : Code)  : RunsA (K4 q) (WHf_a q A L c₀) (WHf_s q A L c₀) (fun _ => []) (WHf_e q A L c₀) := by
  intro W i; (kernel_rfl)
theorem WHf {q : Qd} (Y : Sys (K4 q)) (A : LA) (L : Nat) (c₀ : Code)   : SegT Y (WHf_a q A L c₀) (WHf_e q A L c₀) :=
  Y.seg (WHf_r q A L c₀ ) (show List.Nodup [0, 1] by decide) (fun i hN => AllOk.nil)
noncomputable def WHt_a (q : Qd) (A : LA) (L : Nat) (c₀ : Code) : SG := ⟨28, .pure (.done (.ret (.bool true))), c₀, fsW q.P A L, smD A ++ ([(A.ch, .cell (some (.ref A.sf)))] : DM), (GR A), hz 17 0xf10ffff0fff0fff02, [0, 1, 2]⟩
noncomputable def WHt_s (q : Qd) (A : LA) (L : Nat) (c₀ : Code) (i : In) : List Spec := []
noncomputable def WHt_e (q : Qd) (A : LA) (L : Nat) (c₀ : Code) (i : In) : SE := ⟨denF (cAcc A (.str (⟨⟨[97, 32]⟩⟩) (i.T + 0))), some (cAcc A (.str (⟨⟨[97, 32]⟩⟩) (i.T + 0))), fsW q.P A L, smD A ++ ([(A.ch, .cell (some (.ref A.sf)))] : DM), (GR A)⟩
theorem WHt_r (q : Qd) (A : LA) (L : Nat) (c₀ : Code)  : RunsA (K4 q) (WHt_a q A L c₀) (WHt_s q A L c₀) (fun _ => []) (WHt_e q A L c₀) := by
  intro W i; obtain ⟨w, s₀, b1, b2⟩ := q; cases b1 <;> (kernel_rfl)
theorem WHt {q : Qd} (Y : Sys (K4 q)) (A : LA) (L : Nat) (c₀ : Code)   : SegT Y (WHt_a q A L c₀) (WHt_e q A L c₀) :=
  Y.seg (WHt_r q A L c₀ ) (show List.Nodup [0, 1, 2] by decide) (fun i hN => AllOk.nil)
noncomputable def WBt_a (q : Qd) (A : LA) (L : Nat) (c₀ : Code) : SG := ⟨28, .pure (.done (.ret (.bool true))), c₀, fsO q.P A L, smD A ++ ([(A.ch, .cell (some (.ref A.sf)))] : DM), (GR A), hz 17 0xf10ffff0fff0fff02, [0, 1, 2]⟩
noncomputable def WBt_s (q : Qd) (A : LA) (L : Nat) (c₀ : Code) (i : In) : List Spec := []
noncomputable def WBt_e (q : Qd) (A : LA) (L : Nat) (c₀ : Code) (i : In) : SE := ⟨denF (cAcc A (.str (⟨⟨[97, 32]⟩⟩) (i.T + 0))), some (cAcc A (.str (⟨⟨[97, 32]⟩⟩) (i.T + 0))), fsW q.P A L, smD A ++ ([(A.ch, .cell (some (.ref A.sf)))] : DM), (GR A)⟩
theorem WBt_r (q : Qd) (A : LA) (L : Nat) (c₀ : Code)  : RunsA (K4 q) (WBt_a q A L c₀) (WBt_s q A L c₀) (fun _ => []) (WBt_e q A L c₀) := by
  intro W i; obtain ⟨w, s₀, b1, b2⟩ := q; cases b1 <;> (kernel_rfl)
theorem WBt {q : Qd} (Y : Sys (K4 q)) (A : LA) (L : Nat) (c₀ : Code)   : SegT Y (WBt_a q A L c₀) (WBt_e q A L c₀) :=
  Y.seg (WBt_r q A L c₀ ) (show List.Nodup [0, 1, 2] by decide) (fun i hN => AllOk.nil)
noncomputable def oXF (P : Params) (A : LA) (L : Nat) : Out := run (V0t P (0) (0)) 202 (.pure (.done (.ret (.bool false)))) (.builtin "" {}) default (fsO P A L) (memOf P (fun _ _ => 0) (fun _ => ⟨0, #[]⟩) 0 (smD A ++ (([(A.ch, .cell (some (.ref A.sf)))] : DM) ++ (tnD A 3 ++ lvF L 40)))) 0 0 ([]) 0 (hz 71 0xf00000999998887732ffff2fff2fff2477000000007000000000000effff44444444443) []
noncomputable def fsX (P : Params) (A : LA) (L : Nat) : List Frame := (oXF P A L).fs
noncomputable def WBf0_a (q : Qd) (A : LA) (L : Nat) (tn : Int) (j : Op) (c₀ : Code) : SG := ⟨177, .pure (.done (.ret (.bool false))), c₀, fsO q.P A L, smD A ++ (([(A.ch, .cell (some (.ref A.sf)))] : DM) ++ (tnD A tn ++ lvF L j.o)), (GR A), hz 69 0xf0000082d999998887732ffff2fff2fff247781d0007000000000000effff44444480d44443, [5, 6, 7, 8, 9, 10]⟩
noncomputable def WBf0_s (q : Qd) (A : LA) (L : Nat) (tn : Int) (j : Op) (c₀ : Code) (i : In) : List Spec := [spV (II "int.__add__" (tn) (i.τ 4 0) (1) (i.T + 1)) (.int ((tn) + (1))) 1,
  spGet (i.N + 1) 0 q.P ⟨(i.T + 3), (i.T + 4), (i.T + 5), (i.T + 6), (i.T + 7), (i.T + 8), 3⟩ j (i.τ 5 1),
  spV (II "int.__mod__" (((tn) + (1))) (i.T + 2) 4 (i.T + 18)) (.int 0) 1]
noncomputable def WBf0_e (q : Qd) (A : LA) (L : Nat) (tn : Int) (j : Op) (c₀ : Code) (i : In) : SE := ⟨denF (cExp A (.str ⟨⟨[j.d]⟩⟩ (j.pk (i.T + 4) (i.T + 6) (i.T + 8)))), some (cExp A (.str ⟨⟨[j.d]⟩⟩ (j.pk (i.T + 4) (i.T + 6) (i.T + 8)))), fsX q.P A L, smD A ++ (([(A.ch, .cell (some (.ref A.sf)))] : DM) ++ (tnD A (tn + 1) ++ ([(L, .frq [([115, 105, 103, 110], .str ⟨⟨[j.o]⟩⟩), ([112, 97, 114, 116, 110, 101, 114], .str ⟨⟨[j.d]⟩⟩)])] : DM))), (GR A)⟩
theorem WBf0_r (q : Qd) (A : LA) (L : Nat) (tn : Int) (j : Op) (c₀ : Code)  : RunsA (K4 q) (WBf0_a q A L tn j c₀) (WBf0_s q A L tn j c₀) (fun _ => []) (WBf0_e q A L tn j c₀) := by
  intro W i; obtain ⟨w, s₀, b1, b2⟩ := q; cases b1 <;> cases j <;> (kernel_rfl)
theorem WBf0 {q : Qd} (Y : Sys (K4 q)) (A : LA) (L : Nat) (tn : Int) (j : Op) (c₀ : Code)  (h0 : ((((tn) + (1)))).fmod 4 = 0) : SegT Y (WBf0_a q A L tn j c₀) (WBf0_e q A L tn j c₀) :=
  Y.seg (WBf0_r q A L tn j c₀ ) (show List.Nodup [5, 6, 7, 8, 9, 10] by decide) (fun i hN => .cons (okv (sok_add _ _ _ _ )) (.cons (ok_get _ _ _ _ _) (.cons (ok_modk _ _ _ _ _ (by decide) h0) (AllOk.nil))))
noncomputable def WBf1_a (q : Qd) (A : LA) (L : Nat) (tn : Int) (j : Op) (c₀ : Code) : SG := ⟨177, .pure (.done (.ret (.bool false))), c₀, fsO q.P A L, smD A ++ (([(A.ch, .cell (some (.ref A.sf)))] : DM) ++ (tnD A tn ++ lvF L j.o)), (GR A), hz 69 0xf0000082d999998887732ffff2fff2fff247781d0007000000000000effff44444480d44443, [5, 6, 7, 8, 9, 10, 2]⟩
noncomputable def WBf1_s (q : Qd) (A : LA) (L : Nat) (tn : Int) (j : Op) (c₀ : Code) (i : In) : List Spec := [spV (II "int.__add__" (tn) (i.τ 4 0) (1) (i.T + 1)) (.int ((tn) + (1))) 1,
  spGet (i.N + 1) 0 q.P ⟨(i.T + 3), (i.T + 4), (i.T + 5), (i.T + 6), (i.T + 7), (i.T + 8), 3⟩ j (i.τ 5 1),
  spV (II "int.__mod__" (((tn) + (1))) (i.T + 2) 4 (i.T + 18)) (.int 1) 1]
noncomputable def WBf1_e (q : Qd) (A : LA) (L : Nat) (tn : Int) (j : Op) (c₀ : Code) (i : In) : SE := ⟨denF (cExp A (.ref (i.N + 2))), some (cExp A (.ref (i.N + 2))), fsX q.P A L, smD A ++ (([(A.ch, .cell (some (.ref A.sf)))] : DM) ++ (tnD A (tn + 1) ++ (([(L, .frq [([115, 105, 103, 110], .str ⟨⟨[j.o]⟩⟩), ([112, 97, 114, 116, 110, 101, 114], .str ⟨⟨[j.d]⟩⟩)])] : DM) ++ [((i.N + 2), .seq c_list [.str ⟨⟨[j.d]⟩⟩])]))), (GR A)⟩
theorem WBf1_r (q : Qd) (A : LA) (L : Nat) (tn : Int) (j : Op) (c₀ : Code)  : RunsA (K4 q) (WBf1_a q A L tn j c₀) (WBf1_s q A L tn j c₀) (fun _ => []) (WBf1_e q A L tn j c₀) := by
  intro W i; obtain ⟨w, s₀, b1, b2⟩ := q; cases b1 <;> cases j <;> (kernel_rfl)
theorem WBf1 {q : Qd} (Y : Sys (K4 q)) (A : LA) (L : Nat) (tn : Int) (j : Op) (c₀ : Code)  (h0 : ((((tn) + (1)))).fmod 4 = 1) : SegT Y (WBf1_a q A L tn j c₀) (WBf1_e q A L tn j c₀) :=
  Y.seg (WBf1_r q A L tn j c₀ ) (show List.Nodup [5, 6, 7, 8, 9, 10, 2] by decide) (fun i hN => .cons (okv (sok_add _ _ _ _ )) (.cons (ok_get _ _ _ _ _) (.cons (ok_modk _ _ _ _ _ (by decide) h0) (AllOk.nil))))
noncomputable def WBf2_a (q : Qd) (A : LA) (L : Nat) (tn : Int) (j : Op) (c₀ : Code) : SG := ⟨177, .pure (.done (.ret (.bool false))), c₀, fsO q.P A L, smD A ++ (([(A.ch, .cell (some (.ref A.sf)))] : DM) ++ (tnD A tn ++ lvF L j.o)), (GR A), hz 69 0xf0000082d999998887732ffff2fff2fff247781d0007000000000000effff44444480d44443, [5, 6, 7, 8, 9, 10]⟩
noncomputable def WBf2_s (q : Qd) (A : LA) (L : Nat) (tn : Int) (j : Op) (c₀ : Code) (i : In) : List Spec := [spV (II "int.__add__" (tn) (i.τ 4 0) (1) (i.T + 1)) (.int ((tn) + (1))) 1,
  spGet (i.N + 1) 0 q.P ⟨(i.T + 3), (i.T + 4), (i.T + 5), (i.T + 6), (i.T + 7), (i.T + 8), 3⟩ j (i.τ 5 1),
  spV (II "int.__mod__" (((tn) + (1))) (i.T + 2) 4 (i.T + 18)) (.int 2) 1]
noncomputable def WBf2_e (q : Qd) (A : LA) (L : Nat) (tn : Int) (j : Op) (c₀ : Code) (i : In) : SE := ⟨denF (cExp A (.str ⟨⟨[43, j.d]⟩⟩ (i.T + 15))), some (cExp A (.str ⟨⟨[43, j.d]⟩⟩ (i.T + 15))), fsX q.P A L, smD A ++ (([(A.ch, .cell (some (.ref A.sf)))] : DM) ++ (tnD A (tn + 1) ++ ([(L, .frq [([115, 105, 103, 110], .str ⟨⟨[j.o]⟩⟩), ([112, 97, 114, 116, 110, 101, 114], .str ⟨⟨[j.d]⟩⟩)])] : DM))), (GR A)⟩
theorem WBf2_r (q : Qd) (A : LA) (L : Nat) (tn : Int) (j : Op) (c₀ : Code)  : RunsA (K4 q) (WBf2_a q A L tn j c₀) (WBf2_s q A L tn j c₀) (fun _ => []) (WBf2_e q A L tn j c₀) := by
  intro W i; obtain ⟨w, s₀, b1, b2⟩ := q; cases b1 <;> cases j <;> (kernel_rfl)
theorem WBf2 {q : Qd} (Y : Sys (K4 q)) (A : LA) (L : Nat) (tn : Int) (j : Op) (c₀ : Code)  (h0 : ((((tn) + (1)))).fmod 4 = 2) : SegT Y (WBf2_a q A L tn j c₀) (WBf2_e q A L tn j c₀) :=
  Y.seg (WBf2_r q A L tn j c₀ ) (show List.Nodup [5, 6, 7, 8, 9, 10] by decide) (fun i hN => .cons (okv (sok_add _ _ _ _ )) (.cons (ok_get _ _ _ _ _) (.cons (ok_modk _ _ _ _ _ (by decide) h0) (AllOk.nil))))
noncomputable def WBf3_a (q : Qd) (A : LA) (L : Nat) (tn : Int) (j : Op) (c₀ : Code) : SG := ⟨177, .pure (.done (.ret (.bool false))), c₀, fsO q.P A L, smD A ++ (([(A.ch, .cell (some (.ref A.sf)))] : DM) ++ (tnD A tn ++ lvF L j.o)), (GR A), hz 69 0xf0000082d999998887732ffff2fff2fff247781d0007000000000000effff44444480d44443, [5, 6, 7, 8, 9, 10, 1]⟩
noncomputable def WBf3_s (q : Qd) (A : LA) (L : Nat) (tn : Int) (j : Op) (c₀ : Code) (i : In) : List Spec := [spV (II "int.__add__" (tn) (i.τ 4 0) (1) (i.T + 1)) (.int ((tn) + (1))) 1,
  spGet (i.N + 1) 0 q.P ⟨(i.T + 3), (i.T + 4), (i.T + 5), (i.T + 6), (i.T + 7), (i.T + 8), 3⟩ j (i.τ 5 1),
  spV (II "int.__mod__" (((tn) + (1))) (i.T + 2) 4 (i.T + 18)) (.int 3) 1]
noncomputable def WBf3_e (q : Qd) (A : LA) (L : Nat) (tn : Int) (j : Op) (c₀ : Code) (i : In) : SE := ⟨denF (cExp A (.ref (i.N + 3))), some (cExp A (.ref (i.N + 3))), fsX q.P A L, smD A ++ (([(A.ch, .cell (some (.ref A.sf)))] : DM) ++ (tnD A (tn + 1) ++ (([(L, .frq [([115, 105, 103, 110], .str ⟨⟨[j.o]⟩⟩), ([112, 97, 114, 116, 110, 101, 114], .str ⟨⟨[j.d]⟩⟩)])] : DM) ++ [((i.N + 3), .seq c_list [.str ⟨⟨[j.d]⟩⟩, .str ⟨⟨[45]⟩⟩])]))), (GR A)⟩
theorem WBf3_r (q : Qd) (A : LA) (L : Nat) (tn : Int) (j : Op) (c₀ : Code)  : RunsA (K4 q) (WBf3_a q A L tn j c₀) (WBf3_s q A L tn j c₀) (fun _ => []) (WBf3_e q A L tn j c₀) := by
  intro W i; obtain ⟨w, s₀, b1, b2⟩ := q; cases b1 <;> cases j <;> (kernel_rfl)
theorem WBf3 {q : Qd} (Y : Sys (K4 q)) (A : LA) (L : Nat) (tn : Int) (j : Op) (c₀ : Code)  (h0 : ((((tn) + (1)))).fmod 4 = 3) : SegT Y (WBf3_a q A L tn j c₀) (WBf3_e q A L tn j c₀) :=
  Y.seg (WBf3_r q A L tn j c₀ ) (show List.Nodup [5, 6, 7, 8, 9, 10, 1] by decide) (fun i hN => .cons (okv (sok_add _ _ _ _ )) (.cons (ok_get _ _ _ _ _) (.cons (ok_modk _ _ _ _ _ (by decide) h0) (AllOk.nil))))
noncomputable def XR_a (q : Qd) (A : LA) (L : Nat) (c₀ : Code) : SG := ⟨4, .pure (.done (.ret .none)), c₀, fsX q.P A L, ([] : DM), (GR A), hz 0 0x0, []⟩
noncomputable def XR_s (q : Qd) (A : LA) (L : Nat) (c₀ : Code) (i : In) : List Spec := []
noncomputable def XR_e (q : Qd) (A : LA) (L : Nat) (c₀ : Code) (i : In) : SE := ⟨.pure (.done (.ret (.bool true))), none, [], ([] : DM), (GR A)⟩
theorem XR_r (q : Qd) (A : LA) (L : Nat) (c₀ : Code)  : RunsA (K4 q) (XR_a q A L c₀) (XR_s q A L c₀) (fun _ => []) (XR_e q A L c₀) := by
  intro W i; (kernel_rfl)
theorem XR {q : Qd} (Y : Sys (K4 q)) (A : LA) (L : Nat) (c₀ : Code)   : SegT Y (XR_a q A L c₀) (XR_e q A L c₀) :=
  Y.seg (XR_r q A L c₀ ) (show List.Nodup [] by decide) (fun i hN => AllOk.nil)
end Mine
end
section
set_option linter.unusedVariables false
set_option linter.unusedSimpArgs false
set_option maxRecDepth 100000
set_option maxHeartbeats 0
namespace Mine
open PySem PySem.W PySem.W.X
noncomputable def cErr (A : LA) (v : Value) : Code := cFn 220 [.ref A.sf, v]
noncomputable def expEnv (P : Params) (Le : Addr) : Env := envF (fnOf (ob P 227)) 227 Le []
noncomputable def errEnv (P : Params) (Lr : Addr) : Env := envF (fnOf (ob P 220)) 220 Lr []
noncomputable def cErrB (P : Params) (Lr : Addr) : Code := .func (stmtsOf (fnOf (ob P 220))) (errEnv P Lr)
noncomputable def exF (A : LA) (L : Addr) (v : Value) : DM := [(L, .frq [([115, 101, 108, 102], .ref A.sf), ([118, 97, 108, 105, 100], .raw v)])]
noncomputable def oE0 (P : Params) (A : LA) (L : Nat) : Out := run (V0t P (L) (0)) 38 (denF (cExp A (.str ⟨⟨[41]⟩⟩ 7))) (cExp A (.str ⟨⟨[41]⟩⟩ 7)) default ([]) (memOf P (fun _ _ => 0) (fun _ => ⟨0, #[]⟩) 0 (smD A)) 0 0 ([]) 0 (hz 25 0xf021ffff1fff1fff10e0000ff) []
noncomputable def fsE (P : Params) (A : LA) (L : Nat) : List Frame := (oE0 P A L).fs
noncomputable def EX0_a (q : Qd) (A : LA) (v : SV) : SG := ⟨38, denF (cExp A v.val), cExp A v.val, [], smD A, (GR A), hz 25 0xf021ffff1fff1fff10e0000ff, [1, 2, 0]⟩
noncomputable def EX0_s (q : Qd) (A : LA) (v : SV) (i : In) : List Spec := []
noncomputable def EX0_e (q : Qd) (A : LA) (v : SV) (i : In) : SE := ⟨denF (cAcc A v.val), some (cAcc A v.val), fsE q.P A i.N, smD A ++ exF A i.N v.val, (GR A)⟩
theorem EX0_r (q : Qd) (A : LA) (v : SV)  : RunsA (K4 q) (EX0_a q A v) (EX0_s q A v) (fun _ => []) (EX0_e q A v) := by
  intro W i; obtain ⟨w, s₀, b1, b2⟩ := q; cases b1 <;> cases v <;> (kernel_rfl)
theorem EX0 {q : Qd} (Y : Sys (K4 q)) (A : LA) (v : SV)   : SegT Y (EX0_a q A v) (EX0_e q A v) :=
  Y.seg (EX0_r q A v ) (show List.Nodup [1, 2, 0] by decide) (fun i hN => AllOk.nil)
noncomputable def EXt_a (q : Qd) (A : LA) (L : Nat) (c₀ : Code) : SG := ⟨3, .pure (.done (.ret (.bool true))), c₀, fsE q.P A L, ([] : DM), (GR A), hz 0 0x0, []⟩
noncomputable def EXt_s (q : Qd) (A : LA) (L : Nat) (c₀ : Code) (i : In) : List Spec := []
noncomputable def EXt_e (q : Qd) (A : LA) (L : Nat) (c₀ : Code) (i : In) : SE := ⟨.pure (.done (.ret .none)), none, [], ([] : DM), (GR A)⟩
theorem EXt_r (q : Qd) (A : LA) (L : Nat) (c₀ : Code)  : RunsA (K4 q) (EXt_a q A L c₀) (EXt_s q A L c₀) (fun _ => []) (EXt_e q A L c₀) := by
  intro W i; (kernel_rfl)
theorem EXt {q : Qd} (Y : Sys (K4 q)) (A : LA) (L : Nat) (c₀ : Code)   : SegT Y (EXt_a q A L c₀) (EXt_e q A L c₀) :=
  Y.seg (EXt_r q A L c₀ ) (show List.Nodup [] by decide) (fun i hN => AllOk.nil)
noncomputable def oER (P : Params) (A : LA) (L : Nat) : Out := run (V0t P (0) (0)) 99 (.pure (.done (.ret (.bool false)))) (.builtin "" {}) default (fsE P A L) (memOf P (fun _ _ => 0) (fun _ => ⟨0, #[]⟩) 0 (smD A ++ exF A L (.str ⟨⟨[41]⟩⟩ 7))) 0 0 ([]) 0 (hz 44 0xf20111111000111111111111110210ffff0fff0fff02) []
noncomputable def fsR (P : Params) (A : LA) (L : Nat) : List Frame := (oER P A L).fs
noncomputable def EXf0_a (q : Qd) (A : LA) (L : Nat) (j : Op) (tv : Tok) (c₀ : Code) : SG := ⟨99, .pure (.done (.ret (.bool false))), c₀, fsE q.P A L, smD A ++ (exF A L (.str ⟨⟨[j.d]⟩⟩ tv)), (GR A), hz 45 0xf2011111100011111111111111f0d0210ffff0fff0fff02, [4, 5, 6]⟩
noncomputable def EXf0_s (q : Qd) (A : LA) (L : Nat) (j : Op) (tv : Tok) (c₀ : Code) (i : In) : List Spec := []
noncomputable def EXf0_e (q : Qd) (A : LA) (L : Nat) (j : Op) (tv : Tok) (c₀ : Code) (i : In) : SE := ⟨denF (cErr A (.str ⟨⟨[69, 120, 112, 101, 99, 116, 101, 100, 32, j.d]⟩⟩ (i.T + 3))), some (cErr A (.str ⟨⟨[69, 120, 112, 101, 99, 116, 101, 100, 32, j.d]⟩⟩ (i.T + 3))), fsR q.P A L, smD A ++ exF A L (.str ⟨⟨[j.d]⟩⟩ tv), (GR A)⟩
noncomputable def EXf0_l (q : Qd) (A : LA) (L : Nat) (j : Op) (tv : Tok) (c₀ : Code) (i : In) : List Alt := [altIadd (i.N + 1) (i.N + 0) (off_ne _ (by decide))]
theorem EXf0_r (q : Qd) (A : LA) (L : Nat) (j : Op) (tv : Tok) (c₀ : Code)  : RunsA (K4 q) (EXf0_a q A L j tv c₀) (EXf0_s q A L j tv c₀) (EXf0_l q A L j tv c₀) (EXf0_e q A L j tv c₀) := by
  intro W i; obtain ⟨w, s₀, b1, b2⟩ := q; cases b1 <;> cases j <;> (kernel_rfl)
theorem EXf0 {q : Qd} (Y : Sys (K4 q)) (A : LA) (L : Nat) (j : Op) (tv : Tok) (c₀ : Code)   : SegT Y (EXf0_a q A L j tv c₀) (EXf0_e q A L j tv c₀) :=
  Y.seg (EXf0_r q A L j tv c₀ ) (show List.Nodup [4, 5, 6] by decide) (fun i hN => AllOk.nil)
noncomputable def EXf1_a (q : Qd) (A : LA) (L : Nat) (j : Op) (va : Addr) (c₀ : Code) : SG := ⟨48, .pure (.done (.ret (.bool false))), c₀, fsE q.P A L, smD A ++ (exF A L (.ref va) ++ [(va, .seq c_list [.str ⟨⟨[j.d]⟩⟩])]), (GR A), hz 20 0xf33210ffff0fff0fff02, [0, 1, 2]⟩
noncomputable def EXf1_s (q : Qd) (A : LA) (L : Nat) (j : Op) (va : Addr) (c₀ : Code) (i : In) : List Spec := []
noncomputable def EXf1_e (q : Qd) (A : LA) (L : Nat) (j : Op) (va : Addr) (c₀ : Code) (i : In) : SE := ⟨denF (cErr A (.str ⟨⟨[69, 120, 112, 101, 99, 116, 101, 100, 32, j.d]⟩⟩ (i.T + 2))), some (cErr A (.str ⟨⟨[69, 120, 112, 101, 99, 116, 101, 100, 32, j.d]⟩⟩ (i.T + 2))), fsR q.P A L, smD A ++ exF A L (.ref va), (GR A)⟩
theorem EXf1_r (q : Qd) (A : LA) (L : Nat) (j : Op) (va : Addr) (c₀ : Code)  : RunsA (K4 q) (EXf1_a q A L j va c₀) (EXf1_s q A L j va c₀) (fun _ => []) (EXf1_e q A L j va c₀) := by
  intro W i; obtain ⟨w, s₀, b1, b2⟩ := q; cases b1 <;> cases j <;> (kernel_rfl)
theorem EXf1 {q : Qd} (Y : Sys (K4 q)) (A : LA) (L : Nat) (j : Op) (va : Addr) (c₀ : Code)   : SegT Y (EXf1_a q A L j va c₀) (EXf1_e q A L j va c₀) :=
  Y.seg (EXf1_r q A L j va c₀ ) (show List.Nodup [0, 1, 2] by decide) (fun i hN => AllOk.nil)
noncomputable def EXf2_a (q : Qd) (A : LA) (L : Nat) (j : Op) (tv : Tok) (c₀ : Code) : SG := ⟨113, .pure (.done (.ret (.bool false))), c₀, fsE q.P A L, smD A ++ (exF A L (.str ⟨⟨[43, j.d]⟩⟩ tv)), (GR A), hz 54 0xf2011111100011111100011111111111111f0d0210ffff0fff0fff02, [4, 5, 6]⟩
noncomputable def EXf2_s (q : Qd) (A : LA) (L : Nat) (j : Op) (tv : Tok) (c₀ : Code) (i : In) : List Spec := []
noncomputable def EXf2_e (q : Qd) (A : LA) (L : Nat) (j : Op) (tv : Tok) (c₀ : Code) (i : In) : SE := ⟨denF (cErr A (.str ⟨⟨[69, 120, 112, 101, 99, 116, 101, 100, 32, 43, 44, 32, j.d]⟩⟩ (i.T + 5))), some (cErr A (.str ⟨⟨[69, 120, 112, 101, 99, 116, 101, 100, 32, 43, 44, 32, j.d]⟩⟩ (i.T + 5))), fsR q.P A L, smD A ++ exF A L (.str ⟨⟨[43, j.d]⟩⟩ tv), (GR A)⟩
noncomputable def EXf2_l (q : Qd) (A : LA) (L : Nat) (j : Op) (tv : Tok) (c₀ : Code) (i : In) : List Alt := [altIadd (i.N + 1) (i.N + 0) (off_ne _ (by decide))]
theorem EXf2_r (q : Qd) (A : LA) (L : Nat) (j : Op) (tv : Tok) (c₀ : Code)  : RunsA (K4 q) (EXf2_a q A L j tv c₀) (EXf2_s q A L j tv c₀) (EXf2_l q A L j tv c₀) (EXf2_e q A L j tv c₀) := by
  intro W i; obtain ⟨w, s₀, b1, b2⟩ := q; cases b1 <;> cases j <;> (kernel_rfl)
theorem EXf2 {q : Qd} (Y : Sys (K4 q)) (A : LA) (L : Nat) (j : Op) (tv : Tok) (c₀ : Code)   : SegT Y (EXf2_a q A L j tv c₀) (EXf2_e q A L j tv c₀) :=
  Y.seg (EXf2_r q A L j tv c₀ ) (show List.Nodup [4, 5, 6] by decide) (fun i hN => AllOk.nil)
noncomputable def EXf3_a (q : Qd) (A : LA) (L : Nat) (j : Op) (va : Addr) (c₀ : Code) : SG := ⟨48, .pure (.done (.ret (.bool false))), c₀, fsE q.P A L, smD A ++ (exF A L (.ref va) ++ [(va, .seq c_list [.str ⟨⟨[j.d]⟩⟩, .str ⟨⟨[45]⟩⟩])]), (GR A), hz 20 0xf33210ffff0fff0fff02, [0, 1, 2]⟩
noncomputable def EXf3_s (q : Qd) (A : LA) (L : Nat) (j : Op) (va : Addr) (c₀ : Code) (i : In) : List Spec := []
noncomputable def EXf3_e (q : Qd) (A : LA) (L : Nat) (j : Op) (va : Addr) (c₀ : Code) (i : In) : SE := ⟨denF (cErr A (.str ⟨⟨[69, 120, 112, 101, 99, 116, 101, 100, 32, j.d, 44, 32, 45]⟩⟩ (i.T + 3))), some (cErr A (.str ⟨⟨[69, 120, 112, 101, 99, 116, 101, 100, 32, j.d, 44, 32, 45]⟩⟩ (i.T + 3))), fsR q.P A L, smD A ++ exF A L (.ref va), (GR A)⟩
theorem EXf3_r (q : Qd) (A : LA) (L : Nat) (j : Op) (va : Addr) (c₀ : Code)  : RunsA (K4 q) (EXf3_a q A L j va c₀) (EXf3_s q A L j va c₀) (fun _ => []) (EXf3_e q A L j va c₀) := by
  intro W i; obtain ⟨w, s₀, b1, b2⟩ := q; cases b1 <;> cases j <;> (kernel_rfl)
theorem EXf3 {q : Qd} (Y : Sys (K4 q)) (A : LA) (L : Nat) (j : Op) (va : Addr) (c₀ : Code)   : SegT Y (EXf3_a q A L j va c₀) (EXf3_e q A L j va c₀) :=
  Y.seg (EXf3_r q A L j va c₀ ) (show List.Nodup [0, 1, 2] by decide) (fun i hN => AllOk.nil)
noncomputable def EXn0_a (q : Qd) (A : LA) (L : Nat) (tv : Tok) (c₀ : Code) : SG := ⟨127, .pure (.done (.ret (.bool false))), c₀, fsE q.P A L, smD A ++ (exF A L (.str ⟨⟨[43, 45, 59]⟩⟩ tv)), (GR A), hz 63 0xf2011111100011111100011111100011111111111111f0d0210ffff0fff0fff02, [4, 5, 6]⟩
noncomputable def EXn0_s (q : Qd) (A : LA) (L : Nat) (tv : Tok) (c₀ : Code) (i : In) : List Spec := []
noncomputable def EXn0_e (q : Qd) (A : LA) (L : Nat) (tv : Tok) (c₀ : Code) (i : In) : SE := ⟨denF (cErr A (.str ⟨⟨[69, 120, 112, 101, 99, 116, 101, 100, 32, 43, 44, 32, 45, 44, 32, 59]⟩⟩ (i.T + 6))), some (cErr A (.str ⟨⟨[69, 120, 112, 101, 99, 116, 101, 100, 32, 43, 44, 32, 45, 44, 32, 59]⟩⟩ (i.T + 6))), fsR q.P A L, smD A ++ exF A L (.str ⟨⟨[43, 45, 59]⟩⟩ tv), (GR A)⟩
noncomputable def EXn0_l (q : Qd) (A : LA) (L : Nat) (tv : Tok) (c₀ : Code) (i : In) : List Alt := [altIadd (i.N + 1) (i.N + 0) (off_ne _ (by decide))]
theorem EXn0_r (q : Qd) (A : LA) (L : Nat) (tv : Tok) (c₀ : Code)  : RunsA (K4 q) (EXn0_a q A L tv c₀) (EXn0_s q A L tv c₀) (EXn0_l q A L tv c₀) (EXn0_e q A L tv c₀) := by
  intro W i; obtain ⟨w, s₀, b1, b2⟩ := q; cases b1 <;> (kernel_rfl)
theorem EXn0 {q : Qd} (Y : Sys (K4 q)) (A : LA) (L : Nat) (tv : Tok) (c₀ : Code)   : SegT Y (EXn0_a q A L tv c₀) (EXn0_e q A L tv c₀) :=
  Y.seg (EXn0_r q A L tv c₀ ) (show List.Nodup [4, 5, 6] by decide) (fun i hN => AllOk.nil)
noncomputable def locD (lc ld : Addr) (f : Str) (row col ln : Int) : DM := [(lc, .both 79 ld [some (.int col), some (.str f), some (.int ln), some (.int row), some .none])]
noncomputable def exD (dc : Addr) (m : Str) (loc : Option Addr) (hl : Addr) : DM := [(dc, .dict c_dict [([109, 115, 103], .str m), ([108, 111, 99], match loc with | some a => .ref a | none => .none), ([104, 105, 110, 116, 115], .ref hl)])]
noncomputable def ERS_a (q : Qd) (A : LA) (k : Nat) (xs cs : Array Value) (e : Bool) (c cd lc ld : Addr) (sg fl : Str) (row col ln : Int) (m : Str) (tm : Tok) : SG := ⟨435, denF (cErr A (.str m tm)), cErr A (.str m tm), [], lxD A e k (some c) xs cs ++ (chD c cd lc sg ++ locD lc ld fl row col ln), (GR A), hz 251 0x3f33f33111f3fff3f3f3fff3222210edf1fffff0edfff0ed1000f2fff2f2f2fff2110002f1fff1f1f1fff100e00000000fffffff0f0fffffffffffffffffffffffff11f119f88fff8fff811110080d055553f22fff2fff20fff8fff80004444444443f22fff2fff20444443f22fff2fff20e0000ffff21ffff1fff1fff10e0000ff, [7, 8, 9, 10, 11, 12, 13, 14, 15, 6, 3, 1]⟩
noncomputable def ERS_s (q : Qd) (A : LA) (k : Nat) (xs cs : Array Value) (e : Bool) (c cd lc ld : Addr) (sg fl : Str) (row col ln : Int) (m : Str) (tm : Tok) (i : In) : List Spec := [spPush A.ct 5 xs (i.ν 3).n (.ref c)]
noncomputable def ERS_e (q : Qd) (A : LA) (k : Nat) (xs cs : Array Value) (e : Bool) (c cd lc ld : Addr) (sg fl : Str) (row col ln : Int) (m : Str) (tm : Tok) (i : In) : SE := ⟨errF (errEnv q.P i.N) (i.N + 3), some (cErrB q.P i.N), [], lxD A e k none (xs.push (.ref c)) cs ++ (chD c cd lc sg ++ locD lc ld fl row col ln) ++ (([(i.N, .frq [([115, 101, 108, 102], .ref A.sf), ([109, 101, 115, 115, 97, 103, 101], .str m), ([99, 104, 97, 114], .ref c), ([108, 111, 99], .ref lc)])] : DM) ++ (([((i.N + 3), .raw (excO (i.N + 5) (i.N + 2) .none))] : DM) ++ exD (i.N + 5) m (some lc) (i.N + 6))), (GR A)⟩
theorem ERS_r (q : Qd) (A : LA) (k : Nat) (xs cs : Array Value) (e : Bool) (c cd lc ld : Addr) (sg fl : Str) (row col ln : Int) (m : Str) (tm : Tok)  : RunsA (K4 q) (ERS_a q A k xs cs e c cd lc ld sg fl row col ln m tm) (ERS_s q A k xs cs e c cd lc ld sg fl row col ln m tm) (fun _ => []) (ERS_e q A k xs cs e c cd lc ld sg fl row col ln m tm) := by
  intro W i; obtain ⟨w, s₀, b1, b2⟩ := q; cases b1 <;> cases e <;> (kernel_rfl)
theorem ERS {q : Qd} (Y : Sys (K4 q)) (A : LA) (k : Nat) (xs cs : Array Value) (e : Bool) (c cd lc ld : Addr) (sg fl : Str) (row col ln : Int) (m : Str) (tm : Tok)  (h0 : xs.size ≤ sizeLine) : SegT Y (ERS_a q A k xs cs e c cd lc ld sg fl row col ln m tm) (ERS_e q A k xs cs e c cd lc ld sg fl row col ln m tm) :=
  Y.seg (ERS_r q A k xs cs e c cd lc ld sg fl row col ln m tm ) (show List.Nodup [7, 8, 9, 10, 11, 12, 13, 14, 15, 6, 3, 1] by decide) (fun i hN => .cons (ok1 rfl rfl rfl (sok_push _ _ _ _ _ h0)) (AllOk.nil))
noncomputable def ERX_a (q : Qd) (A : LA) (k : Nat) (xs cs : Array Value) (m : Str) (tm : Tok) : SG := ⟨354, denF (cErr A (.str m tm)), cErr A (.str m tm), [], lxD A true k none xs cs, (GR A), hz 196 0x3f33f33111f3fff3f3f3fff3222211000f2fff2f2f2fff2110002f1fff1f1f1fff100e00000000fffffff0f0fffffffffffffffffffffffff33f3333322222066663f22fff2fff20ff444443f22fff2fff20e0000ffff21ffff1fff1fff10e0000ff, [9, 10, 11, 12, 13, 14, 8, 3, 1]⟩
noncomputable def ERX_s (q : Qd) (A : LA) (k : Nat) (xs cs : Array Value) (m : Str) (tm : Tok) (i : In) : List Spec := []
noncomputable def ERX_e (q : Qd) (A : LA) (k : Nat) (xs cs : Array Value) (m : Str) (tm : Tok) (i : In) : SE := ⟨errF (errEnv q.P i.N) (i.N + 5), some (cErrB q.P i.N), [], lxD A true k none xs cs ++ (([(i.N, .frq [([115, 101, 108, 102], .ref A.sf), ([109, 101, 115, 115, 97, 103, 101], .str m), ([99, 104, 97, 114], .none), ([108, 111, 99], .none)])] : DM) ++ (([((i.N + 5), .raw (excO (i.N + 7) (i.N + 4) .none))] : DM) ++ exD (i.N + 7) m none (i.N + 8))), (GR A)⟩
theorem ERX_r (q : Qd) (A : LA) (k : Nat) (xs cs : Array Value) (m : Str) (tm : Tok)  : RunsA (K4 q) (ERX_a q A k xs cs m tm) (ERX_s q A k xs cs m tm) (fun _ => []) (ERX_e q A k xs cs m tm) := by
  intro W i; obtain ⟨w, s₀, b1, b2⟩ := q; cases b1 <;> (kernel_rfl)
theorem ERX {q : Qd} (Y : Sys (K4 q)) (A : LA) (k : Nat) (xs cs : Array Value) (m : Str) (tm : Tok)   : SegT Y (ERX_a q A k xs cs m tm) (ERX_e q A k xs cs m tm) :=
  Y.seg (ERX_r q A k xs cs m tm ) (show List.Nodup [9, 10, 11, 12, 13, 14, 8, 3, 1] by decide) (fun i hN => AllOk.nil)
end Mine
end
section
set_option linter.unusedVariables false
set_option linter.unusedSimpArgs false
set_option maxRecDepth 100000
set_option maxHeartbeats 0
namespace Mine
open PySem PySem.W PySem.W.X
noncomputable def cSt (A : LA) : Code := cFn A.fst []
noncomputable def cEmit (A : LA) (v : Value) : Code := cFn 185 [.ref A.sf, v]
noncomputable def stF (L : Addr) (c : Addr) : DM := [(L, .frq [([99], .ref c)])]
noncomputable def fsD (P : Params) (A : LA) : DM := [(A.fst, .raw (startO P A)), (A.scode, scD A)]
noncomputable def oS1 (P : Params) (A : LA) (L : Nat) : Out := run (V0t P (L) (0)) 350 (denF (cSt A)) (cSt A) default ([]) (memOf P (fun _ _ => 0) (fun _ => ⟨0, #[]⟩) 0 (fsD P A ++ (([(A.ch, .cell (some (.ref A.sf)))] : DM) ++ (lxD A false 0 none #[] #[.ref 9] ++ chD 9 8 7 ⟨⟨[32]⟩⟩)))) 0 0 ([]) 0 (hz 202 0xf76ffff6fff6fff658888088887f66fff6fff609999999997f66fff6fff60fffcfffc0e0000fff165ffff5fff5fff54111008888088886f55fff5fff50fffbfffb00099a999996f55fff5fff50ff777776f55fff5fff50e0000ffff54ffff4fff4fff43e10) []
noncomputable def fsS1 (P : Params) (A : LA) (L : Nat) : List Frame := (oS1 P A L).fs
noncomputable def ST0_a (q : Qd) (A : LA) (k : Nat) (xs cs : Array Value) (c cd lc : Addr) (sg : Str) : SG := ⟨326, denF (cSt A), cSt A, [], fsD q.P A ++ (([(A.ch, .cell (some (.ref A.sf)))] : DM) ++ (lxD A false k none xs cs ++ chD c cd lc sg)), (GR A), hz 191 0xf76ffff6fff6fff658888088887f66fff6fff6083d82d99997f66fff6fff60fffcfffc0e0000fff165ffff5fff5fff541110081d088886f55fff5fff50fffbfffb00080d996f55fff5fff50ff777776f55fff5fff50e0000ffff54ffff4fff4fff43e10, [3, 4, 5, 6, 7, 8, 9, 10, 11, 12, 13, 2]⟩
noncomputable def ST0_s (q : Qd) (A : LA) (k : Nat) (xs cs : Array Value) (c cd lc : Addr) (sg : Str) (i : In) : List Spec := [spNext A.it A.cl 9 10 cs (i.ν 8).n (k : Nat) (.ref c),
  spPush A.ct 8 xs (i.ν 6).n (.ref c),
  spV (callB "int.__neg__" [.int (1) (i.T + 12)]) (.int (-(1))) 1,
  spPop A.ct 9 xs ((i.ν 6).n + 1) (.ref c) (i.T + 13)]
noncomputable def ST0_e (q : Qd) (A : LA) (k : Nat) (xs cs : Array Value) (c cd lc : Addr) (sg : Str) (i : In) : SE := ⟨denF (cAcc A (.str (⟨⟨[32]⟩⟩) (i.T + 16))), some (cAcc A (.str (⟨⟨[32]⟩⟩) (i.T + 16))), fsS1 q.P A i.N, fsD q.P A ++ (([(A.ch, .cell (some (.ref A.sf)))] : DM) ++ (lxD A false (k + 1) (some c) xs cs ++ (chD c cd lc sg ++ stF i.N c))), (GR A)⟩
theorem ST0_r (q : Qd) (A : LA) (k : Nat) (xs cs : Array Value) (c cd lc : Addr) (sg : Str)  : RunsA (K4 q) (ST0_a q A k xs cs c cd lc sg) (ST0_s q A k xs cs c cd lc sg) (fun _ => []) (ST0_e q A k xs cs c cd lc sg) := by
  intro W i; obtain ⟨w, s₀, b1, b2⟩ := q; cases b1 <;> (kernel_rfl)
theorem ST0 {q : Qd} (Y : Sys (K4 q)) (A : LA) (k : Nat) (xs cs : Array Value) (c cd lc : Addr) (sg : Str)  (h0 : cs[k]? = some (.ref c)) (h1 : xs.size ≤ sizeLine) (h2 : xs.size < sizeLine) : SegT Y (ST0_a q A k xs cs c cd lc sg) (ST0_e q A k xs cs c cd lc sg) :=
  Y.seg (ST0_r q A k xs cs c cd lc sg ) (show List.Nodup [3, 4, 5, 6, 7, 8, 9, 10, 11, 12, 13, 2] by decide) (fun i hN => .cons (ok1 rfl rfl rfl (sok_next _ _ _ _ _ _ _ _ h0)) (.cons (ok1 rfl rfl rfl (sok_push _ _ _ _ _ h1)) (.cons (okv (sok_neg _ _)) (.cons (ok_pop _ _ _ _ _ _ h2) (AllOk.nil)))))
noncomputable def ST0E_a (q : Qd) (A : LA) (k : Nat) (xs cs : Array Value) : SG := ⟨140, denF (cSt A), cSt A, [], fsD q.P A ++ (([(A.ch, .cell (some (.ref A.sf)))] : DM) ++ lxD A false k none xs cs), (GR A), hz 73 0x33322222080d996f55fff5fff50ff777776f55fff5fff50e0000ffff54ffff4fff4fff43e10, [4, 5, 6, 7, 8, 9, 10, 11, 12]⟩
noncomputable def ST0E_s (q : Qd) (A : LA) (k : Nat) (xs cs : Array Value) (i : In) : List Spec := [spEnd A.it A.cl 9 10 cs (i.ν 8).n (k : Nat)]
noncomputable def ST0E_e (q : Qd) (A : LA) (k : Nat) (xs cs : Array Value) (i : In) : SE := ⟨.pure (.done (.ret .none)), none, [], fsD q.P A ++ (([(A.ch, .cell (some (.ref A.sf)))] : DM) ++ lxD A true k none xs cs), (GR A)⟩
theorem ST0E_r (q : Qd) (A : LA) (k : Nat) (xs cs : Array Value)  : RunsA (K4 q) (ST0E_a q A k xs cs) (ST0E_s q A k xs cs) (fun _ => []) (ST0E_e q A k xs cs) := by
  intro W i; obtain ⟨w, s₀, b1, b2⟩ := q; cases b1 <;> (kernel_rfl)
theorem ST0E {q : Qd} (Y : Sys (K4 q)) (A : LA) (k : Nat) (xs cs : Array Value)  (h0 : cs[k]? = none) : SegT Y (ST0E_a q A k xs cs) (ST0E_e q A k xs cs) :=
  Y.seg (ST0E_r q A k xs cs ) (show List.Nodup [4, 5, 6, 7, 8, 9, 10, 11, 12] by decide) (fun i hN => .cons (ok_end _ _ _ _ _ _ _ h0) (AllOk.nil))
noncomputable def ST1t_a (q : Qd) (A : LA) (L : Nat) (xs : Array Value) (c₀ : Code) : SG := ⟨69, .pure (.done (.ret (.bool true))), c₀, fsS1 q.P A L, smD A ++ (([(A.ch, .cell (some (.ref A.sf)))] : DM) ++ ([(A.ct, .arr c_list xs)] ++ ([(A.cst, .cell (some (.ref A.fst)))] : DM))), (GR A), hz 41 0x580d44442f11fff1fff10e00fff10ffff0fff0fff02, [1, 2, 3, 4, 5]⟩
noncomputable def ST1t_s (q : Qd) (A : LA) (L : Nat) (xs : Array Value) (c₀ : Code) (i : In) : List Spec := [spClear A.ct 4 xs (i.ν 3).n]
noncomputable def ST1t_e (q : Qd) (A : LA) (L : Nat) (xs : Array Value) (c₀ : Code) (i : In) : SE := ⟨.pure (.done (.ret (.ref A.fst))), none, [], smD A ++ (([(A.ch, .cell (some (.ref A.sf)))] : DM) ++ ([(A.ct, .arr c_list #[])] ++ ([(A.cst, .cell (some (.ref A.fst)))] : DM))), (GR A)⟩
theorem ST1t_r (q : Qd) (A : LA) (L : Nat) (xs : Array Value) (c₀ : Code)  : RunsA (K4 q) (ST1t_a q A L xs c₀) (ST1t_s q A L xs c₀) (fun _ => []) (ST1t_e q A L xs c₀) := by
  intro W i; obtain ⟨w, s₀, b1, b2⟩ := q; cases b1 <;> (kernel_rfl)
theorem ST1t {q : Qd} (Y : Sys (K4 q)) (A : LA) (L : Nat) (xs : Array Value) (c₀ : Code)  (h0 : xs.size ≤ sizeLine) : SegT Y (ST1t_a q A L xs c₀) (ST1t_e q A L xs c₀) :=
  Y.seg (ST1t_r q A L xs c₀ ) (show List.Nodup [1, 2, 3, 4, 5] by decide) (fun i hN => .cons (ok_clear _ _ _ _ h0) (AllOk.nil))
noncomputable def oS2 (P : Params) (A : LA) (L : Nat) : Out := run (V0t P (0) (0)) 27 (.pure (.done (.ret (.bool false)))) (.builtin "" {}) default (fsS1 P A L) (memOf P (fun _ _ => 0) (fun _ => ⟨0, #[]⟩) 0 (smD A ++ ([(A.ch, .cell (some (.ref A.sf)))] : DM))) 0 0 ([]) 0 (hz 17 0xf10ffff0fff0fff02) []
noncomputable def fsS2 (P : Params) (A : LA) (L : Nat) : List Frame := (oS2 P A L).fs
noncomputable def ST1f_a (q : Qd) (A : LA) (L : Nat) (c₀ : Code) : SG := ⟨27, .pure (.done (.ret (.bool false))), c₀, fsS1 q.P A L, smD A ++ ([(A.ch, .cell (some (.ref A.sf)))] : DM), (GR A), hz 17 0xf10ffff0fff0fff02, [0, 1, 2]⟩
noncomputable def ST1f_s (q : Qd) (A : LA) (L : Nat) (c₀ : Code) (i : In) : List Spec := []
noncomputable def ST1f_e (q : Qd) (A : LA) (L : Nat) (c₀ : Code) (i : In) : SE := ⟨denF (cAcc A (.str (⟨⟨[97]⟩⟩) (i.T + 0))), some (cAcc A (.str (⟨⟨[97]⟩⟩) (i.T + 0))), fsS2 q.P A L, smD A ++ ([(A.ch, .cell (some (.ref A.sf)))] : DM), (GR A)⟩
theorem ST1f_r (q : Qd) (A : LA) (L : Nat) (c₀ : Code)  : RunsA (K4 q) (ST1f_a q A L c₀) (ST1f_s q A L c₀) (fun _ => []) (ST1f_e q A L c₀) := by
  intro W i; obtain ⟨w, s₀, b1, b2⟩ := q; cases b1 <;> (kernel_rfl)
theorem ST1f {q : Qd} (Y : Sys (K4 q)) (A : LA) (L : Nat) (c₀ : Code)   : SegT Y (ST1f_a q A L c₀) (ST1f_e q A L c₀) :=
  Y.seg (ST1f_r q A L c₀ ) (show List.Nodup [0, 1, 2] by decide) (fun i hN => AllOk.nil)
noncomputable def oS3 (P : Params) (A : LA) (L : Nat) : Out := run (V0t P (0) (0)) 27 (.pure (.done (.ret (.bool true)))) (.builtin "" {}) default (fsS2 P A L) (memOf P (fun _ _ => 0) (fun _ => ⟨0, #[]⟩) 0 (smD A ++ ([(A.ch, .cell (some (.ref A.sf)))] : DM))) 0 0 ([]) 0 (hz 17 0xf10ffff0fff0fff02) []
noncomputable def fsS3 (P : Params) (A : LA) (L : Nat) : List Frame := (oS3 P A L).fs
noncomputable def ST2t_a (q : Qd) (A : LA) (L : Nat) (c₀ : Code) : SG := ⟨27, .pure (.done (.ret (.bool true))), c₀, fsS2 q.P A L, smD A ++ ([(A.ch, .cell (some (.ref A.sf)))] : DM), (GR A), hz 17 0xf10ffff0fff0fff02, [0, 1, 2]⟩
noncomputable def ST2t_s (q : Qd) (A : LA) (L : Nat) (c₀ : Code) (i : In) : List Spec := []
noncomputable def ST2t_e (q : Qd) (A : LA) (L : Nat) (c₀ : Code) (i : In) : SE := ⟨denF (cEmit A (.str (⟨⟨[108, 101, 116, 116, 101, 114]⟩⟩) (i.T + 0))), some (cEmit A (.str (⟨⟨[108, 101, 116, 116, 101, 114]⟩⟩) (i.T + 0))), fsS3 q.P A L, smD A ++ ([(A.ch, .cell (some (.ref A.sf)))] : DM), (GR A)⟩
theorem ST2t_r (q : Qd) (A : LA) (L : Nat) (c₀ : Code)  : RunsA (K4 q) (ST2t_a q A L c₀) (ST2t_s q A L c₀) (fun _ => []) (ST2t_e q A L c₀) := by
  intro W i; obtain ⟨w, s₀, b1, b2⟩ := q; cases b1 <;> (kernel_rfl)
theorem ST2t {q : Qd} (Y : Sys (K4 q)) (A : LA) (L : Nat) (c₀ : Code)   : SegT Y (ST2t_a q A L c₀) (ST2t_e q A L c₀) :=
  Y.seg (ST2t_r q A L c₀ ) (show List.Nodup [0, 1, 2] by decide) (fun i hN => AllOk.nil)
noncomputable def ST4a_a (q : Qd) (A : LA) (L : Nat) (c₀ : Code) : SG := ⟨5, .pure (.done (.ret .none)), c₀, fsS3 q.P A L, ([(A.cst, .cell (some (.ref A.fst)))] : DM), (GR A), hz 1 0x0, [0]⟩
noncomputable def ST4a_s (q : Qd) (A : LA) (L : Nat) (c₀ : Code) (i : In) : List Spec := []
noncomputable def ST4a_e (q : Qd) (A : LA) (L : Nat) (c₀ : Code) (i : In) : SE := ⟨.pure (.done (.ret (.ref A.fst))), none, [], ([(A.cst, .cell (some (.ref A.fst)))] : DM), (GR A)⟩
theorem ST4a_r (q : Qd) (A : LA) (L : Nat) (c₀ : Code)  : RunsA (K4 q) (ST4a_a q A L c₀) (ST4a_s q A L c₀) (fun _ => []) (ST4a_e q A L c₀) := by
  intro W i; (kernel_rfl)
theorem ST4a {q : Qd} (Y : Sys (K4 q)) (A : LA) (L : Nat) (c₀ : Code)   : SegT Y (ST4a_a q A L c₀) (ST4a_e q A L c₀) :=
  Y.seg (ST4a_r q A L c₀ ) (show List.Nodup [0] by decide) (fun i hN => AllOk.nil)
noncomputable def oS4 (P : Params) (A : LA) (L : Nat) : Out := run (V0t P (0) (0)) 9 (.pure (.done (.ret (.bool false)))) (.builtin "" {}) default (fsS2 P A L) (memOf P (fun _ _ => 0) (fun _ => ⟨0, #[]⟩) 0 (([(A.fbr, .raw (brO P A)), (A.cbr, .cell (some (.ref A.fbr)))] : DM))) 0 0 ([]) 0 (hz 2 0x01) []
noncomputable def fsS4 (P : Params) (A : LA) (L : Nat) : List Frame := (oS4 P A L).fs
noncomputable def ST2f_a (q : Qd) (A : LA) (L : Nat) (c₀ : Code) : SG := ⟨9, .pure (.done (.ret (.bool false))), c₀, fsS2 q.P A L, ([(A.fbr, .raw (brO q.P A)), (A.cbr, .cell (some (.ref A.fbr)))] : DM), (GR A), hz 2 0x01, [0, 1]⟩
noncomputable def ST2f_s (q : Qd) (A : LA) (L : Nat) (c₀ : Code) (i : In) : List Spec := []
noncomputable def ST2f_e (q : Qd) (A : LA) (L : Nat) (c₀ : Code) (i : In) : SE := ⟨denF (cBr A), some (cBr A), fsS4 q.P A L, ([(A.fbr, .raw (brO q.P A)), (A.cbr, .cell (some (.ref A.fbr)))] : DM), (GR A)⟩
theorem ST2f_r (q : Qd) (A : LA) (L : Nat) (c₀ : Code)  : RunsA (K4 q) (ST2f_a q A L c₀) (ST2f_s q A L c₀) (fun _ => []) (ST2f_e q A L c₀) := by
  intro W i; (kernel_rfl)
theorem ST2f {q : Qd} (Y : Sys (K4 q)) (A : LA) (L : Nat) (c₀ : Code)   : SegT Y (ST2f_a q A L c₀) (ST2f_e q A L c₀) :=
  Y.seg (ST2f_r q A L c₀ ) (show List.Nodup [0, 1] by decide) (fun i hN => AllOk.nil)
noncomputable def oS5 (P : Params) (A : LA) (L : Nat) : Out := run (V0t P (0) (0)) 27 (.pure (.done (.ret (.bool true)))) (.builtin "" {}) default (fsS4 P A L) (memOf P (fun _ _ => 0) (fun _ => ⟨0, #[]⟩) 0 (smD A ++ ([(A.ch, .cell (some (.ref A.sf)))] : DM))) 0 0 ([]) 0 (hz 17 0xf10ffff0fff0fff02) []
noncomputable def fsS5 (P : Params) (A : LA) (L : Nat) : List Frame := (oS5 P A L).fs
noncomputable def ST3t_a (q : Qd) (A : LA) (L : Nat) (c₀ : Code) : SG := ⟨27, .pure (.done (.ret (.bool true))), c₀, fsS4 q.P A L, smD A ++ ([(A.ch, .cell (some (.ref A.sf)))] : DM), (GR A), hz 17 0xf10ffff0fff0fff02, [0, 1, 2]⟩
noncomputable def ST3t_s (q : Qd) (A : LA) (L : Nat) (c₀ : Code) (i : In) : List Spec := []
noncomputable def ST3t_e (q : Qd) (A : LA) (L : Nat) (c₀ : Code) (i : In) : SE := ⟨denF (cEmit A (.str (⟨⟨[103, 114, 111, 117, 112]⟩⟩) (i.T + 0))), some (cEmit A (.str (⟨⟨[103, 114, 111, 117, 112]⟩⟩) (i.T + 0))), fsS5 q.P A L, smD A ++ ([(A.ch, .cell (some (.ref A.sf)))] : DM), (GR A)⟩
theorem ST3t_r (q : Qd) (A : LA) (L : Nat) (c₀ : Code)  : RunsA (K4 q) (ST3t_a q A L c₀) (ST3t_s q A L c₀) (fun _ => []) (ST3t_e q A L c₀) := by
  intro W i; obtain ⟨w, s₀, b1, b2⟩ := q; cases b1 <;> (kernel_rfl)
theorem ST3t {q : Qd} (Y : Sys (K4 q)) (A : LA) (L : Nat) (c₀ : Code)   : SegT Y (ST3t_a q A L c₀) (ST3t_e q A L c₀) :=
  Y.seg (ST3t_r q A L c₀ ) (show List.Nodup [0, 1, 2] by decide) (fun i hN => AllOk.nil)
noncomputable def ST4b_a (q : Qd) (A : LA) (L : Nat) (c₀ : Code) : SG := ⟨5, .pure (.done (.ret .none)), c₀, fsS5 q.P A L, ([(A.cst, .cell (some (.ref A.fst)))] : DM), (GR A), hz 1 0x0, [0]⟩
noncomputable def ST4b_s (q : Qd) (A : LA) (L : Nat) (c₀ : Code) (i : In) : List Spec := []
noncomputable def ST4b_e (q : Qd) (A : LA) (L : Nat) (c₀ : Code) (i : In) : SE := ⟨.pure (.done (.ret (.ref A.fst))), none, [], ([(A.cst, .cell (some (.ref A.fst)))] : DM), (GR A)⟩
theorem ST4b_r (q : Qd) (A : LA) (L : Nat) (c₀ : Code)  : RunsA (K4 q) (ST4b_a q A L c₀) (ST4b_s q A L c₀) (fun _ => []) (ST4b_e q A L c₀) := by
  intro W i; (kernel_rfl)
theorem ST4b {q : Qd} (Y : Sys (K4 q)) (A : LA) (L : Nat) (c₀ : Code)   : SegT Y (ST4b_a q A L c₀) (ST4b_e q A L c₀) :=
  Y.seg (ST4b_r q A L c₀ ) (show List.Nodup [0] by decide) (fun i hN => AllOk.nil)
noncomputable def oS6 (P : Params) (A : LA) (L : Nat) : Out := run (V0t P (0) (0)) 55 (.pure (.done (.ret (.bool false)))) (.builtin "" {}) default (fsS4 P A L) (memOf P (fun _ _ => 0) (fun _ => ⟨0, #[]⟩) 0 (smD A ++ (([(A.ch, .cell (some (.ref A.sf)))] : DM) ++ tnD A 4))) 0 0 ([]) 0 (hz 29 0xffffff444443f10ffff0fff0fff02) []
noncomputable def fsS6 (P : Params) (A : LA) (L : Nat) : List Frame := (oS6 P A L).fs
noncomputable def ST3f0_a (q : Qd) (A : LA) (L : Nat) (tn : Int) (c₀ : Code) : SG := ⟨52, .pure (.done (.ret (.bool false))), c₀, fsS4 q.P A L, smD A ++ (([(A.ch, .cell (some (.ref A.sf)))] : DM) ++ tnD A tn), (GR A), hz 30 0xffffff80d444443f10ffff0fff0fff02, [0, 1, 2, 3, 4]⟩
noncomputable def ST3f0_s (q : Qd) (A : LA) (L : Nat) (tn : Int) (c₀ : Code) (i : In) : List Spec := [spV (II "int.__mod__" (tn) (i.τ 4 0) 2 (i.T + 1)) (.int 0) 1]
noncomputable def ST3f0_e (q : Qd) (A : LA) (L : Nat) (tn : Int) (c₀ : Code) (i : In) : SE := ⟨denF (cExp A (.str (⟨⟨[43, 45, 59]⟩⟩) 507)), some (cExp A (.str (⟨⟨[43, 45, 59]⟩⟩) 507)), fsS6 q.P A L, smD A ++ (([(A.ch, .cell (some (.ref A.sf)))] : DM) ++ tnD A tn), (GR A)⟩
theorem ST3f0_r (q : Qd) (A : LA) (L : Nat) (tn : Int) (c₀ : Code)  : RunsA (K4 q) (ST3f0_a q A L tn c₀) (ST3f0_s q A L tn c₀) (fun _ => []) (ST3f0_e q A L tn c₀) := by
  intro W i; obtain ⟨w, s₀, b1, b2⟩ := q; cases b1 <;> (kernel_rfl)
theorem ST3f0 {q : Qd} (Y : Sys (K4 q)) (A : LA) (L : Nat) (tn : Int) (c₀ : Code)  (h0 : (tn).fmod 2 = 0) : SegT Y (ST3f0_a q A L tn c₀) (ST3f0_e q A L tn c₀) :=
  Y.seg (ST3f0_r q A L tn c₀ ) (show List.Nodup [0, 1, 2, 3, 4] by decide) (fun i hN => .cons (ok_modk _ _ _ _ _ (by decide) h0) (AllOk.nil))
noncomputable def ST3f1_a (q : Qd) (A : LA) (L : Nat) (tn : Int) (c₀ : Code) : SG := ⟨52, .pure (.done (.ret (.bool false))), c₀, fsS4 q.P A L, smD A ++ (([(A.ch, .cell (some (.ref A.sf)))] : DM) ++ tnD A tn), (GR A), hz 30 0xffffff80d444443f10ffff0fff0fff02, [0, 1, 2, 3, 4]⟩
noncomputable def ST3f1_s (q : Qd) (A : LA) (L : Nat) (tn : Int) (c₀ : Code) (i : In) : List Spec := [spV (II "int.__mod__" (tn) (i.τ 4 0) 2 (i.T + 1)) (.int 1) 1]
noncomputable def ST3f1_e (q : Qd) (A : LA) (L : Nat) (tn : Int) (c₀ : Code) (i : In) : SE := ⟨denF (cExp A (.ref 242)), some (cExp A (.ref 242)), fsS6 q.P A L, smD A ++ (([(A.ch, .cell (some (.ref A.sf)))] : DM) ++ tnD A tn), (GR A)⟩
theorem ST3f1_r (q : Qd) (A : LA) (L : Nat) (tn : Int) (c₀ : Code)  : RunsA (K4 q) (ST3f1_a q A L tn c₀) (ST3f1_s q A L tn c₀) (fun _ => []) (ST3f1_e q A L tn c₀) := by
  intro W i; obtain ⟨w, s₀, b1, b2⟩ := q; cases b1 <;> (kernel_rfl)
theorem ST3f1 {q : Qd} (Y : Sys (K4 q)) (A : LA) (L : Nat) (tn : Int) (c₀ : Code)  (h0 : (tn).fmod 2 = 1) : SegT Y (ST3f1_a q A L tn c₀) (ST3f1_e q A L tn c₀) :=
  Y.seg (ST3f1_r q A L tn c₀ ) (show List.Nodup [0, 1, 2, 3, 4] by decide) (fun i hN => .cons (ok_modk _ _ _ _ _ (by decide) h0) (AllOk.nil))
end Mine
end
section
set_option linter.unusedVariables false
set_option linter.unusedSimpArgs false
set_option maxRecDepth 100000
set_option maxHeartbeats 0
namespace Mine
open PySem PySem.W PySem.W.X
noncomputable def cExt (l g : Addr) : Code := .builtin "list.extend.loop" ⟨[.ref l, .ref g, .ref l], []⟩
noncomputable def cJoinB (tk : Tok) (g : Addr) : Code := .builtin "str.join" ⟨[.str ⟨⟨[]⟩⟩ tk, .ref g], []⟩
noncomputable def cEmB (P : Params) (L : Addr) : Code := .func (stmtsOf (fnOf (ob P 185))) (envF (fnOf (ob P 185)) 185 L [])
noncomputable def emF (A : LA) (L : Addr) (nm : Str) (x : Option Str) : DM := [(L, .frq ([([115, 101, 108, 102], .ref A.sf), ([116, 121, 112], .str nm)] ++ match x with | some y => [([118, 97, 108], .str y)] | none => []))]
noncomputable def tabD : Option Addr → DM
  | none => [(180, .tab [])]
  | some co => [(180, .tab [.raw (.int 83 0), .raw (.int 22 0), .ref co])]
noncomputable def oneR (nm : List Nat) : Option Addr → List (List Nat × VD)
  | none => []
  | some a => [(nm, .ref a)]
noncomputable def nGx : Str := ⟨⟨[60, 103, 101, 110, 101, 120, 112, 114, 62]⟩⟩
noncomputable def qGx : Str := ⟨⟨[72, 97, 110, 100, 76, 101, 120, 101, 114, 66, 97, 115, 101, 46, 101, 109, 105, 116, 46, 60, 108, 111, 99, 97, 108, 115, 62, 46, 60, 103, 101, 110, 101, 120, 112, 114, 62]⟩⟩
noncomputable def goD (g g2 : Nat) : DM := [(g, .fields c_gen [.raw (.int (g2 : Int) 0), .str nGx, .str qGx])]
noncomputable def itF (A : LA) (it3 : Addr) (k : Nat) : DM := [(it3, .fields c_listit [.ref A.ct, .raw (.int (k : Int) 0)])]
noncomputable def gxF (Lg it3 : Addr) (fo : Option Addr) : DM := [(Lg, .frq ([([46, 48], .ref it3)] ++ oneR [99] fo))]
noncomputable def oEM (P : Params) (A : LA) (L : Nat) : Out := run (V0t P (L) (0)) 73 (denF (cEmit A (.str ⟨⟨[97]⟩⟩ 7))) (cEmit A (.str ⟨⟨[97]⟩⟩ 7)) default ([]) (memOf P (fun _ _ => 0) (fun _ => ⟨0, #[]⟩) 0 (smD A ++ ([(A.ct, .arr c_list #[])] ++ tabD none))) 0 0 (GR A) 0 (hz 34 0x00ff8885feed03332f11fff1fff10e0000ff) []
noncomputable def oEJ (P : Params) (tk : Tok) (g : Nat) : Out := run (V0t P (0) (0)) 12 (denF (callB "str.join" [.str ⟨⟨[]⟩⟩ tk, .ref g])) (callB "str.join" [.str ⟨⟨[]⟩⟩ tk, .ref g]) default ([]) (memOf P (fun _ _ => 0) (fun _ => ⟨0, #[]⟩) 0 (goD g 5)) 0 0 ([]) 0 (hz 5 0x00000) []
noncomputable def fsJ (P : Params) (A : LA) (L : Nat) (tk : Tok) (g : Nat) : List Frame := [({ rfOf (oEJ P tk g).fs with p := (oEM P A L).p } : RF).fr (cJoinB tk g)]
noncomputable def fsM (P : Params) (A : LA) (L : Nat) : List Frame := [(rfOf (oEM P A L).fs).fr (cEmB P L)]
noncomputable def genC (P : Params) (A : LA) (it3 Lg co : Nat) : GenState := match (oEM P A 0).gm with
  | (_, .fresh (.compStart e d _ acc env)) :: _ => .fresh (.compStart e d (.ref it3) acc { env with locals := Lg, code := .ref co, frame := some Lg })
  | _ => .finished
theorem chk_EM (P : Params) (A : LA) (L : Nat) : ((oEM P A L).fs.length, (oEJ P 1 2).fs.length) = (1, 1) := by kernel_rfl
theorem chk_GC (P : Params) (A : LA) : (match genC P A 7 8 9 with | .fresh (.compStart _ d it acc env) => (d, it, acc, env.locals, env.frame, env.code) | _ => default) = (0, .ref 7, .none, 8, some 8, .ref 9) := by kernel_rfl
noncomputable def EM0a_a (q : Qd) (A : LA) (Ls : Nat) (xs : Array Value) (nm : Str) (tn : Tok) : SG := ⟨106, denF (cEmit A (.str nm tn)), cEmit A (.str nm tn), [], smD A ++ ([(A.ct, .arr c_list xs)] ++ tabD none), (GR A), hz 53 0x0000001111111f0d0000000ff8885ff03332f11fff1fff10e0000ff, [8, 9, 10, 11, 7, 6, 2, 1, 0]⟩
noncomputable def EM0a_s (q : Qd) (A : LA) (Ls : Nat) (xs : Array Value) (nm : Str) (tn : Tok) (i : In) : List Spec := []
noncomputable def EM0a_e (q : Qd) (A : LA) (Ls : Nat) (xs : Array Value) (nm : Str) (tn : Tok) (i : In) : SE := ⟨denF (cExt (i.N + 7) (i.N + 6)), some (cExt (i.N + 7) (i.N + 6)), fsJ q.P A i.N (i.T + 2) (i.N + 6) ++ fsM q.P A i.N, smD A ++ ([(A.ct, .arr c_list xs)] ++ (tabD (some (i.N + 4)) ++ (emF A i.N nm none ++ (itF A (i.N + 1) 0 ++ (gxF (i.N + 5) (i.N + 1) none ++ (goD (i.N + 6) i.G ++ [((i.N + 7), .arr c_list #[])])))))), [(i.G, genC q.P A (i.N + 1) (i.N + 5) (i.N + 4)), (A.g, .running)]⟩
noncomputable def EM0a_l (q : Qd) (A : LA) (Ls : Nat) (xs : Array Value) (nm : Str) (tn : Tok) (i : In) : List Alt := [altIadd (i.N + 7) (i.N + 6) (off_ne _ (by decide))]
theorem EM0a_r (q : Qd) (A : LA) (Ls : Nat) (xs : Array Value) (nm : Str) (tn : Tok)  : RunsC (K4 q) (cStB q.P A Ls :: lowCs q.P A) (EM0a_a q A Ls xs nm tn) (EM0a_s q A Ls xs nm tn) (EM0a_l q A Ls xs nm tn) (EM0a_e q A Ls xs nm tn) := by
  intro W i; obtain ⟨w, s₀, b1, b2⟩ := q; cases b1 <;> (kernel_rfl)
theorem EM0a {q : Qd} (Y : Sys (K4 q)) (A : LA) (Ls : Nat) (xs : Array Value) (nm : Str) (tn : Tok)   : SegC Y (cStB q.P A Ls :: lowCs q.P A) (EM0a_a q A Ls xs nm tn) (EM0a_e q A Ls xs nm tn) :=
  Y.segC (EM0a_r q A Ls xs nm tn ) (show List.Nodup [8, 9, 10, 11, 7, 6, 2, 1, 0] by decide) (fun i hN => AllOk.nil)
noncomputable def EM0b_a (q : Qd) (A : LA) (Ls : Nat) (xs : Array Value) (nm : Str) (tn : Tok) (co : Addr) : SG := ⟨95, denF (cEmit A (.str nm tn)), cEmit A (.str nm tn), [], smD A ++ ([(A.ct, .arr c_list xs)] ++ tabD (some co)), (GR A), hz 50 0x0000001111111f0d0000000ff5ff03332f11fff1fff10e0000ff, [5, 6, 7, 8, 4, 3, 2, 1, 0]⟩
noncomputable def EM0b_s (q : Qd) (A : LA) (Ls : Nat) (xs : Array Value) (nm : Str) (tn : Tok) (co : Addr) (i : In) : List Spec := []
noncomputable def EM0b_e (q : Qd) (A : LA) (Ls : Nat) (xs : Array Value) (nm : Str) (tn : Tok) (co : Addr) (i : In) : SE := ⟨denF (cExt (i.N + 4) (i.N + 3)), some (cExt (i.N + 4) (i.N + 3)), fsJ q.P A i.N (i.T + 2) (i.N + 3) ++ fsM q.P A i.N, smD A ++ ([(A.ct, .arr c_list xs)] ++ (tabD (some co) ++ (emF A i.N nm none ++ (itF A (i.N + 1) 0 ++ (gxF (i.N + 2) (i.N + 1) none ++ (goD (i.N + 3) i.G ++ [((i.N + 4), .arr c_list #[])])))))), [(i.G, genC q.P A (i.N + 1) (i.N + 2) co), (A.g, .running)]⟩
noncomputable def EM0b_l (q : Qd) (A : LA) (Ls : Nat) (xs : Array Value) (nm : Str) (tn : Tok) (co : Addr) (i : In) : List Alt := [altIadd (i.N + 4) (i.N + 3) (off_ne _ (by decide))]
theorem EM0b_r (q : Qd) (A : LA) (Ls : Nat) (xs : Array Value) (nm : Str) (tn : Tok) (co : Addr)  : RunsC (K4 q) (cStB q.P A Ls :: lowCs q.P A) (EM0b_a q A Ls xs nm tn co) (EM0b_s q A Ls xs nm tn co) (EM0b_l q A Ls xs nm tn co) (EM0b_e q A Ls xs nm tn co) := by
  intro W i; obtain ⟨w, s₀, b1, b2⟩ := q; cases b1 <;> (kernel_rfl)
theorem EM0b {q : Qd} (Y : Sys (K4 q)) (A : LA) (Ls : Nat) (xs : Array Value) (nm : Str) (tn : Tok) (co : Addr)   : SegC Y (cStB q.P A Ls :: lowCs q.P A) (EM0b_a q A Ls xs nm tn co) (EM0b_e q A Ls xs nm tn co) :=
  Y.segC (EM0b_r q A Ls xs nm tn co ) (show List.Nodup [5, 6, 7, 8, 4, 3, 2, 1, 0] by decide) (fun i hN => AllOk.nil)
noncomputable def oEN (P : Params) (l g : Nat) (p : Pos) : Out := run (V0t P (0) (0)) 2 (denF (cExt l g)) (cExt l g) p ([]) (memOf P (fun _ _ => 0) (fun _ => ⟨0, #[]⟩) 0 (goD g 5)) 0 0 ([]) 0 (hz 1 0x0) []
noncomputable def fsN (P : Params) (l g : Nat) (p : Pos) : List Frame := (oEN P l g p).fs
theorem chk_EN (P : Params) (l g : Nat) (p : Pos) : (fsN P l g p).length = 1 := by kernel_rfl
noncomputable def oEF (P : Params) (A : LA) (it3 Lg co : Nat) : Out := run (V0t P (0) (0)) 59 (denF (cExt 2 1)) (cExt 2 1) default ([]) (memOf P (fun _ _ => 0) (fun _ => ⟨0, #[]⟩) 0 (goD 1 5 ++ (itF A it3 0 ++ (gxF Lg it3 none ++ ([(A.ct, .arr c_list #[.ref 9])] ++ chD 9 8 7 ⟨⟨[97]⟩⟩))))) 0 0 ([(5, genC P A it3 Lg co), (A.g, .running)]) 0 (hz 33 0x05f44fff4fff4222113111111110efd0000) []
noncomputable def genS (P : Params) (A : LA) (it3 Lg co : Nat) : GenState := match (oEF P A it3 Lg co).gm with
  | (_, x) :: _ => x
  | _ => .finished
theorem chk_GS (P : Params) (A : LA) (it3 Lg co : Nat) : (match genS P A it3 Lg co with | .suspended _ l _ _ fs _ => (l, fs.length) | _ => default) = ([], 0) := by kernel_rfl
noncomputable def EMf_a (q : Qd) (A : LA) (go g2 it3 Lg co lst : Nat) (xs : Array Value) (c cd lc : Addr) (sg : Str) : SG := ⟨cond q.b2 41 51, denF (cExt lst go), cExt lst go, [], goD go g2 ++ (itF A it3 0 ++ (gxF Lg it3 none ++ ([(A.ct, .arr c_list xs)] ++ chD c cd lc sg))), [(g2, genC q.P A it3 Lg co), (A.g, .running)], (cond q.b2 (hz 24 0x05f44fff4fff422280d10efd0000) (hz 28 0x05f44fff4fff422280d111110efd0000)), [0, 1, 2, 3, 4, 5]⟩
noncomputable def EMf_s (q : Qd) (A : LA) (go g2 it3 Lg co lst : Nat) (xs : Array Value) (c cd lc : Addr) (sg : Str) (i : In) : List Spec := [spNext it3 A.ct 1 3 xs (i.ν 3).n (0 : Nat) (.ref c)]
noncomputable def EMf_e (q : Qd) (A : LA) (go g2 it3 Lg co lst : Nat) (xs : Array Value) (c cd lc : Addr) (sg : Str) (i : In) : SE := ⟨.pure (.done (.ret (.str sg (i.τ 5 1)))), none, fsN q.P lst go i.p, goD go g2 ++ (itF A it3 1 ++ (gxF Lg it3 (some c) ++ ([(A.ct, .arr c_list xs)] ++ chD c cd lc sg))), [(g2, genS q.P A it3 Lg co), (A.g, .running)]⟩
theorem EMf_r (q : Qd) (A : LA) (go g2 it3 Lg co lst : Nat) (xs : Array Value) (c cd lc : Addr) (sg : Str)  : RunsA (K4 q) (EMf_a q A go g2 it3 Lg co lst xs c cd lc sg) (EMf_s q A go g2 it3 Lg co lst xs c cd lc sg) (fun _ => []) (EMf_e q A go g2 it3 Lg co lst xs c cd lc sg) := by
  intro W i; obtain ⟨w, s₀, b1, b2⟩ := q; cases b1 <;> cases b2 <;> (kernel_rfl)
theorem EMf {q : Qd} (Y : Sys (K4 q)) (A : LA) (go g2 it3 Lg co lst : Nat) (xs : Array Value) (c cd lc : Addr) (sg : Str)  (h0 : xs[0]? = some (.ref c)) : SegT Y (EMf_a q A go g2 it3 Lg co lst xs c cd lc sg) (EMf_e q A go g2 it3 Lg co lst xs c cd lc sg) :=
  Y.seg (EMf_r q A go g2 it3 Lg co lst xs c cd lc sg ) (show List.Nodup [0, 1, 2, 3, 4, 5] by decide) (fun i hN => .cons (ok1 rfl rfl rfl (sok_next _ _ _ _ _ _ _ _ h0)) (AllOk.nil))
noncomputable def EMt_a (q : Qd) (A : LA) (go g2 it3 Lg co lst k : Nat) (fo : Option Addr) (xs : Array Value) (c cd lc : Addr) (sg : Str) : SG := ⟨40, denF (cExt lst go), cExt lst go, [], goD go g2 ++ (itF A it3 k ++ (gxF Lg it3 fo ++ ([(A.ct, .arr c_list xs)] ++ chD c cd lc sg))), [(g2, genS q.P A it3 Lg co), (A.g, .running)], hz 24 0x05f44fff4fff422280d10efd0000, [0, 1, 2, 3, 4, 5]⟩
noncomputable def EMt_s (q : Qd) (A : LA) (go g2 it3 Lg co lst k : Nat) (fo : Option Addr) (xs : Array Value) (c cd lc : Addr) (sg : Str) (i : In) : List Spec := [spNext it3 A.ct 1 3 xs (i.ν 3).n (k : Nat) (.ref c)]
noncomputable def EMt_e (q : Qd) (A : LA) (go g2 it3 Lg co lst k : Nat) (fo : Option Addr) (xs : Array Value) (c cd lc : Addr) (sg : Str) (i : In) : SE := ⟨.pure (.done (.ret (.str sg (i.τ 5 1)))), none, fsN q.P lst go i.p, goD go g2 ++ (itF A it3 (k + 1) ++ (gxF Lg it3 (some c) ++ ([(A.ct, .arr c_list xs)] ++ chD c cd lc sg))), [(g2, genS q.P A it3 Lg co), (A.g, .running)]⟩
theorem EMt_r (q : Qd) (A : LA) (go g2 it3 Lg co lst k : Nat) (fo : Option Addr) (xs : Array Value) (c cd lc : Addr) (sg : Str)  : RunsA (K4 q) (EMt_a q A go g2 it3 Lg co lst k fo xs c cd lc sg) (EMt_s q A go g2 it3 Lg co lst k fo xs c cd lc sg) (fun _ => []) (EMt_e q A go g2 it3 Lg co lst k fo xs c cd lc sg) := by
  intro W i; cases fo <;> (kernel_rfl)
theorem EMt {q : Qd} (Y : Sys (K4 q)) (A : LA) (go g2 it3 Lg co lst k : Nat) (fo : Option Addr) (xs : Array Value) (c cd lc : Addr) (sg : Str)  (h0 : xs[k]? = some (.ref c)) : SegT Y (EMt_a q A go g2 it3 Lg co lst k fo xs c cd lc sg) (EMt_e q A go g2 it3 Lg co lst k fo xs c cd lc sg) :=
  Y.seg (EMt_r q A go g2 it3 Lg co lst k fo xs c cd lc sg ) (show List.Nodup [0, 1, 2, 3, 4, 5] by decide) (fun i hN => .cons (ok1 rfl rfl rfl (sok_next _ _ _ _ _ _ _ _ h0)) (AllOk.nil))
noncomputable def EMz_a (q : Qd) (A : LA) (go g2 it3 Lg co lst k : Nat) (xs : Array Value) : SG := ⟨19, denF (cExt lst go), cExt lst go, [], goD go g2 ++ (itF A it3 k ++ [(A.ct, .arr c_list xs)]), [(g2, genS q.P A it3 Lg co), (A.g, .running)], hz 11 0x00080d10efd0000, [6]⟩
noncomputable def EMz_s (q : Qd) (A : LA) (go g2 it3 Lg co lst k : Nat) (xs : Array Value) (i : In) : List Spec := [spEnd it3 A.ct 1 2 xs (i.ν 2).n (k : Nat)]
noncomputable def EMz_e (q : Qd) (A : LA) (go g2 it3 Lg co lst k : Nat) (xs : Array Value) (i : In) : SE := ⟨.pure (.done (.ret (.ref lst))), none, [], ([(A.ct, .arr c_list xs)] : DM), (GR A)⟩
theorem EMz_r (q : Qd) (A : LA) (go g2 it3 Lg co lst k : Nat) (xs : Array Value)  : RunsA (K4 q) (EMz_a q A go g2 it3 Lg co lst k xs) (EMz_s q A go g2 it3 Lg co lst k xs) (fun _ => []) (EMz_e q A go g2 it3 Lg co lst k xs) := by
  intro W i; obtain ⟨w, s₀, b1, b2⟩ := q; cases b1 <;> (kernel_rfl)
theorem EMz {q : Qd} (Y : Sys (K4 q)) (A : LA) (go g2 it3 Lg co lst k : Nat) (xs : Array Value)  (h0 : xs[k]? = none) : SegT Y (EMz_a q A go g2 it3 Lg co lst k xs) (EMz_e q A go g2 it3 Lg co lst k xs) :=
  Y.seg (EMz_r q A go g2 it3 Lg co lst k xs ) (show List.Nodup [6] by decide) (fun i hN => .cons (ok_end _ _ _ _ _ _ _ h0) (AllOk.nil))
noncomputable def jtk (l : List (Nat × Tok)) (T : Tok) : Tok := match l with
  | [x] => x.2
  | _ => T
noncomputable def JT_a (q : Qd) (A : LA) (L : Nat) (tk : Tok) (go lst : Nat) (l : List (Nat × Tok)) (c₀ : Code) : SG := ⟨match l with | [_] => 3 | _ => 3, .pure (.done (.ret (.ref lst))), c₀, fsJ q.P A L tk go, [(lst, .arr c_list ⟨l.map fun x => .str ⟨⟨[x.1]⟩⟩ x.2⟩)], GR A, hz 1 0x0, [0]⟩
noncomputable def JT_e (q : Qd) (A : LA) (L : Nat) (tk : Tok) (go lst : Nat) (l : List (Nat × Tok)) (c₀ : Code) (i : In) : SE := ⟨.pure (.done (.ret (.str ⟨⟨l.map (·.1)⟩⟩ (jtk l i.T)))), none, [], [(lst, .arr c_list ⟨l.map fun x => .str ⟨⟨[x.1]⟩⟩ x.2⟩)], GR A⟩
theorem JT_r (q : Qd) (A : LA) (L : Nat) (tk : Tok) (go lst : Nat) (l : List (Nat × Tok)) (h1 : 1 ≤ l.length) (h2 : l.length ≤ 14) (c₀ : Code) : RunsTo (K4 q) (JT_a q A L tk go lst l c₀) (fun _ => []) (JT_e q A L tk go lst l c₀) := by
  intro W i
  match l, h1, h2 with
  | [_], _, _ => kernel_rfl
  | [_, _], _, _ => kernel_rfl
  | [_, _, _], _, _ => kernel_rfl
  | [_, _, _, _], _, _ => kernel_rfl
  | [_, _, _, _, _], _, _ => kernel_rfl
  | [_, _, _, _, _, _], _, _ => kernel_rfl
  | [_, _, _, _, _, _, _], _, _ => kernel_rfl
  | [_, _, _, _, _, _, _, _], _, _ => kernel_rfl
  | [_, _, _, _, _, _, _, _, _], _, _ => kernel_rfl
  | [_, _, _, _, _, _, _, _, _, _], _, _ => kernel_rfl
  | [_, _, _, _, _, _, _, _, _, _, _], _, _ => kernel_rfl
  | [_, _, _, _, _, _, _, _, _, _, _, _], _, _ => kernel_rfl
  | [_, _, _, _, _, _, _, _, _, _, _, _, _], _, _ => kernel_rfl
  | [_, _, _, _, _, _, _, _, _, _, _, _, _, _], _, _ => kernel_rfl
  | _ :: _ :: _ :: _ :: _ :: _ :: _ :: _ :: _ :: _ :: _ :: _ :: _ :: _ :: _ :: _, _, h => simp only [List.length_cons] at h; omega
theorem JT {q : Qd} (Y : Sys (K4 q)) (A : LA) (L : Nat) (tk : Tok) (go lst : Nat) (l : List (Nat × Tok)) (h1 : 1 ≤ l.length) (h2 : l.length ≤ 14) (c₀ : Code) : SegT Y (JT_a q A L tk go lst l c₀) (JT_e q A L tk go lst l c₀) :=
  Y.seg (JT_r q A L tk go lst l h1 h2 c₀) (show List.Nodup [0] by decide) (fun i hN => AllOk.nil)
noncomputable def tokD (tok td : Addr) (nm x : Str) (lc : Addr) : DM := [(tok, .both 47 td [some (.ref lc), some (.str nm), some (.str x)])]
noncomputable def EM2_a (q : Qd) (A : LA) (L : Nat) (xs : Array Value) (nm x : Str) (tx : Tok) (c cd lc ld : Addr) (sg fl : Str) (row col ln : Int) (c₀ : Code) : SG := ⟨358, .pure (.done (.ret (.str x tx))), c₀, fsM q.P A L, smD A ++ (emF A L nm none ++ ([(A.ct, .arr c_list xs)] ++ ((chD c cd lc sg ++ locD lc ld fl row col ln) ++ [(A.tb, .seq c_list [])]))), (GR A), hz 214 0x81d66664f33fff3fff35aaaa5aaaa4f33fff3fff35551f1fffff1ffffffff1f1f1fff1009f0ff1f1fffff1ffffffff1f1f1fff1001f1fffff1ffffffff1f1f1fff100e00000000ffffff0f0ffffffffffffffffffffffffffff222f225f44fff4fff480d3331f00fff0fff0222, [3, 4, 6, 7, 8, 9, 10, 1]⟩
noncomputable def EM2_s (q : Qd) (A : LA) (L : Nat) (xs : Array Value) (nm x : Str) (tx : Tok) (c cd lc ld : Addr) (sg fl : Str) (row col ln : Int) (c₀ : Code) (i : In) : List Spec := [spItem A.ct 3 xs (i.ν 3).n (0) (i.T + 2) (.ref c),
  spClear A.ct 6 xs (i.ν 3).n]
noncomputable def EM2_e (q : Qd) (A : LA) (L : Nat) (xs : Array Value) (nm x : Str) (tx : Tok) (c cd lc ld : Addr) (sg fl : Str) (row col ln : Int) (c₀ : Code) (i : In) : SE := ⟨.pure (.done (.ret .none)), none, [], smD A ++ ([(A.ct, .arr c_list #[])] ++ ((chD c cd lc sg ++ locD lc ld fl row col ln) ++ ([(A.tb, .seq c_list [.ref (i.N + 1)])] ++ tokD (i.N + 1) (i.N + 0) nm x lc))), (GR A)⟩
theorem EM2_r (q : Qd) (A : LA) (L : Nat) (xs : Array Value) (nm x : Str) (tx : Tok) (c cd lc ld : Addr) (sg fl : Str) (row col ln : Int) (c₀ : Code)  : RunsA (K4 q) (EM2_a q A L xs nm x tx c cd lc ld sg fl row col ln c₀) (EM2_s q A L xs nm x tx c cd lc ld sg fl row col ln c₀) (fun _ => []) (EM2_e q A L xs nm x tx c cd lc ld sg fl row col ln c₀) := by
  intro W i; obtain ⟨w, s₀, b1, b2⟩ := q; cases b1 <;> (kernel_rfl)
theorem EM2 {q : Qd} (Y : Sys (K4 q)) (A : LA) (L : Nat) (xs : Array Value) (nm x : Str) (tx : Tok) (c cd lc ld : Addr) (sg fl : Str) (row col ln : Int) (c₀ : Code)  (h0 : ItemAt xs (0) (.ref c)) (h1 : xs.size ≤ sizeLine) : SegT Y (EM2_a q A L xs nm x tx c cd lc ld sg fl row col ln c₀) (EM2_e q A L xs nm x tx c cd lc ld sg fl row col ln c₀) :=
  Y.seg (EM2_r q A L xs nm x tx c cd lc ld sg fl row col ln c₀ ) (show List.Nodup [3, 4, 6, 7, 8, 9, 10, 1] by decide) (fun i hN => .cons (ok_item _ _ _ _ _ _ _ h0) (.cons (ok_clear _ _ _ _ h1) (AllOk.nil)))
end Mine
end
section
set_option linter.unusedVariables false
set_option linter.unusedSimpArgs false
set_option maxRecDepth 100000
set_option maxHeartbeats 0
namespace Mine
open PySem PySem.W PySem.W.X
noncomputable def cRead (cl : Addr) (n : Int) (t : Tok) : Code := cFn 257 [.ref cl, .int n t]
noncomputable def LA.at (A : LA) (b g : Nat) (zb zs : Int) : LA := { A with b := b, g := g, zb := zb, zs := zs }
noncomputable def goT (A : LA) : DM := [(A.go, .fields c_gen [.raw (.int (A.g : Int) 0), .str ⟨⟨[116, 111, 107, 101, 110, 105, 122, 101]⟩⟩, .str ⟨⟨[72, 97, 110, 100, 76, 101, 120, 101, 114, 66, 97, 115, 101, 46, 116, 111, 107, 101, 110, 105, 122, 101]⟩⟩])]
noncomputable def ltF (A : LA) : DM := [(A.Lt, .frq [([115, 101, 108, 102], .ref A.sf), ([99, 104, 97, 114, 97, 99, 116, 101, 114, 115], .ref A.it), ([115, 116, 97, 114, 116, 95, 115, 116, 97, 116, 101], .ref A.fst), ([115, 116, 97, 116, 101], .ref A.fst)])]
noncomputable def lrF (A : LA) (tu : Int) (to : Option Addr) : DM := [(A.Lr, .frq ([([99, 104, 97, 114, 115], .ref A.cl), ([116, 117, 114, 110, 115], .int tu), ([115, 101, 101, 110], .ref A.seen)] ++ oneR [116] to))]
noncomputable def tupL (a : Addr) (fl : Str) (row col ln : Int) : DM := [(a, .seq c_tuple [.str fl, .int row, .int col, .int ln])]
noncomputable def tupK (a : Addr) (nm x : Str) (l : Addr) : DM := [(a, .seq c_tuple [.str nm, .str x, .ref l])]
noncomputable def oRD (P : Params) (A : LA) : Out := run ({ V0t P A.b 0 with G := A.g }) 427 (denF (cRead A.cl 0 7)) (cRead A.cl 0 7) default ([]) (memOf P (fun _ _ => 0) (fun _ => ⟨0, #[]⟩) 0 (([(A.cl, .arr c_list #[])] : DM) ++ [(252, .tab [])])) 0 0 ([]) 0 (hz 213 0x4117d17d17d17d17d1adf19d19dfff19dfff19d14411111ad1ad1adf19dfff19df19df19dfff19d110efd00000000eed000000fff1ad01dd1dd1dd1cdff17d16dffff16dfff16dfff16d1ad1cd1cd18d18dfff1cd1cd1cd16df12d12dfff14d14d14d0edf77a88555f4fff4f4f4fff43444f3fff3f3f3fff32333f2fff2f2f2fff21e00ffffff0f0ffffffffffffffffffffffffe4444ff) []
noncomputable def fsG (P : Params) (A : LA) : List Frame := (oRD P A).fs
noncomputable def rdT (A : LA) : List VD := [.raw (.int 141 0), .raw (.int 4 0), .ref A.bcode, .raw (.int 152 0), .raw (.int 4 0), .ref A.scode]
noncomputable def rdM (P : Params) (A : LA) (tu tn : Int) (to : Option Addr) (sn : Array Value) : DM := rdB P A ++ (fsD P A ++ (tnD A tn ++ ([(A.cst, .cell (some (.ref A.fst)))] ++ (ltF A ++ (lrF A tu to ++ (goT A ++ ([(A.tb, .seq c_list [])] ++ [(A.seen, .arr c_list sn)])))))))
noncomputable def RD0_a (q : Qd) (A : LA) (tu : Int) (tt : Tok) (cs : Array Value) : SG := ⟨427, denF (cRead A.cl tu tt), cRead A.cl tu tt, [], ([(A.cl, .arr c_list cs)] : DM) ++ [(252, .tab [])], [], hz 213 0x4117d17d17d17d17d1adf19d19dfff19dfff19d14411111ad1ad1adf19dfff19df19df19dfff19d110efd00000000eed000000fff1ad01dd1dd1dd1cdff17d16dffff16dfff16dfff16d1ad1cd1cd18d18dfff1cd1cd1cd16df12d12dfff14d14d14d0edf77a88555f4fff4f4f4fff43444f3fff3f3f3fff32333f2fff2f2f2fff21e00ffffff0f0ffffffffffffffffffffffffe4444ff, [25, 26, 22, 21, 2, 32, 12, 13, 29, 30, 4, 5, 27, 20, 28, 1, 31, 0, 23, 3, 33]⟩
noncomputable def RD0_s (q : Qd) (A : LA) (tu : Int) (tt : Tok) (cs : Array Value) (i : In) : List Spec := []
noncomputable def RD0_e (q : Qd) (A : LA) (tu : Int) (tt : Tok) (cs : Array Value) (i : In) : SE := ⟨denF (cSt (A.at i.N i.G ((i.T + 17 : Nat) : Int) ((i.T + 27 : Nat) : Int))), some (cSt (A.at i.N i.G ((i.T + 17 : Nat) : Int) ((i.T + 27 : Nat) : Int))), fsG q.P (A.at i.N i.G ((i.T + 17 : Nat) : Int) ((i.T + 27 : Nat) : Int)), (lxD (A.at i.N i.G ((i.T + 17 : Nat) : Int) ((i.T + 27 : Nat) : Int)) false 0 none #[] cs ++ rdM q.P (A.at i.N i.G ((i.T + 17 : Nat) : Int) ((i.T + 27 : Nat) : Int)) tu tu none #[]) ++ ([(252, .tab (rdT (A.at i.N i.G ((i.T + 17 : Nat) : Int) ((i.T + 27 : Nat) : Int))))] : DM), [(i.G, .running)]⟩
theorem RD0_r (q : Qd) (A : LA) (tu : Int) (tt : Tok) (cs : Array Value)  : RunsA (K4 q) (RD0_a q A tu tt cs) (RD0_s q A tu tt cs) (fun _ => []) (RD0_e q A tu tt cs) := by
  intro W i; obtain ⟨w, s₀, b1, b2⟩ := q; cases b1 <;> (kernel_rfl)
theorem RD0 {q : Qd} (Y : Sys (K4 q)) (A : LA) (tu : Int) (tt : Tok) (cs : Array Value)   : SegT Y (RD0_a q A tu tt cs) (RD0_e q A tu tt cs) :=
  Y.seg (RD0_r q A tu tt cs ) (show List.Nodup [25, 26, 22, 21, 2, 32, 12, 13, 29, 30, 4, 5, 27, 20, 28, 1, 31, 0, 23, 3, 33] by decide) (fun i hN => AllOk.nil)
noncomputable def TKe_a (q : Qd) (A : LA) (c₀ : Code) : SG := ⟨57, .pure (.done (.ret (.ref A.fst))), c₀, fsG q.P A, smD A ++ (([(A.cst, .cell (some (.ref A.fst)))] : DM) ++ (ltF A ++ ([(A.tb, .seq c_list [])] ++ [(A.fst, .raw (startO q.P A))]))), (GR A), hz 25 0x53444441f00fff0fff0355333, [0, 1, 2, 3, 4, 5]⟩
noncomputable def TKe_s (q : Qd) (A : LA) (c₀ : Code) (i : In) : List Spec := []
noncomputable def TKe_e (q : Qd) (A : LA) (c₀ : Code) (i : In) : SE := ⟨denF (cSt A), some (cSt A), fsG q.P A, smD A ++ (([(A.cst, .cell (some (.ref A.fst)))] : DM) ++ (ltF A ++ ([(A.tb, .seq c_list [])] ++ [(A.fst, .raw (startO q.P A))]))), (GR A)⟩
theorem TKe_r (q : Qd) (A : LA) (c₀ : Code)  : RunsA (K4 q) (TKe_a q A c₀) (TKe_s q A c₀) (fun _ => []) (TKe_e q A c₀) := by
  intro W i; obtain ⟨w, s₀, b1, b2⟩ := q; cases b1 <;> (kernel_rfl)
theorem TKe {q : Qd} (Y : Sys (K4 q)) (A : LA) (c₀ : Code)   : SegT Y (TKe_a q A c₀) (TKe_e q A c₀) :=
  Y.seg (TKe_r q A c₀ ) (show List.Nodup [0, 1, 2, 3, 4, 5] by decide) (fun i hN => AllOk.nil)
noncomputable def TKy_a (q : Qd) (A : LA) (tu : Int) (to : Option Addr) (sn : Array Value) (tok td : Addr) (nm x : Str) (lc ld : Addr) (fl : Str) (row col ln : Int) (c₀ : Code) : SG := ⟨534, .pure (.done (.ret (.ref A.fst))), c₀, fsG q.P A, (smD A ++ (([(A.cst, .cell (some (.ref A.fst)))] : DM) ++ (ltF A ++ ([(A.tb, .seq c_list [.ref tok])] ++ [(A.fst, .raw (startO q.P A))]))) ++ (lrF A tu to ++ (goT A ++ ([(A.seen, .arr c_list sn)] ++ (tokD tok td nm x lc ++ locD lc ld fl row col ln))))), (GR A), hz 337 0x75666663f22fff2fff250efd099980deddafafffffafffffffffffafffa9f9fffff9fffffffffff9fff96afafffffafffffffffffafffa9f9fffff9fffffffffff9fff96afafffffafffffffffffafffa9f9fffff9fffffffffff9fff96afafffffafffffffffffafffa9f9fffff9fffffffffff9fff969f9fffff9fffffffffff9fff969f9fffff9fffffffffff9fff96888866604444444441f00fff0fff03444441f00fff0fff0355333, [2, 3, 4, 5, 6, 7, 8, 9, 10, 12, 0, 1]⟩
noncomputable def TKy_s (q : Qd) (A : LA) (tu : Int) (to : Option Addr) (sn : Array Value) (tok td : Addr) (nm x : Str) (lc ld : Addr) (fl : Str) (row col ln : Int) (c₀ : Code) (i : In) : List Spec := [spPush A.seen 10 sn (i.ν 8).n (.ref (i.N + 1))]
noncomputable def TKy_e (q : Qd) (A : LA) (tu : Int) (to : Option Addr) (sn : Array Value) (tok td : Addr) (nm x : Str) (lc ld : Addr) (fl : Str) (row col ln : Int) (c₀ : Code) (i : In) : SE := ⟨denF (cSt A), some (cSt A), fsG q.P A, (smD A ++ (([(A.cst, .cell (some (.ref A.fst)))] : DM) ++ (ltF A ++ ([(A.tb, .seq c_list [])] ++ [(A.fst, .raw (startO q.P A))]))) ++ (lrF A tu (some tok) ++ (goT A ++ ([(A.seen, .arr c_list (sn.push (.ref (i.N + 1))))] ++ (locD lc ld fl row col ln ++ (tupK (i.N + 1) nm x (i.N + 0) ++ tupL (i.N + 0) fl row col ln)))))), (GR A)⟩
theorem TKy_r (q : Qd) (A : LA) (tu : Int) (to : Option Addr) (sn : Array Value) (tok td : Addr) (nm x : Str) (lc ld : Addr) (fl : Str) (row col ln : Int) (c₀ : Code)  : RunsA (K4 q) (TKy_a q A tu to sn tok td nm x lc ld fl row col ln c₀) (TKy_s q A tu to sn tok td nm x lc ld fl row col ln c₀) (fun _ => []) (TKy_e q A tu to sn tok td nm x lc ld fl row col ln c₀) := by
  intro W i; obtain ⟨w, s₀, b1, b2⟩ := q; cases b1 <;> cases to <;> (kernel_rfl)
theorem TKy {q : Qd} (Y : Sys (K4 q)) (A : LA) (tu : Int) (to : Option Addr) (sn : Array Value) (tok td : Addr) (nm x : Str) (lc ld : Addr) (fl : Str) (row col ln : Int) (c₀ : Code)  (h0 : sn.size ≤ sizeLine) : SegT Y (TKy_a q A tu to sn tok td nm x lc ld fl row col ln c₀) (TKy_e q A tu to sn tok td nm x lc ld fl row col ln c₀) :=
  Y.seg (TKy_r q A tu to sn tok td nm x lc ld fl row col ln c₀ ) (show List.Nodup [2, 3, 4, 5, 6, 7, 8, 9, 10, 12, 0, 1] by decide) (fun i hN => .cons (ok1 rfl rfl rfl (sok_push _ _ _ _ _ h0)) (AllOk.nil))
noncomputable def TKn_a (q : Qd) (A : LA) (tu : Int) (to : Option Addr) (c₀ : Code) : SG := ⟨25, .pure (.done (.ret .none)), c₀, fsG q.P A, smD A ++ (ltF A ++ ([(A.tb, .seq c_list [])] ++ (lrF A tu to ++ goT A))), (GR A), hz 6 0x600222, []⟩
noncomputable def TKn_s (q : Qd) (A : LA) (tu : Int) (to : Option Addr) (c₀ : Code) (i : In) : List Spec := []
noncomputable def TKn_e (q : Qd) (A : LA) (tu : Int) (to : Option Addr) (c₀ : Code) (i : In) : SE := ⟨.pure (.done (.ret (.ref A.seen))), none, [], ([] : DM), []⟩
theorem TKn_r (q : Qd) (A : LA) (tu : Int) (to : Option Addr) (c₀ : Code)  : RunsA (K4 q) (TKn_a q A tu to c₀) (TKn_s q A tu to c₀) (fun _ => []) (TKn_e q A tu to c₀) := by
  intro W i; obtain ⟨w, s₀, b1, b2⟩ := q; cases b1 <;> cases to <;> (kernel_rfl)
theorem TKn {q : Qd} (Y : Sys (K4 q)) (A : LA) (tu : Int) (to : Option Addr) (c₀ : Code)   : SegT Y (TKn_a q A tu to c₀) (TKn_e q A tu to c₀) :=
  Y.seg (TKn_r q A tu to c₀ ) (show List.Nodup [] by decide) (fun i hN => AllOk.nil)
end Mine
end
section
set_option linter.unusedVariables false
set_option linter.unusedSimpArgs false
set_option maxRecDepth 100000
set_option maxHeartbeats 0
namespace Mine
open PySem PySem.W PySem.W.X
noncomputable def frC : List Frame → Code
  | .ret _ _ _ _ c _ _ :: _ => c
  | _ => .builtin "" {}
theorem fsX_err (P : Params) (A : LA) (L : Nat) : ∃ r1 r2 c1 c2, fsX P A L = [RF.fr r1 c1, RF.fr r2 c2] ∧ c1.isFrame = false ∧ (c2.isFrame = true ∧ c2.env? = some (brEnv P A L)) ∧ ∀ e, r1.k (.error (.ref e)) = errL (brEnv P A L) e :=
  ⟨rfOf (fsX P A L), rfOf (fsX P A L).tail, frC (fsX P A L), frC (fsX P A L).tail, by kernel_rfl, by kernel_rfl, ⟨by kernel_rfl, by kernel_rfl⟩, fun e => by kernel_rfl⟩
theorem fsO_err (P : Params) (A : LA) (L : Nat) : ∃ r1 r2 r3 c1 c2 c3, fsO P A L = [RF.fr r1 c1, RF.fr r2 c2, RF.fr r3 c3] ∧ (c1.isFrame = false ∧ c2.isFrame = false) ∧ (c3.isFrame = true ∧ c3.env? = some (brEnv P A L)) ∧
    ∀ e, r1.k (.error (.ref e)) = errL (brEnv P A L) e :=
  ⟨rfOf (fsO P A L), rfOf (fsO P A L).tail, rfOf (fsO P A L).tail.tail, frC (fsO P A L), frC (fsO P A L).tail, frC (fsO P A L).tail.tail, by kernel_rfl, ⟨by kernel_rfl, by kernel_rfl⟩, ⟨by kernel_rfl, by kernel_rfl⟩, fun e => by kernel_rfl⟩
theorem fsS4_err (P : Params) (A : LA) (L : Nat) : ∃ r c, fsS4 P A L = [RF.fr r c] ∧ (c.isFrame = true ∧ c.env? = some (startEnv P A L)) ∧ ∀ e, r.k (.error (.ref e)) = errF (startEnv P A L) e :=
  ⟨rfOf (fsS4 P A L), frC (fsS4 P A L), by kernel_rfl, ⟨by kernel_rfl, by kernel_rfl⟩, fun e => by kernel_rfl⟩
theorem fsS6_err (P : Params) (A : LA) (L : Nat) : ∃ r c, fsS6 P A L = [RF.fr r c] ∧ (c.isFrame = true ∧ c.env? = some (startEnv P A L)) ∧ ∀ e, r.k (.error (.ref e)) = errF (startEnv P A L) e :=
  ⟨rfOf (fsS6 P A L), frC (fsS6 P A L), by kernel_rfl, ⟨by kernel_rfl, by kernel_rfl⟩, fun e => by kernel_rfl⟩
theorem fsR_err (P : Params) (A : LA) (L : Nat) : ∃ r c, fsR P A L = [RF.fr r c] ∧ (c.isFrame = true ∧ c.env? = some (expEnv P L)) ∧ ∀ e, r.k (.error (.ref e)) = errF (expEnv P L) e :=
  ⟨rfOf (fsR P A L), frC (fsR P A L), by kernel_rfl, ⟨by kernel_rfl, by kernel_rfl⟩, fun e => by kernel_rfl⟩
noncomputable def genFr : List Frame → Frame
  | f :: _ => f
  | [] => .ret (fun _ => .raise .none) none false [] (.builtin "" {}) default []
theorem fsG_err (P : Params) (A : LA) : ∃ r1 r2 r4 r5 fg c1 c2 c4 c5, fsG P A = [RF.fr r1 c1, RF.fr r2 c2, fg, r4, RF.fr r5 c5] ∧ c1.isFrame = false ∧ (c2.isFrame = true ∧ c2.env? = some (tokEnv P A)) ∧ (fg.where_.1.isFrame = false ∧ r4.where_.1 = c4 ∧ c4.isFrame = false ∧ c5.isFrame = true ∧ c5.env? = some (readEnv P A)) ∧
    ∀ e, r1.k (.error (.ref e)) = errL (tokEnv P A) e :=
  ⟨rfOf (fsG P A), rfOf (fsG P A).tail, genFr (fsG P A).tail.tail.tail, rfOf (fsG P A).tail.tail.tail.tail, genFr (fsG P A).tail.tail, frC (fsG P A), frC (fsG P A).tail, frC (fsG P A).tail.tail.tail, frC (fsG P A).tail.tail.tail.tail, by kernel_rfl, by kernel_rfl, ⟨by kernel_rfl, by kernel_rfl⟩, ⟨by kernel_rfl, by kernel_rfl, by kernel_rfl, by kernel_rfl, by kernel_rfl⟩, fun e => by kernel_rfl⟩
noncomputable def OwX_a (q : Qd) (A : LA) (L : Nat) (e dc ar tb : Addr) (nx fr fl : Value) (v : Six) (c₀ : Code) : SG := ⟨5, .raise (.ref e), c₀, (fsX q.P A L).tail, ([(tb, .raw (tbO nx fr fl v))] : DM) ++ [(e, .raw (excO dc ar (.ref tb)))], GR A, hz 4 0x0011, [0, 1]⟩
noncomputable def OwX_e (q : Qd) (A : LA) (L : Nat) (e dc ar tb : Addr) (nx fr fl : Value) (v : Six) (i : In) : SE := ⟨errF (brEnv q.P A L) e, some (frC ((fsX q.P A L).tail)), ((fsX q.P A L).tail).tail, ([(tb, .raw (tbO nx fr (rawInt (L)) v))] : DM) ++ [(e, .raw (excO dc ar (.ref tb)))], GR A⟩
theorem OwX_r (q : Qd) (A : LA) (L : Nat) (e dc ar tb : Addr) (nx fr fl : Value) (v : Six) (c₀ : Code) : RunsTo (K4 q) (OwX_a q A L e dc ar tb nx fr fl v c₀) (fun _ => []) (OwX_e q A L e dc ar tb nx fr fl v) := by
  intro W i; kernel_rfl
theorem OwX {q : Qd} (Y : Sys (K4 q)) (A : LA) (L : Nat) (e dc ar tb : Addr) (nx fr fl : Value) (v : Six) (c₀ : Code) : SegT Y (OwX_a q A L e dc ar tb nx fr fl v c₀) (OwX_e q A L e dc ar tb nx fr fl v) :=
  Y.seg (OwX_r q A L e dc ar tb nx fr fl v c₀) (show List.Nodup [0, 1] by decide) (fun i hN => AllOk.nil)
noncomputable def OwL_a (q : Qd) (A : LA) (L : Nat) (e dc ar tb : Addr) (nx fr fl : Value) (v : Six) (c₀ : Code) : SG := ⟨5, .raise (.ref e), c₀, (fsO q.P A L).tail, ([(tb, .raw (tbO nx fr fl v))] : DM) ++ [(e, .raw (excO dc ar (.ref tb)))], GR A, hz 4 0x0011, [0, 1]⟩
noncomputable def OwL_e (q : Qd) (A : LA) (L : Nat) (e dc ar tb : Addr) (nx fr fl : Value) (v : Six) (i : In) : SE := ⟨errL (brEnv q.P A L) e, some (frC ((fsO q.P A L).tail)), ((fsO q.P A L).tail).tail, ([(tb, .raw (tbO nx fr (rawInt (L)) v))] : DM) ++ [(e, .raw (excO dc ar (.ref tb)))], GR A⟩
theorem OwL_r (q : Qd) (A : LA) (L : Nat) (e dc ar tb : Addr) (nx fr fl : Value) (v : Six) (c₀ : Code) : RunsTo (K4 q) (OwL_a q A L e dc ar tb nx fr fl v c₀) (fun _ => []) (OwL_e q A L e dc ar tb nx fr fl v) := by
  intro W i; kernel_rfl
theorem OwL {q : Qd} (Y : Sys (K4 q)) (A : LA) (L : Nat) (e dc ar tb : Addr) (nx fr fl : Value) (v : Six) (c₀ : Code) : SegT Y (OwL_a q A L e dc ar tb nx fr fl v c₀) (OwL_e q A L e dc ar tb nx fr fl v) :=
  Y.seg (OwL_r q A L e dc ar tb nx fr fl v c₀) (show List.Nodup [0, 1] by decide) (fun i hN => AllOk.nil)
noncomputable def OwF_a (q : Qd) (A : LA) (L : Nat) (e dc ar tb : Addr) (nx fr fl : Value) (v : Six) (c₀ : Code) : SG := ⟨5, .raise (.ref e), c₀, (fsO q.P A L).tail.tail, ([(tb, .raw (tbO nx fr fl v))] : DM) ++ [(e, .raw (excO dc ar (.ref tb)))], GR A, hz 4 0x0011, [0, 1]⟩
noncomputable def OwF_e (q : Qd) (A : LA) (L : Nat) (e dc ar tb : Addr) (nx fr fl : Value) (v : Six) (i : In) : SE := ⟨errF (brEnv q.P A L) e, some (frC ((fsO q.P A L).tail.tail)), ((fsO q.P A L).tail.tail).tail, ([(tb, .raw (tbO nx fr (rawInt (L)) v))] : DM) ++ [(e, .raw (excO dc ar (.ref tb)))], GR A⟩
theorem OwF_r (q : Qd) (A : LA) (L : Nat) (e dc ar tb : Addr) (nx fr fl : Value) (v : Six) (c₀ : Code) : RunsTo (K4 q) (OwF_a q A L e dc ar tb nx fr fl v c₀) (fun _ => []) (OwF_e q A L e dc ar tb nx fr fl v) := by
  intro W i; kernel_rfl
theorem OwF {q : Qd} (Y : Sys (K4 q)) (A : LA) (L : Nat) (e dc ar tb : Addr) (nx fr fl : Value) (v : Six) (c₀ : Code) : SegT Y (OwF_a q A L e dc ar tb nx fr fl v c₀) (OwF_e q A L e dc ar tb nx fr fl v) :=
  Y.seg (OwF_r q A L e dc ar tb nx fr fl v c₀) (show List.Nodup [0, 1] by decide) (fun i hN => AllOk.nil)
noncomputable def OwT_a (q : Qd) (A : LA) (e dc ar tb : Addr) (nx fr fl : Value) (v : Six) (c₀ : Code) : SG := ⟨5, .raise (.ref e), c₀, (fsG q.P A).tail, ([(tb, .raw (tbO nx fr fl v))] : DM) ++ [(e, .raw (excO dc ar (.ref tb)))], GR A, hz 4 0x0011, [0, 1]⟩
noncomputable def OwT_e (q : Qd) (A : LA) (e dc ar tb : Addr) (nx fr fl : Value) (v : Six) (i : In) : SE := ⟨errF (tokEnv q.P A) e, some (frC ((fsG q.P A).tail)), ((fsG q.P A).tail).tail, ([(tb, .raw (tbO nx fr (rawInt (A.Lt)) v))] : DM) ++ [(e, .raw (excO dc ar (.ref tb)))], GR A⟩
theorem OwT_r (q : Qd) (A : LA) (e dc ar tb : Addr) (nx fr fl : Value) (v : Six) (c₀ : Code) : RunsTo (K4 q) (OwT_a q A e dc ar tb nx fr fl v c₀) (fun _ => []) (OwT_e q A e dc ar tb nx fr fl v) := by
  intro W i; kernel_rfl
theorem OwT {q : Qd} (Y : Sys (K4 q)) (A : LA) (e dc ar tb : Addr) (nx fr fl : Value) (v : Six) (c₀ : Code) : SegT Y (OwT_a q A e dc ar tb nx fr fl v c₀) (OwT_e q A e dc ar tb nx fr fl v) :=
  Y.seg (OwT_r q A e dc ar tb nx fr fl v c₀) (show List.Nodup [0, 1] by decide) (fun i hN => AllOk.nil)
noncomputable def XG_a (q : Qd) (A : LA) (e dc ar tb : Addr) (c₀ : Code) : SG := ⟨10, .raise (.ref e), c₀, (fsG q.P A).drop 2, goT A ++ ([(e, .raw (excO dc ar (.ref tb)))] : DM), (GR A), hz 8 0xf1f1f100, [1]⟩
noncomputable def XG_s (q : Qd) (A : LA) (e dc ar tb : Addr) (c₀ : Code) (i : In) : List Spec := []
noncomputable def XG_e (q : Qd) (A : LA) (e dc ar tb : Addr) (c₀ : Code) (i : In) : SE := ⟨errL (readEnv q.P A) e, some (cReadFor q.P A), (fsG q.P A).drop 4, ([(e, .raw (excO dc ar (.ref tb)))] : DM), []⟩
theorem XG_r (q : Qd) (A : LA) (e dc ar tb : Addr) (c₀ : Code)  : RunsA (K4 q) (XG_a q A e dc ar tb c₀) (XG_s q A e dc ar tb c₀) (fun _ => []) (XG_e q A e dc ar tb c₀) := by
  intro W i; obtain ⟨w, s₀, b1, b2⟩ := q; cases b1 <;> (kernel_rfl)
theorem XG {q : Qd} (Y : Sys (K4 q)) (A : LA) (e dc ar tb : Addr) (c₀ : Code)   : SegT Y (XG_a q A e dc ar tb c₀) (XG_e q A e dc ar tb c₀) :=
  Y.seg (XG_r q A e dc ar tb c₀ ) (show List.Nodup [1] by decide) (fun i hN => AllOk.nil)
noncomputable def hsR (P : Params) : List ExceptHandler := match nthS (readB P) 5 with
  | .Try _ hs _ _ _ => hs
  | _ => []
noncomputable def trC (P : Params) (A : LA) (e : Addr) (m : Sem Unit) : Sem Fin := PySem.W.R.bindR (PySem.W.R.onRaiseR (PySem.W.R.bindR (PySem.W.R.bindR m fun _ => PySem.W.R.bindR (sfT (.ref e) none) fun _ => PySem.W.Fast.tw14206642085496868694 (.ref e) (readEnv P A) (hsR P))
  (fun fl => match fl with
    | .next => PySem.W.Fast.tw12563942051412417395 (dropS 6 (readB P)) (readEnv P A)
    | f => .pure f)) (lvT (readEnv P A))) retG
noncomputable def XH_a (q : Qd) (A : LA) (e dc ar tb : Addr) (nx fr fl : Value) (v : Six) (c₀ : Code) : SG := ⟨5, .raise (.ref e), c₀, (fsG q.P A).drop 4, ([(tb, .raw (tbO nx fr fl v))] : DM) ++ [(e, .raw (excO dc ar (.ref tb)))], [], hz 4 0x0011, [0, 1]⟩
noncomputable def XH_s (q : Qd) (A : LA) (e dc ar tb : Addr) (nx fr fl : Value) (v : Six) (c₀ : Code) (i : In) : List Spec := []
noncomputable def XH_e (q : Qd) (A : LA) (e dc ar tb : Addr) (nx fr fl : Value) (v : Six) (c₀ : Code) (i : In) : SE := ⟨trC q.P A e (ntT (.ref e) (readEnv q.P A)), some (cReadB q.P A), [], ([(tb, .raw (tbO nx fr (rawInt A.Lr) v))] : DM) ++ [(e, .raw (excO dc ar (.ref tb)))], []⟩
theorem XH_r (q : Qd) (A : LA) (e dc ar tb : Addr) (nx fr fl : Value) (v : Six) (c₀ : Code)  : RunsA (K4 q) (XH_a q A e dc ar tb nx fr fl v c₀) (XH_s q A e dc ar tb nx fr fl v c₀) (fun _ => []) (XH_e q A e dc ar tb nx fr fl v c₀) := by
  intro W i; (kernel_rfl)
theorem XH {q : Qd} (Y : Sys (K4 q)) (A : LA) (e dc ar tb : Addr) (nx fr fl : Value) (v : Six) (c₀ : Code)   : SegT Y (XH_a q A e dc ar tb nx fr fl v c₀) (XH_e q A e dc ar tb nx fr fl v c₀) :=
  Y.seg (XH_r q A e dc ar tb nx fr fl v c₀ ) (show List.Nodup [0, 1] by decide) (fun i hN => AllOk.nil)
noncomputable def HXs_a (q : Qd) (A : LA) (e dc ar tb hl : Addr) (nx fr : Value) (v : Six) (m : Str) (tu : Int) (to : Option Addr) (sn : Array Value) (lc ld : Addr) (fl : Str) (row col ln : Int) : SG := ⟨330, trC q.P A e (.pure ()), cReadB q.P A, [], (([(tb, .raw (tbO nx fr (rawInt A.Lr) v))] : DM) ++ [(e, .raw (excO dc ar (.ref tb)))]) ++ (exD dc m (some lc) hl ++ (lrF A tu to ++ ([(A.seen, .arr c_list sn)] ++ locD lc ld fl row col ln))), [], hz 216 0x5555580dedd5f5fffff5fffffffffff5fff52f11fff1f1ffffff135f5fffff5fffffffffff5fff52f11fff1f1ffffff135f5fffff5fffffffffff5fff52f11fff1f1ffffff135f5fffff5fffffffffff5fff52f11fff1f1ffffff132f11fff1f1ffffff134444333001f1ffff001, [6, 0, 1]⟩
noncomputable def HXs_s (q : Qd) (A : LA) (e dc ar tb hl : Addr) (nx fr : Value) (v : Six) (m : Str) (tu : Int) (to : Option Addr) (sn : Array Value) (lc ld : Addr) (fl : Str) (row col ln : Int) (i : In) : List Spec := [spPush A.seen 6 sn (i.ν 4).n (.ref (i.N + 1))]
noncomputable def HXs_e (q : Qd) (A : LA) (e dc ar tb hl : Addr) (nx fr : Value) (v : Six) (m : Str) (tu : Int) (to : Option Addr) (sn : Array Value) (lc ld : Addr) (fl : Str) (row col ln : Int) (i : In) : SE := ⟨.pure (.done (.ret (.ref A.seen))), none, [], ([(A.seen, .arr c_list (sn.push (.ref (i.N + 1))))] : DM) ++ ([((i.N + 1), .seq c_tuple [.str ⟨⟨[114, 101, 102, 117, 115, 101, 100]⟩⟩, .ref (i.N + 0)])] ++ tupL (i.N + 0) fl row col ln), []⟩
theorem HXs_r (q : Qd) (A : LA) (e dc ar tb hl : Addr) (nx fr : Value) (v : Six) (m : Str) (tu : Int) (to : Option Addr) (sn : Array Value) (lc ld : Addr) (fl : Str) (row col ln : Int)  : RunsA (K4 q) (HXs_a q A e dc ar tb hl nx fr v m tu to sn lc ld fl row col ln) (HXs_s q A e dc ar tb hl nx fr v m tu to sn lc ld fl row col ln) (fun _ => []) (HXs_e q A e dc ar tb hl nx fr v m tu to sn lc ld fl row col ln) := by
  intro W i; obtain ⟨w, s₀, b1, b2⟩ := q; cases b1 <;> cases to <;> (kernel_rfl)
theorem HXs {q : Qd} (Y : Sys (K4 q)) (A : LA) (e dc ar tb hl : Addr) (nx fr : Value) (v : Six) (m : Str) (tu : Int) (to : Option Addr) (sn : Array Value) (lc ld : Addr) (fl : Str) (row col ln : Int)  (h0 : sn.size ≤ sizeLine) : SegT Y (HXs_a q A e dc ar tb hl nx fr v m tu to sn lc ld fl row col ln) (HXs_e q A e dc ar tb hl nx fr v m tu to sn lc ld fl row col ln) :=
  Y.seg (HXs_r q A e dc ar tb hl nx fr v m tu to sn lc ld fl row col ln ) (show List.Nodup [6, 0, 1] by decide) (fun i hN => .cons (ok1 rfl rfl rfl (sok_push _ _ _ _ _ h0)) (AllOk.nil))
noncomputable def HXn_a (q : Qd) (A : LA) (e dc ar tb hl : Addr) (nx fr : Value) (v : Six) (m : Str) (tu : Int) (to : Option Addr) (sn : Array Value) : SG := ⟨80, trC q.P A e (.pure ()), cReadB q.P A, [], (([(tb, .raw (tbO nx fr (rawInt A.Lr) v))] : DM) ++ [(e, .raw (excO dc ar (.ref tb)))]) ++ (exD dc m none hl ++ (lrF A tu to ++ ([(A.seen, .arr c_list sn)] ++ ([] : DM)))), [], hz 43 0x4444480d2f11fff1f1ffffff134444333001f1ffff001, [5, 0]⟩
noncomputable def HXn_s (q : Qd) (A : LA) (e dc ar tb hl : Addr) (nx fr : Value) (v : Six) (m : Str) (tu : Int) (to : Option Addr) (sn : Array Value) (i : In) : List Spec := [spPush A.seen 5 sn (i.ν 4).n (.ref (i.N + 0))]
noncomputable def HXn_e (q : Qd) (A : LA) (e dc ar tb hl : Addr) (nx fr : Value) (v : Six) (m : Str) (tu : Int) (to : Option Addr) (sn : Array Value) (i : In) : SE := ⟨.pure (.done (.ret (.ref A.seen))), none, [], ([(A.seen, .arr c_list (sn.push (.ref (i.N + 0))))] : DM) ++ ([((i.N + 0), .seq c_tuple [.str ⟨⟨[114, 101, 102, 117, 115, 101, 100]⟩⟩, .none])] ++ ([] : DM)), []⟩
theorem HXn_r (q : Qd) (A : LA) (e dc ar tb hl : Addr) (nx fr : Value) (v : Six) (m : Str) (tu : Int) (to : Option Addr) (sn : Array Value)  : RunsA (K4 q) (HXn_a q A e dc ar tb hl nx fr v m tu to sn) (HXn_s q A e dc ar tb hl nx fr v m tu to sn) (fun _ => []) (HXn_e q A e dc ar tb hl nx fr v m tu to sn) := by
  intro W i; obtain ⟨w, s₀, b1, b2⟩ := q; cases b1 <;> cases to <;> (kernel_rfl)
theorem HXn {q : Qd} (Y : Sys (K4 q)) (A : LA) (e dc ar tb hl : Addr) (nx fr : Value) (v : Six) (m : Str) (tu : Int) (to : Option Addr) (sn : Array Value)  (h0 : sn.size ≤ sizeLine) : SegT Y (HXn_a q A e dc ar tb hl nx fr v m tu to sn) (HXn_e q A e dc ar tb hl nx fr v m tu to sn) :=
  Y.seg (HXn_r q A e dc ar tb hl nx fr v m tu to sn ) (show List.Nodup [5, 0] by decide) (fun i hN => .cons (ok1 rfl rfl rfl (sok_push _ _ _ _ _ h0)) (AllOk.nil))
end Mine
end
section
set_option maxRecDepth 100000
namespace Mine
open PySem PySem.W PySem.W.X
section
variable {prog : Program} {w : World}
noncomputable def spPop0 (l : Addr) (j : Nat) (xs : Array Value) (n : Nat) (v : Value) : Spec := ⟨callB "list.pop" [.ref l], [(j, l, listO (xs.push v) n)], [(j, l, listO xs (n + 1))], fun _ _ => .ok (.ret v), 0, fun _ => [], false⟩
theorem sok_pop0 (l : Addr) (j : Nat) (xs : Array Value) (n : Nat) (v : Value) (h : xs.size < sizeLine) : SpecOK (model prog w) (spPop0 l j xs n v) :=
  sok_meets (S := spPop0 l j xs n v) (MeetsSeq.list_pop_last l (xs.push v) n v (by simp) (by rw [Array.size_push]; omega))
    F.slot_list_pop.plain F.entry_list_pop rfl (chk_slot F.slot_list_pop (F.args_list_pop_1 _) fun _ hp => ty_list (hp _ (List.mem_cons_self ..)))
    fun _ _ _ hp _ hR => ⟨hp _ (List.mem_cons_self ..), hR _ (eff_upd (S := spPop0 l j xs n v) rfl rfl rfl (hp _ (List.mem_cons_self ..)) (by
      show Obj.mapSeq (fun ys => ys.eraseIdxIfInBounds ((xs.push v).size - 1)) (listO (xs.push v) n) = listO xs (n + 1)
      have e : (xs.push v).size - 1 = xs.size := by rw [Array.size_push]; omega
      rw [e]
      simp only [Obj.mapSeq, listO, erase_push]
      have hne : (xs.size == (xs.push v).size) = false := by rw [Array.size_push]; simp
      rw [hne]; rfl) rfl)⟩
theorem ok_pop0 {K : Top} (l : Addr) (j : Nat) (xs : Array Value) (n : Nat) (v : Value) (h : xs.size < sizeLine) : OkS K (spPop0 l j xs n v) := ok1 rfl rfl rfl (sok_pop0 l j xs n v h)
noncomputable def spEqE (l m : Addr) (i j : Nat) (xs : Array Value) (n n2 : Nat) (b : Bool) : Spec := ⟨callB "list.__eq__" [.ref l, .ref m], [(i, l, listO xs n), (j, m, listO #[] n2)], [], fun _ _ => .ok (.ret (.bool b)), 0, fun _ => [], false⟩
open AutoSeq1 (wpAny_loadPart') in
theorem meets_eqE (l b : Addr) (items : Array Value) (n n2 : Nat) (r : Bool) (hr : (items.size == 0) = r) : Meets (Builtin.«list.__eq__» ⟨[.ref l, .ref b], []⟩)
      (fun _ R s => s.heap.get? l = some { cls := .type "list", dict := none, data := .seq items n, slots := #[] } ∧ s.heap.get? b = some { cls := .type "list", dict := none, data := .seq #[] n2, slots := #[] } ∧ R (.ok (.ret (.bool r))) s) := by
  cases r with
  | true =>
    have h0 : items.size = 0 := by simpa using hr
    intro prog w A R s h
    refine MeetsSeq3.list_eq l b items #[] n n2 (by simpa using h0) (fun _ => true) (fun j h1 h2 => absurd h2 (Nat.not_lt_zero _)) prog w A R s ⟨h.1, h.2.1, ?_⟩
    have e : ((List.range items.size).all fun _ => true) = true := by simp
    rw [e]; exact h.2.2
  | false =>
    exact .of_wp fun prog w A R s h => by
      obtain ⟨hp, g, d, tk, os⟩ := s; obtain ⟨hl, hb, h⟩ := h
      have f3 := AutoSeq1.sub_list_list
      have hne : (items.size != 0) = true := by
        have : (items.size == 0) = false := hr
        simp [bne, this]
      wp_walk using wpAny_loadPart' hl, wpAny_loadPart' hb
      exact ⟨_, rfl, h⟩
theorem ok_eqE {K : Top} (l m : Addr) (i j : Nat) (xs : Array Value) (n n2 : Nat) (b : Bool) (h : (xs.size == 0) = b) : OkS K (spEqE l m i j xs n n2 b) := okr rfl rfl <|
  sok_meets (S := spEqE l m i j xs n n2 b) (meets_eqE l m xs n n2 b h) F.slot_list_eq.plain F.entry_list_eq rfl (chk_slot F.slot_list_eq (F.args_list_eq_2 _ _) fun _ hp => ty_list (hp _ (List.mem_cons_self ..)))
    fun _ _ s hp _ hR => ⟨hp _ (List.mem_cons_self ..), hp _ (List.mem_cons_of_mem _ (List.mem_cons_self ..)), hR _ ⟨⟨s.heap, ⟨rfl, fun _ => rfl⟩, rfl⟩, rfl, rfl, rfl, rfl⟩⟩
theorem sok_sne (x : Str) (t : Tok) (y : Str) (u : Tok) : SpecOK (model prog w) (spV (SS "str.__ne__" x t y u) (.bool (x.cps.toList != y.cps.toList)) 0) :=
  sok_bool (gives_str_ne x y t u) F.slot_str_ne.plain F.entry_str_ne (chk_slot F.slot_str_ne (F.args_str_ne_2 _ _) fun s _ => ty_str s x t)
noncomputable def spLenB (l : Addr) (j : Nat) (xs : Array Value) (n m : Nat) : Spec := ⟨.builtin "len" ⟨[.ref l], []⟩, [(j, l, listO xs n)], [], fun t _ => .ok (.ret (.int ((m : Nat) : Int) (t + 1))), 2, fun _ => [], false⟩
theorem ok_lenB {K : Top} (l : Addr) (j : Nat) (xs : Array Value) (n m : Nat) (hx : xs.size = m) (hm : (m : Int) < 2 ^ 63) : OkS K (spLenB l j xs n m) := by
  subst hx
  exact okr rfl rfl <| spec_of_any fun A s R hp _ hR => codeAny_builtin entry_len (by
    rw [Around.under_plainId plain_len _]
    exact meets_len_list l xs n hm _ _ A R s ⟨hp _ (List.mem_cons_self ..), hR _ ⟨⟨s.heap, ⟨rfl, fun _ => rfl⟩, rfl⟩, rfl, rfl, rfl, rfl⟩⟩)
noncomputable def atok (x y : Str) (t u v : Tok) : Tok := match x.length == 0 with
  | true => u
  | false => match y.length == 0 with
    | true => t
    | false => v
noncomputable def adt (x y : Str) : Nat := match x.length == 0 with
  | true => 0
  | false => match y.length == 0 with
    | true => 0
    | false => 1
noncomputable def spAdd (x : Str) (t : Tok) (y : Str) (u : Tok) : Spec := ⟨SS "str.__add__" x t y u, [], [], fun v _ => .ok (.ret (.str (x ++ y) (atok x y t u v))), adt x y, fun _ => [], false⟩
theorem empty_of {x : Str} (h : (x.length == 0) = true) : x = ⟨⟨[]⟩⟩ := by
  obtain ⟨⟨l⟩⟩ := x
  cases l with
  | nil => rfl
  | cons a l => simp [Str.length] at h
theorem ok_add {K : Top} (x : Str) (t : Tok) (y : Str) (u : Tok) (hs : (x ++ y).length ≤ sizeLine) : OkS K (spAdd x t y u) := by
  cases h1 : x.length == 0 with
  | true =>
    have hx := empty_of h1
    subst hx
    have e : (⟨⟨[]⟩⟩ : Str) ++ y = y := by
      show (⟨(#[] : Array Nat) ++ y.cps⟩ : Str) = y
      simp
    have := okv (K := K) (sok_sadd0 y t u)
    unfold spAdd
    rw [e]
    exact this
  | false =>
    cases h2 : y.length == 0 with
    | true =>
      have hy := empty_of h2
      subst hy
      have e : x ++ (⟨⟨[]⟩⟩ : Str) = x := by
        show (⟨x.cps ++ (#[] : Array Nat)⟩ : Str) = x
        simp
      have g : SpecOK (model K.prog K.w) (spV (SS "str.__add__" x t ⟨⟨[]⟩⟩ u) (.raw (.str x t)) 0) :=
        sok_gives (m := .val (.str x t)) (by have := gives_str_add x ⟨⟨[]⟩⟩ t u; rw [h1] at this; exact this) F.slot_str_add.plain F.entry_str_add (chk_slot F.slot_str_add (F.args_str_add_2 _ _) fun s _ => ty_str s _ t) fun _ _ h => h
      have := okv g
      have e1 : ∀ v, atok x ⟨⟨[]⟩⟩ t u v = t := fun v => by unfold atok; rw [h1]; rfl
      have e2 : adt x ⟨⟨[]⟩⟩ = 0 := by unfold adt; rw [h1]; rfl
      unfold spAdd
      rw [e, e2]
      simp only [e1]
      exact this
    | false =>
      have := okv (K := K) (sok_sadd x y t u h1 h2 hs)
      have e1 : ∀ v, atok x y t u v = v := fun v => by unfold atok; rw [h1, h2]
      have e2 : adt x y = 1 := by unfold adt; rw [h1, h2]
      unfold spAdd
      rw [e2]
      simp only [e1]
      exact this
theorem dv_ne (n : Nat) : (n : Int) + 1 ≠ 0 := by omega
theorem dv_small (a : Int) (n : Nat) (h : (n : Int) < 2 ^ 63) : Builtin.divisionGoesByPylong a ((n : Int) + 1) = false := by
  refine div_small _ _ ?_
  split
  · omega
  · have h1 : ((n : Int) + 1).natAbs = n + 1 := by omega
    rw [h1]
    have h2 : n + 1 < 2 ^ 64 := by
      have : (n : Int) < 9223372036854775808 := h
      omega
    have h3 : (n + 1).log2 < 64 := (Nat.log2_lt (by omega)).mpr h2
    omega
theorem sys_ne {N a : Nat} (h : 270 ≤ N) : (N + a == sysModules) = false := by
  have : N + a ≠ sysModules := by show N + a ≠ 1; omega
  simpa using this
end
end Mine
end
section
set_option linter.unusedVariables false
set_option linter.unusedSimpArgs false
set_option maxRecDepth 100000
set_option maxHeartbeats 0
namespace Mine
open PySem PySem.W PySem.W.X
noncomputable def cDue (tx : Str) (tk : Tok) (pl : Addr) : Code := cFn 264 [.str tx tk, .ref pl]
noncomputable def duB (P : Params) : List Stmt := stmtsOf (fnOf (ob P 264))
noncomputable def duEnv (P : Params) (z : Addr) : Env := envF (fnOf (ob P 264)) 264 z []
noncomputable def cDf (P : Params) (z : Addr) : Code := match nthS (duB P) 1 with
  | .For t _ b o _ => .forLoop t (.ref (z + 8)) b o (duEnv P z)
  | _ => .builtin "" {}
noncomputable def isv : Option (Int × Nat) → List (List Nat × VD)
  | none => []
  | some x => [([105], .int x.1), ([115, 105, 103, 110], .str ⟨⟨[x.2]⟩⟩)]
noncomputable def duF (z : Addr) (tx : Str) (pl : Addr) (fs : Int) (x : Option (Int × Nat)) : DM := [(z, .frq ([([116, 101, 120, 116], .str tx), ([112, 108, 97, 99, 101, 115], .ref pl), ([102, 105, 114, 115, 116], .int fs), ([111, 112, 101, 110, 101, 100], .ref (z + 2)), ([115, 101, 101, 110], .ref (z + 1))] ++ isv x))]
noncomputable def enD (z : Addr) (ow : VD) (j : Nat) (pc : Option Nat) : DM := [(z + 8, .fields c_enum [ow, .bool false, .ref (z + 7), .raw (.int ((j : Nat) : Int) 0), .none, match pc with | none => .none | some c => .str ⟨⟨[c]⟩⟩])]
noncomputable def siD (z : Addr) (tx : Str) (tk : Tok) (k : Nat) : DM := [(z + 7, .fields c_strit [.raw (.str tx tk), .raw (.int ((k : Nat) : Int) 0)])]
noncomputable def duL (z : Addr) (sn os : Array Value) : DM := [(z + 1, .arr c_list sn), (z + 2, .arr c_list os)]
noncomputable def twoD (u : Addr) (j : Nat) (sg : Nat) : DM := [(u, .seq c_tuple [.int ((j : Nat) : Int), .str ⟨⟨[sg]⟩⟩])]
theorem forTup_Df (P : Params) (z : Addr) : forTup (cDf P z) = some (z + 8) := by kernel_rfl
noncomputable def oU0 (P : Params) (z : Nat) : Out := run (V0t P (z) (0)) 134 (denF (cDue ⟨⟨[97]⟩⟩ 7 8)) (cDue ⟨⟨[97]⟩⟩ 7 8) default ([]) (memOf P (fun _ _ => 0) (fun _ => ⟨0, #[]⟩) 0 ([])) 0 0 ([]) 0 (hz 59 0x0000000006ff6666660001000000100000010000001000000000e0000ff) []
noncomputable def fsU (P : Params) (z : Nat) : List Frame := (oU0 P z).fs
theorem chk_U (P : Params) (z : Nat) : (fsU P z).length = 1 := by kernel_rfl
noncomputable def DU0_a (q : Qd) (A : LA) (tx : Str) (tk : Tok) (pl : Addr) : SG := ⟨131, denF (cDue tx tk pl), cDue tx tk pl, [], [], [], hz 62 0x00000000080deddedd6ff6666660001000000100000010000001000000000e0000ff, [8, 7, 6, 1, 0]⟩
noncomputable def DU0_s (q : Qd) (A : LA) (tx : Str) (tk : Tok) (pl : Addr) (i : In) : List Spec := [spSIter (tx) tk]
noncomputable def DU0_e (q : Qd) (A : LA) (tx : Str) (tk : Tok) (pl : Addr) (i : In) : SE := ⟨denF (cDf q.P i.N), some (cDf q.P i.N), fsU q.P i.N, duF i.N tx pl 0 none ++ (duL i.N #[] #[] ++ (siD i.N tx tk 0 ++ enD i.N .none 0 none)), []⟩
theorem DU0_r (q : Qd) (A : LA) (tx : Str) (tk : Tok) (pl : Addr)  : RunsC (K4 q) ([cLawB q.P A, cCaller]) (DU0_a q A tx tk pl) (DU0_s q A tx tk pl) (fun _ => []) (DU0_e q A tx tk pl) := by
  intro W i; obtain ⟨w, s₀, b1, b2⟩ := q; cases b1 <;> (kernel_rfl)
theorem DU0 {q : Qd} (Y : Sys (K4 q)) (A : LA) (tx : Str) (tk : Tok) (pl : Addr)  (h0 : (tx).cps.all (· < 128) = true) : SegC Y ([cLawB q.P A, cCaller]) (DU0_a q A tx tk pl) (DU0_e q A tx tk pl) :=
  Y.segC (DU0_r q A tx tk pl ) (show List.Nodup [8, 7, 6, 1, 0] by decide) (fun i hN => .cons (ok_siter _ _ h0) (AllOk.nil))
noncomputable def DUa_a (q : Qd) (A : LA) (z : Nat) (tx : Str) (tk : Tok) (k : Nat) (pc : Option Nat) (sg : Nat) : SG := ⟨27, denF (cDf q.P z), cDf q.P z, fsU q.P z, siD z tx tk k ++ enD z .none k pc, [], hz 19 0x2222222211111180d0111, [1, 2, 0]⟩
noncomputable def DUa_s (q : Qd) (A : LA) (z : Nat) (tx : Str) (tk : Tok) (k : Nat) (pc : Option Nat) (sg : Nat) (i : In) : List Spec := [spSNext (z + 7) 0 tx tk (k : Nat) sg]
noncomputable def DUa_e (q : Qd) (A : LA) (z : Nat) (tx : Str) (tk : Tok) (k : Nat) (pc : Option Nat) (sg : Nat) (i : In) : SE := ⟨(rNx (V0 q.P 0) (cDf q.P z) (z + 8)).k (.ok (.ret (.ref (i.N + 0)))), some (cDf q.P z), fsU q.P z, siD z tx tk (k + 1) ++ (enD z (.raw (.int (((i.N + 0) : Nat) : Int) 0)) (k + 1) (some sg) ++ twoD (i.N + 0) k sg), []⟩
theorem DUa_r (q : Qd) (A : LA) (z : Nat) (tx : Str) (tk : Tok) (k : Nat) (pc : Option Nat) (sg : Nat)  : RunsC (K4 q) ([cLawB q.P A, cCaller]) (DUa_a q A z tx tk k pc sg) (DUa_s q A z tx tk k pc sg) (fun _ => []) (DUa_e q A z tx tk k pc sg) := by
  intro W i; obtain ⟨w, s₀, b1, b2⟩ := q; cases b1 <;> cases pc <;> (kernel_rfl)
theorem DUa {q : Qd} (Y : Sys (K4 q)) (A : LA) (z : Nat) (tx : Str) (tk : Tok) (k : Nat) (pc : Option Nat) (sg : Nat)  (h0 : tx.cps[k]? = some sg) : SegC Y ([cLawB q.P A, cCaller]) (DUa_a q A z tx tk k pc sg) (DUa_e q A z tx tk k pc sg) :=
  Y.segC (DUa_r q A z tx tk k pc sg ) (show List.Nodup [1, 2, 0] by decide) (fun i hN => .cons (ok1 rfl rfl rfl (sok_snext _ _ _ _ _ _ h0)) (AllOk.nil))
noncomputable def DUz0_a (q : Qd) (A : LA) (z : Nat) (tx : Str) (tk : Tok) (pl : Addr) (fs : Int) (x : Option (Int × Nat)) (k : Nat) (pc : Option Nat) (sn : Array Value) : SG := ⟨31, denF (cDf q.P z), cDf q.P z, fsU q.P z, duF z tx pl fs x ++ (duL z sn #[] ++ (siD z tx tk k ++ enD z .none k pc)), [], hz 13 0x2444442080d3444, [3, 4]⟩
noncomputable def DUz0_s (q : Qd) (A : LA) (z : Nat) (tx : Str) (tk : Tok) (pl : Addr) (fs : Int) (x : Option (Int × Nat)) (k : Nat) (pc : Option Nat) (sn : Array Value) (i : In) : List Spec := [spSEnd (z + 7) 3 tx tk (k : Nat)]
noncomputable def DUz0_e (q : Qd) (A : LA) (z : Nat) (tx : Str) (tk : Tok) (pl : Addr) (fs : Int) (x : Option (Int × Nat)) (k : Nat) (pc : Option Nat) (sn : Array Value) (i : In) : SE := ⟨.pure (.done (.ret (.ref (z + 1)))), none, [], duL z sn #[], []⟩
theorem DUz0_r (q : Qd) (A : LA) (z : Nat) (tx : Str) (tk : Tok) (pl : Addr) (fs : Int) (x : Option (Int × Nat)) (k : Nat) (pc : Option Nat) (sn : Array Value)  : RunsC (K4 q) ([cLawB q.P A, cCaller]) (DUz0_a q A z tx tk pl fs x k pc sn) (DUz0_s q A z tx tk pl fs x k pc sn) (fun _ => []) (DUz0_e q A z tx tk pl fs x k pc sn) := by
  intro W i; obtain ⟨w, s₀, b1, b2⟩ := q; cases b1 <;> cases x <;> cases pc <;> (kernel_rfl)
theorem DUz0 {q : Qd} (Y : Sys (K4 q)) (A : LA) (z : Nat) (tx : Str) (tk : Tok) (pl : Addr) (fs : Int) (x : Option (Int × Nat)) (k : Nat) (pc : Option Nat) (sn : Array Value)  (h0 : tx.cps[k]? = none) : SegC Y ([cLawB q.P A, cCaller]) (DUz0_a q A z tx tk pl fs x k pc sn) (DUz0_e q A z tx tk pl fs x k pc sn) :=
  Y.segC (DUz0_r q A z tx tk pl fs x k pc sn ) (show List.Nodup [3, 4] by decide) (fun i hN => .cons (ok_send _ _ _ _ _ h0) (AllOk.nil))
noncomputable def DUz1_a (q : Qd) (A : LA) (z : Nat) (tx : Str) (tk : Tok) (pl : Addr) (fs : Int) (x : Option (Int × Nat)) (k : Nat) (pc : Option Nat) (sn : Array Value) (os : Array Value) (m : Nat) : SG := ⟨33, denF (cDf q.P z), cDf q.P z, fsU q.P z, duF z tx pl fs x ++ (duL z sn os ++ (siD z tx tk k ++ enD z .none k pc)), [], hz 15 0x82d505281d442080d3444, [0, 2]⟩
noncomputable def DUz1_s (q : Qd) (A : LA) (z : Nat) (tx : Str) (tk : Tok) (pl : Addr) (fs : Int) (x : Option (Int × Nat)) (k : Nat) (pc : Option Nat) (sn : Array Value) (os : Array Value) (m : Nat) (i : In) : List Spec := [spSEnd (z + 7) 3 tx tk (k : Nat),
  spLenB (z + 2) 4 os (i.ν 2).n (m + 1),
  spLAdd (z + 1) (i.N + 3) 5 0 sn (i.ν 1).n (#[.ref (i.N + 2)] : Array Value) 0]
noncomputable def DUz1_e (q : Qd) (A : LA) (z : Nat) (tx : Str) (tk : Tok) (pl : Addr) (fs : Int) (x : Option (Int × Nat)) (k : Nat) (pc : Option Nat) (sn : Array Value) (os : Array Value) (m : Nat) (i : In) : SE := ⟨.pure (.done (.ret (.ref (i.N + 4)))), none, [], ([((i.N + 4), .arr c_list (sn ++ (#[.ref (i.N + 2)] : Array Value)))] : DM) ++ [((i.N + 2), .seq c_tuple [.str ⟨⟨[114, 101, 102, 117, 115, 101, 100]⟩⟩, .none])], []⟩
theorem DUz1_r (q : Qd) (A : LA) (z : Nat) (tx : Str) (tk : Tok) (pl : Addr) (fs : Int) (x : Option (Int × Nat)) (k : Nat) (pc : Option Nat) (sn : Array Value) (os : Array Value) (m : Nat)  : RunsC (K4 q) ([cLawB q.P A, cCaller]) (DUz1_a q A z tx tk pl fs x k pc sn os m) (DUz1_s q A z tx tk pl fs x k pc sn os m) (fun _ => []) (DUz1_e q A z tx tk pl fs x k pc sn os m) := by
  intro W i; obtain ⟨w, s₀, b1, b2⟩ := q; cases b1 <;> cases x <;> cases pc <;> (kernel_rfl)
theorem DUz1 {q : Qd} (Y : Sys (K4 q)) (A : LA) (z : Nat) (tx : Str) (tk : Tok) (pl : Addr) (fs : Int) (x : Option (Int × Nat)) (k : Nat) (pc : Option Nat) (sn : Array Value) (os : Array Value) (m : Nat)  (h0 : tx.cps[k]? = none) (h1 : os.size = (m + 1)) (h2 : (((m + 1) : Nat) : Int) < 2 ^ 63) (h3 : sn.size + 1 ≤ sizeLine) : SegC Y ([cLawB q.P A, cCaller]) (DUz1_a q A z tx tk pl fs x k pc sn os m) (DUz1_e q A z tx tk pl fs x k pc sn os m) :=
  Y.segC (DUz1_r q A z tx tk pl fs x k pc sn os m ) (show List.Nodup [0, 2] by decide) (fun i hN => .cons (ok_send _ _ _ _ _ h0) (.cons (ok_lenB _ _ _ _ _ h1 h2) (.cons (ok_ladd _ _ _ _ _ _ _ _ h3) (AllOk.nil))))
noncomputable def DUo1_a (q : Qd) (A : LA) (z : Nat) (tx : Str) (pl : Addr) (fs : Int) (x : Option (Int × Nat)) (k : Nat) (sn ps : Array Value) (u : Nat) (j : Op) : SG := ⟨231, tUx (V0 q.P 0) (cDf q.P z) (z + 8) u, cDf q.P z, fsU q.P z, duF z tx pl fs x ++ (duL z sn #[] ++ (enD z .none (k + 1) (some j.o) ++ ([(pl, .arr c_list ps)] ++ twoD u k j.o))), [], hz 89 0x83dedd82d0008000000000000effff8888666681d808580d00000000000000effff33333000600000060000006000005555, [8, 9, 10, 11, 12]⟩
noncomputable def DUo1_s (q : Qd) (A : LA) (z : Nat) (tx : Str) (pl : Addr) (fs : Int) (x : Option (Int × Nat)) (k : Nat) (sn ps : Array Value) (u : Nat) (j : Op) (i : In) : List Spec := [spIn (i.N + 4) 0 q.P ⟨(i.T + 2), (i.T + 3), (i.T + 4), (i.T + 5), (i.T + 6), (i.T + 7), 3⟩ (j.o) (i.τ 5 1) true,
  spEqE (z + 2) (i.N + 5) 8 0 (#[] : Array Value) (i.ν 2).n 0 true,
  spGet (i.N + 7) 0 q.P ⟨(i.T + 13), (i.T + 14), (i.T + 15), (i.T + 16), (i.T + 17), (i.T + 18), 3⟩ j (i.τ 5 1),
  spPush (z + 2) 10 (#[] : Array Value) (i.ν 2).n ((.str ⟨⟨[j.d]⟩⟩ (j.pk (i.T + 14) (i.T + 16) (i.T + 18))))]
noncomputable def DUo1_e (q : Qd) (A : LA) (z : Nat) (tx : Str) (pl : Addr) (fs : Int) (x : Option (Int × Nat)) (k : Nat) (sn ps : Array Value) (u : Nat) (j : Op) (i : In) : SE := ⟨denF (cDf q.P z), some (cDf q.P z), fsU q.P z, duF z tx pl ((k : Nat) : Int) (some (((k : Nat) : Int), j.o)) ++ (duL z sn ((#[] : Array Value).push ((.str ⟨⟨[j.d]⟩⟩ (j.pk (i.T + 14) (i.T + 16) (i.T + 18))))) ++ (enD z .none (k + 1) (some j.o) ++ ([(pl, .arr c_list ps)]))), []⟩
theorem DUo1_r (q : Qd) (A : LA) (z : Nat) (tx : Str) (pl : Addr) (fs : Int) (x : Option (Int × Nat)) (k : Nat) (sn ps : Array Value) (u : Nat) (j : Op)  : RunsC (K4 q) ([cLawB q.P A, cCaller]) (DUo1_a q A z tx pl fs x k sn ps u j) (DUo1_s q A z tx pl fs x k sn ps u j) (fun _ => []) (DUo1_e q A z tx pl fs x k sn ps u j) := by
  intro W i; obtain ⟨w, s₀, b1, b2⟩ := q; cases b1 <;> cases x <;> (kernel_rfl)
theorem DUo1 {q : Qd} (Y : Sys (K4 q)) (A : LA) (z : Nat) (tx : Str) (pl : Addr) (fs : Int) (x : Option (Int × Nat)) (k : Nat) (sn ps : Array Value) (u : Nat) (j : Op)   : SegC Y ([cLawB q.P A, cCaller]) (DUo1_a q A z tx pl fs x k sn ps u j) (DUo1_e q A z tx pl fs x k sn ps u j) :=
  Y.segC (DUo1_r q A z tx pl fs x k sn ps u j ) (show List.Nodup [8, 9, 10, 11, 12] by decide) (fun i hN => .cons (ok_in _ _ _ _ _ _ (by cases j <;> simp [Op.o]) (sys_ne hN)) (.cons (ok_eqE _ _ _ _ _ _ _ _ rfl) (.cons (ok_get _ _ _ _ _) (.cons (ok1 rfl rfl rfl (sok_push _ _ _ _ _ (Nat.zero_le _))) (AllOk.nil)))))
noncomputable def DUo0_a (q : Qd) (A : LA) (z : Nat) (tx : Str) (pl : Addr) (fs : Int) (x : Option (Int × Nat)) (k : Nat) (sn os ps : Array Value) (u : Nat) (j : Op) : SG := ⟨231, tUx (V0 q.P 0) (cDf q.P z) (z + 8) u, cDf q.P z, fsU q.P z, duF z tx pl fs x ++ (duL z sn os ++ (enD z .none (k + 1) (some j.o) ++ ([(pl, .arr c_list ps)] ++ twoD u k j.o))), [], hz 89 0x83dedd82d0008000000000000effff8888666681d808580d00000000000000effff33333000600000060000006000005555, [8, 9, 10, 11, 12]⟩
noncomputable def DUo0_s (q : Qd) (A : LA) (z : Nat) (tx : Str) (pl : Addr) (fs : Int) (x : Option (Int × Nat)) (k : Nat) (sn os ps : Array Value) (u : Nat) (j : Op) (i : In) : List Spec := [spIn (i.N + 4) 0 q.P ⟨(i.T + 2), (i.T + 3), (i.T + 4), (i.T + 5), (i.T + 6), (i.T + 7), 3⟩ (j.o) (i.τ 5 1) true,
  spEqE (z + 2) (i.N + 5) 8 0 os (i.ν 2).n 0 false,
  spGet (i.N + 7) 0 q.P ⟨(i.T + 13), (i.T + 14), (i.T + 15), (i.T + 16), (i.T + 17), (i.T + 18), 3⟩ j (i.τ 5 1),
  spPush (z + 2) 10 os (i.ν 2).n ((.str ⟨⟨[j.d]⟩⟩ (j.pk (i.T + 14) (i.T + 16) (i.T + 18))))]
noncomputable def DUo0_e (q : Qd) (A : LA) (z : Nat) (tx : Str) (pl : Addr) (fs : Int) (x : Option (Int × Nat)) (k : Nat) (sn os ps : Array Value) (u : Nat) (j : Op) (i : In) : SE := ⟨denF (cDf q.P z), some (cDf q.P z), fsU q.P z, duF z tx pl fs (some (((k : Nat) : Int), j.o)) ++ (duL z sn (os.push ((.str ⟨⟨[j.d]⟩⟩ (j.pk (i.T + 14) (i.T + 16) (i.T + 18))))) ++ (enD z .none (k + 1) (some j.o) ++ ([(pl, .arr c_list ps)]))), []⟩
theorem DUo0_r (q : Qd) (A : LA) (z : Nat) (tx : Str) (pl : Addr) (fs : Int) (x : Option (Int × Nat)) (k : Nat) (sn os ps : Array Value) (u : Nat) (j : Op)  : RunsC (K4 q) ([cLawB q.P A, cCaller]) (DUo0_a q A z tx pl fs x k sn os ps u j) (DUo0_s q A z tx pl fs x k sn os ps u j) (fun _ => []) (DUo0_e q A z tx pl fs x k sn os ps u j) := by
  intro W i; obtain ⟨w, s₀, b1, b2⟩ := q; cases b1 <;> cases x <;> (kernel_rfl)
theorem DUo0 {q : Qd} (Y : Sys (K4 q)) (A : LA) (z : Nat) (tx : Str) (pl : Addr) (fs : Int) (x : Option (Int × Nat)) (k : Nat) (sn os ps : Array Value) (u : Nat) (j : Op)  (h0 : (os.size == 0) = false) (h1 : os.size ≤ sizeLine) : SegC Y ([cLawB q.P A, cCaller]) (DUo0_a q A z tx pl fs x k sn os ps u j) (DUo0_e q A z tx pl fs x k sn os ps u j) :=
  Y.segC (DUo0_r q A z tx pl fs x k sn os ps u j ) (show List.Nodup [8, 9, 10, 11, 12] by decide) (fun i hN => .cons (ok_in _ _ _ _ _ _ (by cases j <;> simp [Op.o]) (sys_ne hN)) (.cons (ok_eqE _ _ _ _ _ _ _ _ h0) (.cons (ok_get _ _ _ _ _) (.cons (ok1 rfl rfl rfl (sok_push _ _ _ _ _ h1)) (AllOk.nil)))))
noncomputable def DUl_a (q : Qd) (A : LA) (z : Nat) (tx : Str) (pl : Addr) (fs : Int) (x : Option (Int × Nat)) (k : Nat) (sn ps : Array Value) (u : Nat) (sg : Nat) (pi : Addr) : SG := ⟨172, tUx (V0 q.P 0) (cDf q.P z) (z + 8) u, cDf q.P z, fsU q.P z, duF z tx pl fs x ++ (duL z sn #[] ++ (enD z .none (k + 1) (some sg) ++ ([(pl, .arr c_list ps)] ++ twoD u k sg))), [], hz 71 0x84d83daaa667777682d808581d580d00000000000000effff33333000600000060000006000005555, [7, 8, 9, 10, 11, 0]⟩
noncomputable def DUl_s (q : Qd) (A : LA) (z : Nat) (tx : Str) (pl : Addr) (fs : Int) (x : Option (Int × Nat)) (k : Nat) (sn ps : Array Value) (u : Nat) (sg : Nat) (pi : Addr) (i : In) : List Spec := [spIn (i.N + 4) 0 q.P ⟨(i.T + 2), (i.T + 3), (i.T + 4), (i.T + 5), (i.T + 6), (i.T + 7), 3⟩ (sg) (i.τ 5 1) false,
  spV (callB "str.__eq__" [.str (⟨⟨[sg]⟩⟩) (i.τ 5 1), .str (⟨⟨[97]⟩⟩) (i.T + 12)]) (.bool true) 0,
  spEqE (z + 2) (i.N + 5) 8 0 (#[] : Array Value) (i.ν 2).n 0 true,
  spItem pl 10 ps (i.ν 4).n (((k : Nat) : Int)) (i.τ 5 0) (.ref pi),
  spPush (z + 1) 8 sn (i.ν 1).n (.ref (i.N + 6))]
noncomputable def DUl_e (q : Qd) (A : LA) (z : Nat) (tx : Str) (pl : Addr) (fs : Int) (x : Option (Int × Nat)) (k : Nat) (sn ps : Array Value) (u : Nat) (sg : Nat) (pi : Addr) (i : In) : SE := ⟨denF (cDf q.P z), some (cDf q.P z), fsU q.P z, duF z tx pl fs (some (((k : Nat) : Int), sg)) ++ (duL z (sn.push (.ref (i.N + 6))) (#[] : Array Value) ++ (enD z .none (k + 1) (some sg) ++ ([(pl, .arr c_list ps)] ++ [((i.N + 6), .seq c_tuple [.str ⟨⟨[108, 101, 116, 116, 101, 114]⟩⟩, .str ⟨⟨[97]⟩⟩, .ref pi])]))), []⟩
theorem DUl_r (q : Qd) (A : LA) (z : Nat) (tx : Str) (pl : Addr) (fs : Int) (x : Option (Int × Nat)) (k : Nat) (sn ps : Array Value) (u : Nat) (sg : Nat) (pi : Addr)  : RunsC (K4 q) ([cLawB q.P A, cCaller]) (DUl_a q A z tx pl fs x k sn ps u sg pi) (DUl_s q A z tx pl fs x k sn ps u sg pi) (fun _ => []) (DUl_e q A z tx pl fs x k sn ps u sg pi) := by
  intro W i; obtain ⟨w, s₀, b1, b2⟩ := q; cases b1 <;> cases x <;> (kernel_rfl)
theorem DUl {q : Qd} (Y : Sys (K4 q)) (A : LA) (z : Nat) (tx : Str) (pl : Addr) (fs : Int) (x : Option (Int × Nat)) (k : Nat) (sn ps : Array Value) (u : Nat) (sg : Nat) (pi : Addr)  (h0 : (sg = 40 ∨ sg = 91 ∨ sg = 123) ↔ false = true) (h1 : ((⟨⟨[sg]⟩⟩ : Str).cps.toList == (⟨⟨[97]⟩⟩ : Str).cps.toList) = true) (h2 : ItemAt ps (((k : Nat) : Int)) (.ref pi)) (h3 : sn.size ≤ sizeLine) : SegC Y ([cLawB q.P A, cCaller]) (DUl_a q A z tx pl fs x k sn ps u sg pi) (DUl_e q A z tx pl fs x k sn ps u sg pi) :=
  Y.segC (DUl_r q A z tx pl fs x k sn ps u sg pi ) (show List.Nodup [7, 8, 9, 10, 11, 0] by decide) (fun i hN => .cons (ok_in _ _ _ _ _ _ h0 (sys_ne hN)) (.cons (okv (h1 ▸ sok_seq _ _ _ _)) (.cons (ok_eqE _ _ _ _ _ _ _ _ rfl) (.cons (ok_item _ _ _ _ _ _ _ h2) (.cons (ok1 rfl rfl rfl (sok_push _ _ _ _ _ h3)) (AllOk.nil))))))
noncomputable def DUna_a (q : Qd) (A : LA) (z : Nat) (tx : Str) (pl : Addr) (fs : Int) (x : Option (Int × Nat)) (k : Nat) (sn os ps : Array Value) (u : Nat) (sg : Nat) : SG := ⟨153, tUx (V0 q.P 0) (cDf q.P z) (z + 8) u, cDf q.P z, fsU q.P z, duF z tx pl fs x ++ (duL z sn os ++ (enD z .none (k + 1) (some sg) ++ ([(pl, .arr c_list ps)] ++ twoD u k sg))), [], hz 61 0x83d682d808581d580d00000000000000effff33333000600000060000006000005555, [6, 7, 8, 9, 10]⟩
noncomputable def DUna_s (q : Qd) (A : LA) (z : Nat) (tx : Str) (pl : Addr) (fs : Int) (x : Option (Int × Nat)) (k : Nat) (sn os ps : Array Value) (u : Nat) (sg : Nat) (i : In) : List Spec := [spIn (i.N + 4) 0 q.P ⟨(i.T + 2), (i.T + 3), (i.T + 4), (i.T + 5), (i.T + 6), (i.T + 7), 3⟩ (sg) (i.τ 5 1) false,
  spV (callB "str.__eq__" [.str (⟨⟨[sg]⟩⟩) (i.τ 5 1), .str (⟨⟨[97]⟩⟩) (i.T + 12)]) (.bool true) 0,
  spEqE (z + 2) (i.N + 5) 8 0 os (i.ν 2).n 0 false,
  spV (callB "str.__contains__" [.str (⟨⟨[41, 93, 125]⟩⟩) (i.T + 13), .str (⟨⟨[sg]⟩⟩) (i.τ 5 1)]) (.bool false) 0]
noncomputable def DUna_e (q : Qd) (A : LA) (z : Nat) (tx : Str) (pl : Addr) (fs : Int) (x : Option (Int × Nat)) (k : Nat) (sn os ps : Array Value) (u : Nat) (sg : Nat) (i : In) : SE := ⟨denF (cDf q.P z), some (cDf q.P z), fsU q.P z, duF z tx pl fs (some (((k : Nat) : Int), sg)) ++ (duL z sn os ++ (enD z .none (k + 1) (some sg) ++ ([(pl, .arr c_list ps)]))), []⟩
theorem DUna_r (q : Qd) (A : LA) (z : Nat) (tx : Str) (pl : Addr) (fs : Int) (x : Option (Int × Nat)) (k : Nat) (sn os ps : Array Value) (u : Nat) (sg : Nat)  : RunsC (K4 q) ([cLawB q.P A, cCaller]) (DUna_a q A z tx pl fs x k sn os ps u sg) (DUna_s q A z tx pl fs x k sn os ps u sg) (fun _ => []) (DUna_e q A z tx pl fs x k sn os ps u sg) := by
  intro W i; obtain ⟨w, s₀, b1, b2⟩ := q; cases b1 <;> cases x <;> (kernel_rfl)
theorem DUna {q : Qd} (Y : Sys (K4 q)) (A : LA) (z : Nat) (tx : Str) (pl : Addr) (fs : Int) (x : Option (Int × Nat)) (k : Nat) (sn os ps : Array Value) (u : Nat) (sg : Nat)  (h0 : (sg = 40 ∨ sg = 91 ∨ sg = 123) ↔ false = true) (h1 : ((⟨⟨[sg]⟩⟩ : Str).cps.toList == (⟨⟨[97]⟩⟩ : Str).cps.toList) = true) (h2 : (os.size == 0) = false) (h3 : (!(Builtin.Str.occurrences (⟨⟨[41, 93, 125]⟩⟩ : Str) (⟨⟨[sg]⟩⟩ : Str) 0 (⟨⟨[41, 93, 125]⟩⟩ : Str).length 1).isEmpty) = false) : SegC Y ([cLawB q.P A, cCaller]) (DUna_a q A z tx pl fs x k sn os ps u sg) (DUna_e q A z tx pl fs x k sn os ps u sg) :=
  Y.segC (DUna_r q A z tx pl fs x k sn os ps u sg ) (show List.Nodup [6, 7, 8, 9, 10] by decide) (fun i hN => .cons (ok_in _ _ _ _ _ _ h0 (sys_ne hN)) (.cons (okv (h1 ▸ sok_seq _ _ _ _)) (.cons (ok_eqE _ _ _ _ _ _ _ _ h2) (.cons (okv (h3 ▸ sok_scontains _ _ _ _)) (AllOk.nil)))))
noncomputable def DUns_a (q : Qd) (A : LA) (z : Nat) (tx : Str) (pl : Addr) (fs : Int) (x : Option (Int × Nat)) (k : Nat) (sn os ps : Array Value) (u : Nat) (sg : Nat) : SG := ⟨141, tUx (V0 q.P 0) (cDf q.P z) (z + 8) u, cDf q.P z, fsU q.P z, duF z tx pl fs x ++ (duL z sn os ++ (enD z .none (k + 1) (some sg) ++ ([(pl, .arr c_list ps)] ++ twoD u k sg))), [], hz 56 0x82d581d580d00000000000000effff33333000600000060000006000005555, [5, 6, 7, 8, 9]⟩
noncomputable def DUns_s (q : Qd) (A : LA) (z : Nat) (tx : Str) (pl : Addr) (fs : Int) (x : Option (Int × Nat)) (k : Nat) (sn os ps : Array Value) (u : Nat) (sg : Nat) (i : In) : List Spec := [spIn (i.N + 4) 0 q.P ⟨(i.T + 2), (i.T + 3), (i.T + 4), (i.T + 5), (i.T + 6), (i.T + 7), 3⟩ (sg) (i.τ 5 1) false,
  spV (callB "str.__eq__" [.str (⟨⟨[sg]⟩⟩) (i.τ 5 1), .str (⟨⟨[97]⟩⟩) (i.T + 12)]) (.bool false) 0,
  spV (callB "str.__contains__" [.str (⟨⟨[41, 93, 125]⟩⟩) (i.T + 13), .str (⟨⟨[sg]⟩⟩) (i.τ 5 1)]) (.bool false) 0]
noncomputable def DUns_e (q : Qd) (A : LA) (z : Nat) (tx : Str) (pl : Addr) (fs : Int) (x : Option (Int × Nat)) (k : Nat) (sn os ps : Array Value) (u : Nat) (sg : Nat) (i : In) : SE := ⟨denF (cDf q.P z), some (cDf q.P z), fsU q.P z, duF z tx pl fs (some (((k : Nat) : Int), sg)) ++ (duL z sn os ++ (enD z .none (k + 1) (some sg) ++ ([(pl, .arr c_list ps)]))), []⟩
theorem DUns_r (q : Qd) (A : LA) (z : Nat) (tx : Str) (pl : Addr) (fs : Int) (x : Option (Int × Nat)) (k : Nat) (sn os ps : Array Value) (u : Nat) (sg : Nat)  : RunsC (K4 q) ([cLawB q.P A, cCaller]) (DUns_a q A z tx pl fs x k sn os ps u sg) (DUns_s q A z tx pl fs x k sn os ps u sg) (fun _ => []) (DUns_e q A z tx pl fs x k sn os ps u sg) := by
  intro W i; obtain ⟨w, s₀, b1, b2⟩ := q; cases b1 <;> cases x <;> (kernel_rfl)
theorem DUns {q : Qd} (Y : Sys (K4 q)) (A : LA) (z : Nat) (tx : Str) (pl : Addr) (fs : Int) (x : Option (Int × Nat)) (k : Nat) (sn os ps : Array Value) (u : Nat) (sg : Nat)  (h0 : (sg = 40 ∨ sg = 91 ∨ sg = 123) ↔ false = true) (h1 : ((⟨⟨[sg]⟩⟩ : Str).cps.toList == (⟨⟨[97]⟩⟩ : Str).cps.toList) = false) (h2 : (!(Builtin.Str.occurrences (⟨⟨[41, 93, 125]⟩⟩ : Str) (⟨⟨[sg]⟩⟩ : Str) 0 (⟨⟨[41, 93, 125]⟩⟩ : Str).length 1).isEmpty) = false) : SegC Y ([cLawB q.P A, cCaller]) (DUns_a q A z tx pl fs x k sn os ps u sg) (DUns_e q A z tx pl fs x k sn os ps u sg) :=
  Y.segC (DUns_r q A z tx pl fs x k sn os ps u sg ) (show List.Nodup [5, 6, 7, 8, 9] by decide) (fun i hN => .cons (ok_in _ _ _ _ _ _ h0 (sys_ne hN)) (.cons (okv (h1 ▸ sok_seq _ _ _ _)) (.cons (okv (h2 ▸ sok_scontains _ _ _ _)) (AllOk.nil))))
noncomputable def DUc0_a (q : Qd) (A : LA) (z : Nat) (tx : Str) (pl : Addr) (fs : Int) (x : Option (Int × Nat)) (k : Nat) (sn ps : Array Value) (u : Nat) (sg : Nat) (pi : Addr) : SG := ⟨178, tUx (V0 q.P 0) (cDf q.P z) (z + 8) u, cDf q.P z, fsU q.P z, duF z tx pl fs x ++ (duL z sn #[] ++ (enD z .none (k + 1) (some sg) ++ ([(pl, .arr c_list ps)] ++ twoD u k sg))), [], hz 72 0x85d90984daaa66683d808582d581d580d00000000000000effff33333000600000060000006000005555, [0, 2, 13]⟩
noncomputable def DUc0_s (q : Qd) (A : LA) (z : Nat) (tx : Str) (pl : Addr) (fs : Int) (x : Option (Int × Nat)) (k : Nat) (sn ps : Array Value) (u : Nat) (sg : Nat) (pi : Addr) (i : In) : List Spec := [spIn (i.N + 4) 0 q.P ⟨(i.T + 2), (i.T + 3), (i.T + 4), (i.T + 5), (i.T + 6), (i.T + 7), 3⟩ (sg) (i.τ 5 1) false,
  spV (callB "str.__eq__" [.str (⟨⟨[sg]⟩⟩) (i.τ 5 1), .str (⟨⟨[97]⟩⟩) (i.T + 12)]) (.bool false) 0,
  spV (callB "str.__contains__" [.str (⟨⟨[41, 93, 125]⟩⟩) (i.T + 13), .str (⟨⟨[sg]⟩⟩) (i.τ 5 1)]) (.bool true) 0,
  spEqE (z + 2) (i.N + 5) 8 0 (#[] : Array Value) (i.ν 2).n 0 true,
  spItem pl 10 ps (i.ν 4).n (((k : Nat) : Int)) (i.τ 5 0) (.ref pi),
  spLAdd (z + 1) (i.N + 7) 9 0 sn (i.ν 1).n (#[.ref (i.N + 6)] : Array Value) 0]
noncomputable def DUc0_e (q : Qd) (A : LA) (z : Nat) (tx : Str) (pl : Addr) (fs : Int) (x : Option (Int × Nat)) (k : Nat) (sn ps : Array Value) (u : Nat) (sg : Nat) (pi : Addr) (i : In) : SE := ⟨.pure (.done (.ret (.ref (i.N + 8)))), none, [], ([((i.N + 8), .arr c_list (sn ++ (#[.ref (i.N + 6)] : Array Value)))] : DM) ++ ([((i.N + 6), .seq c_tuple [.str ⟨⟨[114, 101, 102, 117, 115, 101, 100]⟩⟩, .ref pi])] ++ [(pl, .arr c_list ps)]), []⟩
theorem DUc0_r (q : Qd) (A : LA) (z : Nat) (tx : Str) (pl : Addr) (fs : Int) (x : Option (Int × Nat)) (k : Nat) (sn ps : Array Value) (u : Nat) (sg : Nat) (pi : Addr)  : RunsC (K4 q) ([cLawB q.P A, cCaller]) (DUc0_a q A z tx pl fs x k sn ps u sg pi) (DUc0_s q A z tx pl fs x k sn ps u sg pi) (fun _ => []) (DUc0_e q A z tx pl fs x k sn ps u sg pi) := by
  intro W i; obtain ⟨w, s₀, b1, b2⟩ := q; cases b1 <;> cases x <;> (kernel_rfl)
theorem DUc0 {q : Qd} (Y : Sys (K4 q)) (A : LA) (z : Nat) (tx : Str) (pl : Addr) (fs : Int) (x : Option (Int × Nat)) (k : Nat) (sn ps : Array Value) (u : Nat) (sg : Nat) (pi : Addr)  (h0 : (sg = 40 ∨ sg = 91 ∨ sg = 123) ↔ false = true) (h1 : ((⟨⟨[sg]⟩⟩ : Str).cps.toList == (⟨⟨[97]⟩⟩ : Str).cps.toList) = false) (h2 : (!(Builtin.Str.occurrences (⟨⟨[41, 93, 125]⟩⟩ : Str) (⟨⟨[sg]⟩⟩ : Str) 0 (⟨⟨[41, 93, 125]⟩⟩ : Str).length 1).isEmpty) = true) (h3 : ItemAt ps (((k : Nat) : Int)) (.ref pi)) (h4 : sn.size + 1 ≤ sizeLine) : SegC Y ([cLawB q.P A, cCaller]) (DUc0_a q A z tx pl fs x k sn ps u sg pi) (DUc0_e q A z tx pl fs x k sn ps u sg pi) :=
  Y.segC (DUc0_r q A z tx pl fs x k sn ps u sg pi ) (show List.Nodup [0, 2, 13] by decide) (fun i hN => .cons (ok_in _ _ _ _ _ _ h0 (sys_ne hN)) (.cons (okv (h1 ▸ sok_seq _ _ _ _)) (.cons (okv (h2 ▸ sok_scontains _ _ _ _)) (.cons (ok_eqE _ _ _ _ _ _ _ _ rfl) (.cons (ok_item _ _ _ _ _ _ _ h3) (.cons (ok_ladd _ _ _ _ _ _ _ _ h4) (AllOk.nil)))))))
noncomputable def DUc1_a (q : Qd) (A : LA) (z : Nat) (tx : Str) (pl : Addr) (fs : Int) (x : Option (Int × Nat)) (k : Nat) (sn os ps : Array Value) (u : Nat) (sg : Nat) (dd : Nat) (td : Tok) (pi : Addr) : SG := ⟨194, tUx (V0 q.P 0) (cDf q.P z) (z + 8) u, cDf q.P z, fsU q.P z, duF z tx pl fs x ++ (duL z sn (os.push (.str ⟨⟨[dd]⟩⟩ td)) ++ (enD z .none (k + 1) (some sg) ++ ([(pl, .arr c_list ps)] ++ twoD u k sg))), [], hz 80 0x87d90986daaa66685d684d8888683d808582d581d580d00000000000000effff33333000600000060000006000005555, [0, 2, 13]⟩
noncomputable def DUc1_s (q : Qd) (A : LA) (z : Nat) (tx : Str) (pl : Addr) (fs : Int) (x : Option (Int × Nat)) (k : Nat) (sn os ps : Array Value) (u : Nat) (sg : Nat) (dd : Nat) (td : Tok) (pi : Addr) (i : In) : List Spec := [spIn (i.N + 4) 0 q.P ⟨(i.T + 2), (i.T + 3), (i.T + 4), (i.T + 5), (i.T + 6), (i.T + 7), 3⟩ (sg) (i.τ 5 1) false,
  spV (callB "str.__eq__" [.str (⟨⟨[sg]⟩⟩) (i.τ 5 1), .str (⟨⟨[97]⟩⟩) (i.T + 12)]) (.bool false) 0,
  spV (callB "str.__contains__" [.str (⟨⟨[41, 93, 125]⟩⟩) (i.T + 13), .str (⟨⟨[sg]⟩⟩) (i.τ 5 1)]) (.bool true) 0,
  spEqE (z + 2) (i.N + 5) 8 0 (os.push (.str ⟨⟨[dd]⟩⟩ td)) (i.ν 2).n 0 false,
  spPop0 (z + 2) 8 os (i.ν 2).n (.str ⟨⟨[dd]⟩⟩ td),
  spV (callB "str.__ne__" [(.str ⟨⟨[dd]⟩⟩ td), .str (⟨⟨[sg]⟩⟩) (i.τ 5 1)]) (.bool true) 0,
  spItem pl 10 ps (i.ν 4).n (((k : Nat) : Int)) (i.τ 5 0) (.ref pi),
  spLAdd (z + 1) (i.N + 7) 9 0 sn (i.ν 1).n (#[.ref (i.N + 6)] : Array Value) 0]
noncomputable def DUc1_e (q : Qd) (A : LA) (z : Nat) (tx : Str) (pl : Addr) (fs : Int) (x : Option (Int × Nat)) (k : Nat) (sn os ps : Array Value) (u : Nat) (sg : Nat) (dd : Nat) (td : Tok) (pi : Addr) (i : In) : SE := ⟨.pure (.done (.ret (.ref (i.N + 8)))), none, [], ([((i.N + 8), .arr c_list (sn ++ (#[.ref (i.N + 6)] : Array Value)))] : DM) ++ ([((i.N + 6), .seq c_tuple [.str ⟨⟨[114, 101, 102, 117, 115, 101, 100]⟩⟩, .ref pi])] ++ [(pl, .arr c_list ps)]), []⟩
theorem DUc1_r (q : Qd) (A : LA) (z : Nat) (tx : Str) (pl : Addr) (fs : Int) (x : Option (Int × Nat)) (k : Nat) (sn os ps : Array Value) (u : Nat) (sg : Nat) (dd : Nat) (td : Tok) (pi : Addr)  : RunsC (K4 q) ([cLawB q.P A, cCaller]) (DUc1_a q A z tx pl fs x k sn os ps u sg dd td pi) (DUc1_s q A z tx pl fs x k sn os ps u sg dd td pi) (fun _ => []) (DUc1_e q A z tx pl fs x k sn os ps u sg dd td pi) := by
  intro W i; obtain ⟨w, s₀, b1, b2⟩ := q; cases b1 <;> cases x <;> (kernel_rfl)
theorem DUc1 {q : Qd} (Y : Sys (K4 q)) (A : LA) (z : Nat) (tx : Str) (pl : Addr) (fs : Int) (x : Option (Int × Nat)) (k : Nat) (sn os ps : Array Value) (u : Nat) (sg : Nat) (dd : Nat) (td : Tok) (pi : Addr)  (h0 : (sg = 40 ∨ sg = 91 ∨ sg = 123) ↔ false = true) (h1 : ((⟨⟨[sg]⟩⟩ : Str).cps.toList == (⟨⟨[97]⟩⟩ : Str).cps.toList) = false) (h2 : (!(Builtin.Str.occurrences (⟨⟨[41, 93, 125]⟩⟩ : Str) (⟨⟨[sg]⟩⟩ : Str) 0 (⟨⟨[41, 93, 125]⟩⟩ : Str).length 1).isEmpty) = true) (h3 : os.size < sizeLine) (h4 : ((⟨⟨[dd]⟩⟩ : Str).cps.toList != (⟨⟨[sg]⟩⟩ : Str).cps.toList) = true) (h5 : ItemAt ps (((k : Nat) : Int)) (.ref pi)) (h6 : sn.size + 1 ≤ sizeLine) : SegC Y ([cLawB q.P A, cCaller]) (DUc1_a q A z tx pl fs x k sn os ps u sg dd td pi) (DUc1_e q A z tx pl fs x k sn os ps u sg dd td pi) :=
  Y.segC (DUc1_r q A z tx pl fs x k sn os ps u sg dd td pi ) (show List.Nodup [0, 2, 13] by decide) (fun i hN => .cons (ok_in _ _ _ _ _ _ h0 (sys_ne hN)) (.cons (okv (h1 ▸ sok_seq _ _ _ _)) (.cons (okv (h2 ▸ sok_scontains _ _ _ _)) (.cons (ok_eqE _ _ _ _ _ _ _ _ (by simp)) (.cons (ok_pop0 _ _ _ _ _ h3) (.cons (okv (h4 ▸ sok_sne _ _ _ _)) (.cons (ok_item _ _ _ _ _ _ _ h5) (.cons (ok_ladd _ _ _ _ _ _ _ _ h6) (AllOk.nil)))))))))
noncomputable def DUc2_a (q : Qd) (A : LA) (z : Nat) (tx : Str) (pl : Addr) (fs : Int) (x : Option (Int × Nat)) (k : Nat) (sn os ps : Array Value) (u : Nat) (sg : Nat) (dd : Nat) (td : Tok) : SG := ⟨183, tUx (V0 q.P 0) (cDf q.P z) (z + 8) u, cDf q.P z, fsU q.P z, duF z tx pl fs x ++ (duL z sn (os.push (.str ⟨⟨[dd]⟩⟩ td)) ++ (enD z .none (k + 1) (some sg) ++ ([(pl, .arr c_list ps)] ++ twoD u k sg))), [], hz 74 0x86d909685d684d8888683d808582d581d580d00000000000000effff33333000600000060000006000005555, [7, 8, 9, 10, 11]⟩
noncomputable def DUc2_s (q : Qd) (A : LA) (z : Nat) (tx : Str) (pl : Addr) (fs : Int) (x : Option (Int × Nat)) (k : Nat) (sn os ps : Array Value) (u : Nat) (sg : Nat) (dd : Nat) (td : Tok) (i : In) : List Spec := [spIn (i.N + 4) 0 q.P ⟨(i.T + 2), (i.T + 3), (i.T + 4), (i.T + 5), (i.T + 6), (i.T + 7), 3⟩ (sg) (i.τ 5 1) false,
  spV (callB "str.__eq__" [.str (⟨⟨[sg]⟩⟩) (i.τ 5 1), .str (⟨⟨[97]⟩⟩) (i.T + 12)]) (.bool false) 0,
  spV (callB "str.__contains__" [.str (⟨⟨[41, 93, 125]⟩⟩) (i.T + 13), .str (⟨⟨[sg]⟩⟩) (i.τ 5 1)]) (.bool true) 0,
  spEqE (z + 2) (i.N + 5) 8 0 (os.push (.str ⟨⟨[dd]⟩⟩ td)) (i.ν 2).n 0 false,
  spPop0 (z + 2) 8 os (i.ν 2).n (.str ⟨⟨[dd]⟩⟩ td),
  spV (callB "str.__ne__" [(.str ⟨⟨[dd]⟩⟩ td), .str (⟨⟨[sg]⟩⟩) (i.τ 5 1)]) (.bool false) 0,
  spEqE (z + 2) (i.N + 6) 9 0 os ((i.ν 2).n + 1) 0 false]
noncomputable def DUc2_e (q : Qd) (A : LA) (z : Nat) (tx : Str) (pl : Addr) (fs : Int) (x : Option (Int × Nat)) (k : Nat) (sn os ps : Array Value) (u : Nat) (sg : Nat) (dd : Nat) (td : Tok) (i : In) : SE := ⟨denF (cDf q.P z), some (cDf q.P z), fsU q.P z, duF z tx pl fs (some (((k : Nat) : Int), sg)) ++ (duL z sn os ++ (enD z .none (k + 1) (some sg) ++ ([(pl, .arr c_list ps)]))), []⟩
theorem DUc2_r (q : Qd) (A : LA) (z : Nat) (tx : Str) (pl : Addr) (fs : Int) (x : Option (Int × Nat)) (k : Nat) (sn os ps : Array Value) (u : Nat) (sg : Nat) (dd : Nat) (td : Tok)  : RunsC (K4 q) ([cLawB q.P A, cCaller]) (DUc2_a q A z tx pl fs x k sn os ps u sg dd td) (DUc2_s q A z tx pl fs x k sn os ps u sg dd td) (fun _ => []) (DUc2_e q A z tx pl fs x k sn os ps u sg dd td) := by
  intro W i; obtain ⟨w, s₀, b1, b2⟩ := q; cases b1 <;> cases x <;> (kernel_rfl)
theorem DUc2 {q : Qd} (Y : Sys (K4 q)) (A : LA) (z : Nat) (tx : Str) (pl : Addr) (fs : Int) (x : Option (Int × Nat)) (k : Nat) (sn os ps : Array Value) (u : Nat) (sg : Nat) (dd : Nat) (td : Tok)  (h0 : (sg = 40 ∨ sg = 91 ∨ sg = 123) ↔ false = true) (h1 : ((⟨⟨[sg]⟩⟩ : Str).cps.toList == (⟨⟨[97]⟩⟩ : Str).cps.toList) = false) (h2 : (!(Builtin.Str.occurrences (⟨⟨[41, 93, 125]⟩⟩ : Str) (⟨⟨[sg]⟩⟩ : Str) 0 (⟨⟨[41, 93, 125]⟩⟩ : Str).length 1).isEmpty) = true) (h3 : os.size < sizeLine) (h4 : ((⟨⟨[dd]⟩⟩ : Str).cps.toList != (⟨⟨[sg]⟩⟩ : Str).cps.toList) = false) (h5 : (os.size == 0) = false) : SegC Y ([cLawB q.P A, cCaller]) (DUc2_a q A z tx pl fs x k sn os ps u sg dd td) (DUc2_e q A z tx pl fs x k sn os ps u sg dd td) :=
  Y.segC (DUc2_r q A z tx pl fs x k sn os ps u sg dd td ) (show List.Nodup [7, 8, 9, 10, 11] by decide) (fun i hN => .cons (ok_in _ _ _ _ _ _ h0 (sys_ne hN)) (.cons (okv (h1 ▸ sok_seq _ _ _ _)) (.cons (okv (h2 ▸ sok_scontains _ _ _ _)) (.cons (ok_eqE _ _ _ _ _ _ _ _ (by simp)) (.cons (ok_pop0 _ _ _ _ _ h3) (.cons (okv (h4 ▸ sok_sne _ _ _ _)) (.cons (ok_eqE _ _ _ _ _ _ _ _ h5) (AllOk.nil))))))))
noncomputable def DUc3_a (q : Qd) (A : LA) (z : Nat) (tx : Str) (pl : Addr) (fs : Int) (x : Option (Int × Nat)) (k : Nat) (sn os ps : Array Value) (u : Nat) (sg : Nat) (dd : Nat) (td : Tok) (y : Str) (wh : Bool) (pf : Addr) : SG := ⟨219, tUx (V0 q.P 0) (cDf q.P z) (z + 8) u, cDf q.P z, fsU q.P z, duF z tx pl fs x ++ (duL z sn (os.push (.str ⟨⟨[dd]⟩⟩ td)) ++ (enD z .none (k + 1) (some sg) ++ ([(pl, .arr c_list ps)] ++ twoD u k sg))), [], hz 91 0x8ad89dccc8888d87d7778888786d909685d684d8888683d808582d581d580d00000000000000effff33333000600000060000006000005555, [9, 10, 11, 12, 13, 0]⟩
noncomputable def DUc3_s (q : Qd) (A : LA) (z : Nat) (tx : Str) (pl : Addr) (fs : Int) (x : Option (Int × Nat)) (k : Nat) (sn os ps : Array Value) (u : Nat) (sg : Nat) (dd : Nat) (td : Tok) (y : Str) (wh : Bool) (pf : Addr) (i : In) : List Spec := [spIn (i.N + 4) 0 q.P ⟨(i.T + 2), (i.T + 3), (i.T + 4), (i.T + 5), (i.T + 6), (i.T + 7), 3⟩ (sg) (i.τ 5 1) false,
  spV (callB "str.__eq__" [.str (⟨⟨[sg]⟩⟩) (i.τ 5 1), .str (⟨⟨[97]⟩⟩) (i.T + 12)]) (.bool false) 0,
  spV (callB "str.__contains__" [.str (⟨⟨[41, 93, 125]⟩⟩) (i.T + 13), .str (⟨⟨[sg]⟩⟩) (i.τ 5 1)]) (.bool true) 0,
  spEqE (z + 2) (i.N + 5) 8 0 (os.push (.str ⟨⟨[dd]⟩⟩ td)) (i.ν 2).n 0 false,
  spPop0 (z + 2) 8 os (i.ν 2).n (.str ⟨⟨[dd]⟩⟩ td),
  spV (callB "str.__ne__" [(.str ⟨⟨[dd]⟩⟩ td), .str (⟨⟨[sg]⟩⟩) (i.τ 5 1)]) (.bool false) 0,
  spEqE (z + 2) (i.N + 6) 9 0 os ((i.ν 2).n + 1) 0 true,
  spV (II "int.__add__" (((k : Nat) : Int)) (i.τ 5 0) (1) (i.T + 15)) (.int ((((k : Nat) : Int)) + (1))) 1,
  spSSlice (tx) (i.τ 0 1) (i.N + 7) 0 (.int (fs) (i.τ 0 5)) (.int (((((k : Nat) : Int)) + (1))) (i.T + 16)) y wh,
  spItem pl 12 ps (i.ν 4).n (fs) (i.τ 0 5) (.ref pf),
  spPush (z + 1) 10 sn (i.ν 1).n (.ref (i.N + 8))]
noncomputable def DUc3_e (q : Qd) (A : LA) (z : Nat) (tx : Str) (pl : Addr) (fs : Int) (x : Option (Int × Nat)) (k : Nat) (sn os ps : Array Value) (u : Nat) (sg : Nat) (dd : Nat) (td : Tok) (y : Str) (wh : Bool) (pf : Addr) (i : In) : SE := ⟨denF (cDf q.P z), some (cDf q.P z), fsU q.P z, duF z tx pl fs (some (((k : Nat) : Int), sg)) ++ (duL z (sn.push (.ref (i.N + 8))) os ++ (enD z .none (k + 1) (some sg) ++ ([(pl, .arr c_list ps)] ++ [((i.N + 8), .seq c_tuple [.str ⟨⟨[103, 114, 111, 117, 112]⟩⟩, .str y, .ref pf])]))), []⟩
theorem DUc3_r (q : Qd) (A : LA) (z : Nat) (tx : Str) (pl : Addr) (fs : Int) (x : Option (Int × Nat)) (k : Nat) (sn os ps : Array Value) (u : Nat) (sg : Nat) (dd : Nat) (td : Tok) (y : Str) (wh : Bool) (pf : Addr)  : RunsC (K4 q) ([cLawB q.P A, cCaller]) (DUc3_a q A z tx pl fs x k sn os ps u sg dd td y wh pf) (DUc3_s q A z tx pl fs x k sn os ps u sg dd td y wh pf) (fun _ => []) (DUc3_e q A z tx pl fs x k sn os ps u sg dd td y wh pf) := by
  intro W i; obtain ⟨w, s₀, b1, b2⟩ := q; cases b1 <;> cases x <;> (kernel_rfl)
theorem DUc3 {q : Qd} (Y : Sys (K4 q)) (A : LA) (z : Nat) (tx : Str) (pl : Addr) (fs : Int) (x : Option (Int × Nat)) (k : Nat) (sn os ps : Array Value) (u : Nat) (sg : Nat) (dd : Nat) (td : Tok) (y : Str) (wh : Bool) (pf : Addr)  (h0 : (sg = 40 ∨ sg = 91 ∨ sg = 123) ↔ false = true) (h1 : ((⟨⟨[sg]⟩⟩ : Str).cps.toList == (⟨⟨[97]⟩⟩ : Str).cps.toList) = false) (h2 : (!(Builtin.Str.occurrences (⟨⟨[41, 93, 125]⟩⟩ : Str) (⟨⟨[sg]⟩⟩ : Str) 0 (⟨⟨[41, 93, 125]⟩⟩ : Str).length 1).isEmpty) = true) (h3 : os.size < sizeLine) (h4 : ((⟨⟨[dd]⟩⟩ : Str).cps.toList != (⟨⟨[sg]⟩⟩ : Str).cps.toList) = false) (h5 : (os.size == 0) = true) (h6 : SSliceL (tx) (some (fs)) (some (((((k : Nat) : Int)) + (1)))) y wh) (h7 : ItemAt ps (fs) (.ref pf)) (h8 : sn.size ≤ sizeLine) : SegC Y ([cLawB q.P A, cCaller]) (DUc3_a q A z tx pl fs x k sn os ps u sg dd td y wh pf) (DUc3_e q A z tx pl fs x k sn os ps u sg dd td y wh pf) :=
  Y.segC (DUc3_r q A z tx pl fs x k sn os ps u sg dd td y wh pf ) (show List.Nodup [9, 10, 11, 12, 13, 0] by decide) (fun i hN => .cons (ok_in _ _ _ _ _ _ h0 (sys_ne hN)) (.cons (okv (h1 ▸ sok_seq _ _ _ _)) (.cons (okv (h2 ▸ sok_scontains _ _ _ _)) (.cons (ok_eqE _ _ _ _ _ _ _ _ (by simp)) (.cons (ok_pop0 _ _ _ _ _ h3) (.cons (okv (h4 ▸ sok_sne _ _ _ _)) (.cons (ok_eqE _ _ _ _ _ _ _ _ h5) (.cons (okv (sok_add _ _ _ _ )) (.cons (ok_ssliceL _ _ _ _ _ _ _ _ (by rfl) (by rfl) h6) (.cons (ok_item _ _ _ _ _ _ _ h7) (.cons (ok1 rfl rfl rfl (sok_push _ _ _ _ _ h8)) (AllOk.nil))))))))))))
end Mine
end
section
set_option linter.unusedVariables false
set_option linter.unusedSimpArgs false
set_option maxRecDepth 100000
set_option maxHeartbeats 0
namespace Mine
open PySem PySem.W PySem.W.X
noncomputable def cTx (nb : Addr) : Code := cFn 250 [.ref nb]
noncomputable def txB (P : Params) : List Stmt := stmtsOf (fnOf (ob P 250))
noncomputable def txEnv (P : Params) (z : Addr) : Env := envF (fnOf (ob P 250)) 250 z []
noncomputable def cTf (P : Params) (z it : Addr) : Code := match nthS (txB P) 1 with
  | .For t _ b o _ => .forLoop t (.ref it) b o (txEnv P z)
  | _ => .builtin "" {}
noncomputable def nwv : Option (Int × Int) → List (List Nat × VD)
  | none => []
  | some x => [([110], .int x.1), ([119, 97, 121], .int x.2)]
noncomputable def txF (z nb : Addr) (tx op : Str) (x : Option (Int × Int)) : DM := [(z, .frq ([([110, 117, 109, 115], .ref nb), ([116, 101, 120, 116], .str tx), ([111, 112, 101, 110, 101, 100], .str op)] ++ nwv x))]
noncomputable def lpD (it li : Addr) (k : Nat) (ys : Array Value) : DM := [(it, .fields c_listit [.ref li, .raw (.int ((k : Nat) : Int) 0)]), (li, .arr c_list ys)]
noncomputable def oT0 (P : Params) (z : Nat) : Out := run (V0t P (z) (0)) 120 (denF (cTx 5)) (cTx 5) default ([]) (memOf P (fun _ _ => 0) (fun _ => ⟨0, #[]⟩) 0 ([(5, .arr c_list #[.int 1 0, .int 2 0])])) 0 0 ([]) 0 (hz 56 0x000000000600000666644444000100000010000001000000000e00ff) []
noncomputable def fsT (P : Params) (z : Nat) : List Frame := (oT0 P z).fs
theorem chk_T (P : Params) (z : Nat) : (fsT P z).length = 1 := by kernel_rfl
noncomputable def TX0a_a (q : Qd) (A : LA) (nb : Addr) (ns ys : Array Value) (m : Nat) : SG := ⟨100, denF (cTx nb), cTx nb, [], [(nb, .arr c_list ns)], [], hz 48 0x000081d0080d66644444000100000010000001000000000e00ff, [8, 7, 0, 1]⟩
noncomputable def TX0a_s (q : Qd) (A : LA) (nb : Addr) (ns ys : Array Value) (m : Nat) (i : In) : List Spec := [spSlice nb (i.N + 5) 6 0 ns (i.ν 0).n (.int (1) (i.T + 5)) (.none) ys,
  spLenB (i.N + 6) 0 ys 0 (m + 1)]
noncomputable def TX0a_e (q : Qd) (A : LA) (nb : Addr) (ns ys : Array Value) (m : Nat) (i : In) : SE := ⟨denF (cTf q.P i.N (i.N + 7)), some (cTf q.P i.N (i.N + 7)), fsT q.P i.N, ([(nb, .arr c_list ns)] : DM) ++ (txF i.N nb ⟨⟨[]⟩⟩ ⟨⟨[]⟩⟩ none ++ lpD (i.N + 7) (i.N + 6) 0 ys), []⟩
theorem TX0a_r (q : Qd) (A : LA) (nb : Addr) (ns ys : Array Value) (m : Nat)  : RunsC (K4 q) ([cLawB q.P A, cCaller]) (TX0a_a q A nb ns ys m) (TX0a_s q A nb ns ys m) (fun _ => []) (TX0a_e q A nb ns ys m) := by
  intro W i; obtain ⟨w, s₀, b1, b2⟩ := q; cases b1 <;> (kernel_rfl)
theorem TX0a {q : Qd} (Y : Sys (K4 q)) (A : LA) (nb : Addr) (ns ys : Array Value) (m : Nat)  (h0 : SliceL ns (some (1)) none ys) (h1 : ys.size = (m + 1)) (h2 : (((m + 1) : Nat) : Int) < 2 ^ 63) : SegC Y ([cLawB q.P A, cCaller]) (TX0a_a q A nb ns ys m) (TX0a_e q A nb ns ys m) :=
  Y.segC (TX0a_r q A nb ns ys m ) (show List.Nodup [8, 7, 0, 1] by decide) (fun i hN => .cons (ok_sliceL _ _ _ _ _ _ _ _ _ (by rfl) (by rfl) h0) (.cons (ok_lenB _ _ _ _ _ h1 h2) (AllOk.nil)))
noncomputable def TX0b_a (q : Qd) (A : LA) (nb : Addr) (ns ys : Array Value) : SG := ⟨105, denF (cTx nb), cTx nb, [], [(nb, .arr c_list ns)], [], hz 48 0x000081d0080d66644444000100000010000001000000000e00ff, [9, 8, 0, 1]⟩
noncomputable def TX0b_s (q : Qd) (A : LA) (nb : Addr) (ns ys : Array Value) (i : In) : List Spec := [spSlice nb (i.N + 5) 6 0 ns (i.ν 0).n (.int (1) (i.T + 5)) (.none) ys,
  spLenB (i.N + 6) 0 ys 0 0]
noncomputable def TX0b_e (q : Qd) (A : LA) (nb : Addr) (ns ys : Array Value) (i : In) : SE := ⟨denF (cTf q.P i.N (i.N + 8)), some (cTf q.P i.N (i.N + 8)), fsT q.P i.N, ([(nb, .arr c_list ns)] : DM) ++ (txF i.N nb ⟨⟨[]⟩⟩ ⟨⟨[]⟩⟩ none ++ lpD (i.N + 8) (i.N + 7) 0 (#[.int (0) (i.T + 8), .int (6) (i.T + 9), .int (3) (i.T + 10)] : Array Value)), []⟩
theorem TX0b_r (q : Qd) (A : LA) (nb : Addr) (ns ys : Array Value)  : RunsC (K4 q) ([cLawB q.P A, cCaller]) (TX0b_a q A nb ns ys) (TX0b_s q A nb ns ys) (fun _ => []) (TX0b_e q A nb ns ys) := by
  intro W i; obtain ⟨w, s₀, b1, b2⟩ := q; cases b1 <;> (kernel_rfl)
theorem TX0b {q : Qd} (Y : Sys (K4 q)) (A : LA) (nb : Addr) (ns ys : Array Value)  (h0 : SliceL ns (some (1)) none ys) (h1 : ys.size = 0) (h2 : ((0 : Nat) : Int) < 2 ^ 63) : SegC Y ([cLawB q.P A, cCaller]) (TX0b_a q A nb ns ys) (TX0b_e q A nb ns ys) :=
  Y.segC (TX0b_r q A nb ns ys ) (show List.Nodup [9, 8, 0, 1] by decide) (fun i hN => .cons (ok_sliceL _ _ _ _ _ _ _ _ _ (by rfl) (by rfl) h0) (.cons (ok_lenB _ _ _ _ _ h1 h2) (AllOk.nil)))
noncomputable def TXo_a (q : Qd) (A : LA) (z it li nb : Addr) (tx op : Str) (x : Option (Int × Int)) (k : Nat) (ys : Array Value) (n : Int) (tn : Tok) (c1 : Nat) (c2 : Nat) : SG := ⟨135, denF (cTf q.P z it), cTf q.P z it, fsT q.P z, txF z nb tx op x ++ lpD it li k ys, [], hz 59 0x44440001000000100000010000000008ad089d088d87d0086d85d84d0ff83d0ff82d00081d00080d1, [4, 5, 6]⟩
noncomputable def TXo_s (q : Qd) (A : LA) (z it li nb : Addr) (tx op : Str) (x : Option (Int × Int)) (k : Nat) (ys : Array Value) (n : Int) (tn : Tok) (c1 : Nat) (c2 : Nat) (i : In) : List Spec := [spNext it li 1 2 ys (i.ν 2).n (k : Nat) ((.int n tn)),
  spV (II "int.__mod__" (n) tn (9) (i.T + 1)) (.int ((n).fmod (9))) 1,
  spV (II "int.__lt__" (((n).fmod (9))) (i.T + 2) (3) (i.T + 4)) (.bool true) 0,
  spLen (.str (tx) (i.τ 0 3)) ((tx).length : Int),
  spLen (.str (op) (i.τ 0 5)) ((op).length : Int),
  spV (II "int.__add__" (((tx).length : Int)) (i.T + 6) (((op).length : Int)) (i.T + 8)) (.int ((((tx).length : Int)) + (((op).length : Int)))) 1,
  spV (II "int.__lt__" (((((tx).length : Int)) + (((op).length : Int)))) (i.T + 9) (12) (i.T + 10)) (.bool true) 0,
  spV (callB "str.__getitem__" [.str (⟨⟨[40, 91, 123]⟩⟩) (i.T + 11), .int (((n).fmod (9))) (i.T + 2)]) (.str ⟨⟨[c1]⟩⟩) 1,
  spAdd (tx) (i.τ 0 3) (⟨⟨[c1]⟩⟩) (i.T + 12),
  spV (callB "str.__getitem__" [.str (⟨⟨[41, 93, 125]⟩⟩) (i.T + (13 + adt (tx) (⟨⟨[c1]⟩⟩) + 0)), .int (((n).fmod (9))) (i.T + 2)]) (.str ⟨⟨[c2]⟩⟩) 1,
  spAdd (⟨⟨[c2]⟩⟩) (i.T + (13 + adt (tx) (⟨⟨[c1]⟩⟩) + 1)) (op) (i.τ 0 5)]
noncomputable def TXo_e (q : Qd) (A : LA) (z it li nb : Addr) (tx op : Str) (x : Option (Int × Int)) (k : Nat) (ys : Array Value) (n : Int) (tn : Tok) (c1 : Nat) (c2 : Nat) (i : In) : SE := ⟨denF (cTf q.P z it), some (cTf q.P z it), fsT q.P z, txF z nb ((tx) ++ ((⟨⟨[c1]⟩⟩) : Str)) (((⟨⟨[c2]⟩⟩) : Str) ++ (op)) (some (n, ((n).fmod (9)))) ++ lpD it li (k + 1) ys, []⟩
theorem TXo_r (q : Qd) (A : LA) (z it li nb : Addr) (tx op : Str) (x : Option (Int × Int)) (k : Nat) (ys : Array Value) (n : Int) (tn : Tok) (c1 : Nat) (c2 : Nat)  : RunsC (K4 q) ([cLawB q.P A, cCaller]) (TXo_a q A z it li nb tx op x k ys n tn c1 c2) (TXo_s q A z it li nb tx op x k ys n tn c1 c2) (fun _ => []) (TXo_e q A z it li nb tx op x k ys n tn c1 c2) := by
  intro W i; obtain ⟨w, s₀, b1, b2⟩ := q; cases b1 <;> cases x <;> (kernel_rfl)
theorem TXo {q : Qd} (Y : Sys (K4 q)) (A : LA) (z it li nb : Addr) (tx op : Str) (x : Option (Int × Int)) (k : Nat) (ys : Array Value) (n : Int) (tn : Tok) (c1 : Nat) (c2 : Nat)  (h0 : ys[k]? = some ((.int n tn))) (h1 : decide ((((n).fmod (9))) < (3)) = true) (h2 : ((tx).length : Int) < 2 ^ 63) (h3 : ((op).length : Int) < 2 ^ 63) (h4 : decide ((((((tx).length : Int)) + (((op).length : Int)))) < (12)) = true) (h5 : CharAt (⟨⟨[40, 91, 123]⟩⟩ : Str) (((n).fmod (9))) c1) (h6 : ((tx) ++ ((⟨⟨[c1]⟩⟩ : Str) : Str)).length ≤ sizeLine) (h7 : CharAt (⟨⟨[41, 93, 125]⟩⟩ : Str) (((n).fmod (9))) c2) (h8 : (((⟨⟨[c2]⟩⟩ : Str) : Str) ++ (op)).length ≤ sizeLine) : SegC Y ([cLawB q.P A, cCaller]) (TXo_a q A z it li nb tx op x k ys n tn c1 c2) (TXo_e q A z it li nb tx op x k ys n tn c1 c2) :=
  Y.segC (TXo_r q A z it li nb tx op x k ys n tn c1 c2 ) (show List.Nodup [4, 5, 6] by decide) (fun i hN => .cons (ok1 rfl rfl rfl (sok_next _ _ _ _ _ _ _ _ h0)) (.cons (okv (sok_mod _ _ _ _ (by decide))) (.cons (okv (h1 ▸ sok_lt _ _ _ _)) (.cons (ok_len_str _ _ h2) (.cons (ok_len_str _ _ h3) (.cons (okv (sok_add _ _ _ _ )) (.cons (okv (h4 ▸ sok_lt _ _ _ _)) (.cons (okv (sok_sget _ _ _ _ _ h5)) (.cons (ok_add _ _ _ _ h6) (.cons (okv (sok_sget _ _ _ _ _ h7)) (.cons (ok_add _ _ _ _ h8) (AllOk.nil))))))))))))
noncomputable def TXn_a (q : Qd) (A : LA) (z it li nb : Addr) (tx op : Str) (x : Option (Int × Int)) (k : Nat) (ys : Array Value) (n : Int) (tn : Tok) : SG := ⟨54, denF (cTf q.P z it), cTf q.P z it, fsT q.P z, txF z nb tx op x ++ lpD it li k ys, [], hz 20 0x86d85d84d0ff83d0ff82d00081d00080d1, [0, 1, 2]⟩
noncomputable def TXn_s (q : Qd) (A : LA) (z it li nb : Addr) (tx op : Str) (x : Option (Int × Int)) (k : Nat) (ys : Array Value) (n : Int) (tn : Tok) (i : In) : List Spec := [spNext it li 1 2 ys (i.ν 2).n (k : Nat) ((.int n tn)),
  spV (II "int.__mod__" (n) tn (9) (i.T + 1)) (.int ((n).fmod (9))) 1,
  spV (II "int.__lt__" (((n).fmod (9))) (i.T + 2) (3) (i.T + 4)) (.bool true) 0,
  spLen (.str (tx) (i.τ 0 3)) ((tx).length : Int),
  spLen (.str (op) (i.τ 0 5)) ((op).length : Int),
  spV (II "int.__add__" (((tx).length : Int)) (i.T + 6) (((op).length : Int)) (i.T + 8)) (.int ((((tx).length : Int)) + (((op).length : Int)))) 1,
  spV (II "int.__lt__" (((((tx).length : Int)) + (((op).length : Int)))) (i.T + 9) (12) (i.T + 10)) (.bool false) 0]
noncomputable def TXn_e (q : Qd) (A : LA) (z it li nb : Addr) (tx op : Str) (x : Option (Int × Int)) (k : Nat) (ys : Array Value) (n : Int) (tn : Tok) (i : In) : SE := ⟨denF (cTf q.P z it), some (cTf q.P z it), fsT q.P z, txF z nb tx op (some (n, ((n).fmod (9)))) ++ lpD it li (k + 1) ys, []⟩
theorem TXn_r (q : Qd) (A : LA) (z it li nb : Addr) (tx op : Str) (x : Option (Int × Int)) (k : Nat) (ys : Array Value) (n : Int) (tn : Tok)  : RunsC (K4 q) ([cLawB q.P A, cCaller]) (TXn_a q A z it li nb tx op x k ys n tn) (TXn_s q A z it li nb tx op x k ys n tn) (fun _ => []) (TXn_e q A z it li nb tx op x k ys n tn) := by
  intro W i; obtain ⟨w, s₀, b1, b2⟩ := q; cases b1 <;> cases x <;> (kernel_rfl)
theorem TXn {q : Qd} (Y : Sys (K4 q)) (A : LA) (z it li nb : Addr) (tx op : Str) (x : Option (Int × Int)) (k : Nat) (ys : Array Value) (n : Int) (tn : Tok)  (h0 : ys[k]? = some ((.int n tn))) (h1 : decide ((((n).fmod (9))) < (3)) = true) (h2 : ((tx).length : Int) < 2 ^ 63) (h3 : ((op).length : Int) < 2 ^ 63) (h4 : decide ((((((tx).length : Int)) + (((op).length : Int)))) < (12)) = false) : SegC Y ([cLawB q.P A, cCaller]) (TXn_a q A z it li nb tx op x k ys n tn) (TXn_e q A z it li nb tx op x k ys n tn) :=
  Y.segC (TXn_r q A z it li nb tx op x k ys n tn ) (show List.Nodup [0, 1, 2] by decide) (fun i hN => .cons (ok1 rfl rfl rfl (sok_next _ _ _ _ _ _ _ _ h0)) (.cons (okv (sok_mod _ _ _ _ (by decide))) (.cons (okv (h1 ▸ sok_lt _ _ _ _)) (.cons (ok_len_str _ _ h2) (.cons (ok_len_str _ _ h3) (.cons (okv (sok_add _ _ _ _ )) (.cons (okv (h4 ▸ sok_lt _ _ _ _)) (AllOk.nil))))))))
noncomputable def TXc_a (q : Qd) (A : LA) (z it li nb : Addr) (tx op : Str) (x : Option (Int × Int)) (k : Nat) (ys : Array Value) (n : Int) (tn : Tok) (y1 : Str) (y2 : Str) (w1 : Bool) (w2 : Bool) : SG := ⟨116, denF (cTf q.P z it), cTf q.P z it, fsT q.P z, txF z nb tx op x ++ lpD it li k ys, [], hz 49 0x666600010000001000000100000000086d185d84d0083d082d00081d00080d1, [6, 7, 8]⟩
noncomputable def TXc_s (q : Qd) (A : LA) (z it li nb : Addr) (tx op : Str) (x : Option (Int × Int)) (k : Nat) (ys : Array Value) (n : Int) (tn : Tok) (y1 : Str) (y2 : Str) (w1 : Bool) (w2 : Bool) (i : In) : List Spec := [spNext it li 1 2 ys (i.ν 2).n (k : Nat) ((.int n tn)),
  spV (II "int.__mod__" (n) tn (9) (i.T + 1)) (.int ((n).fmod (9))) 1,
  spV (II "int.__lt__" (((n).fmod (9))) (i.T + 2) (3) (i.T + 4)) (.bool false) 0,
  spV (II "int.__lt__" (((n).fmod (9))) (i.T + 2) (6) (i.T + 5)) (.bool true) 0,
  spSSlice (op) (i.τ 0 5) (i.N + 0) 0 (.none) (.int (1) (i.T + 6)) y1 w1,
  spAdd (tx) (i.τ 0 3) (y1) (wtok w1 (i.τ 0 5) (i.T + 7)),
  spSSlice (op) (i.τ 0 5) (i.N + 1) 0 (.int (1) (i.T + (7 + wdt w1 + 0 + adt (tx) (y1) + 0))) (.none) y2 w2]
noncomputable def TXc_e (q : Qd) (A : LA) (z it li nb : Addr) (tx op : Str) (x : Option (Int × Int)) (k : Nat) (ys : Array Value) (n : Int) (tn : Tok) (y1 : Str) (y2 : Str) (w1 : Bool) (w2 : Bool) (i : In) : SE := ⟨denF (cTf q.P z it), some (cTf q.P z it), fsT q.P z, txF z nb ((tx) ++ (y1)) y2 (some (n, ((n).fmod (9)))) ++ lpD it li (k + 1) ys, []⟩
theorem TXc_r (q : Qd) (A : LA) (z it li nb : Addr) (tx op : Str) (x : Option (Int × Int)) (k : Nat) (ys : Array Value) (n : Int) (tn : Tok) (y1 : Str) (y2 : Str) (w1 : Bool) (w2 : Bool)  : RunsC (K4 q) ([cLawB q.P A, cCaller]) (TXc_a q A z it li nb tx op x k ys n tn y1 y2 w1 w2) (TXc_s q A z it li nb tx op x k ys n tn y1 y2 w1 w2) (fun _ => []) (TXc_e q A z it li nb tx op x k ys n tn y1 y2 w1 w2) := by
  intro W i; obtain ⟨w, s₀, b1, b2⟩ := q; cases b1 <;> cases x <;> (kernel_rfl)
theorem TXc {q : Qd} (Y : Sys (K4 q)) (A : LA) (z it li nb : Addr) (tx op : Str) (x : Option (Int × Int)) (k : Nat) (ys : Array Value) (n : Int) (tn : Tok) (y1 : Str) (y2 : Str) (w1 : Bool) (w2 : Bool)  (h0 : ys[k]? = some ((.int n tn))) (h1 : decide ((((n).fmod (9))) < (3)) = false) (h2 : decide ((((n).fmod (9))) < (6)) = true) (h3 : SSliceL (op) none (some (1)) y1 w1) (h4 : ((tx) ++ (y1)).length ≤ sizeLine) (h5 : SSliceL (op) (some (1)) none y2 w2) : SegC Y ([cLawB q.P A, cCaller]) (TXc_a q A z it li nb tx op x k ys n tn y1 y2 w1 w2) (TXc_e q A z it li nb tx op x k ys n tn y1 y2 w1 w2) :=
  Y.segC (TXc_r q A z it li nb tx op x k ys n tn y1 y2 w1 w2 ) (show List.Nodup [6, 7, 8] by decide) (fun i hN => .cons (ok1 rfl rfl rfl (sok_next _ _ _ _ _ _ _ _ h0)) (.cons (okv (sok_mod _ _ _ _ (by decide))) (.cons (okv (h1 ▸ sok_lt _ _ _ _)) (.cons (okv (h2 ▸ sok_lt _ _ _ _)) (.cons (ok_ssliceL _ _ _ _ _ _ _ _ (by rfl) (by rfl) h3) (.cons (ok_add _ _ _ _ h4) (.cons (ok_ssliceL _ _ _ _ _ _ _ _ (by rfl) (by rfl) h5) (AllOk.nil))))))))
noncomputable def TXl_a (q : Qd) (A : LA) (z it li nb : Addr) (tx op : Str) (x : Option (Int × Int)) (k : Nat) (ys : Array Value) (n : Int) (tn : Tok) (c1 : Nat) : SG := ⟨81, denF (cTf q.P z it), cTf q.P z it, fsT q.P z, txF z nb tx op x ++ lpD it li k ys, [], hz 29 0x008ad89d88d0087d86d85d0ff84d0ff83d082d00081d00080d1, [0, 1, 2]⟩
noncomputable def TXl_s (q : Qd) (A : LA) (z it li nb : Addr) (tx op : Str) (x : Option (Int × Int)) (k : Nat) (ys : Array Value) (n : Int) (tn : Tok) (c1 : Nat) (i : In) : List Spec := [spNext it li 1 2 ys (i.ν 2).n (k : Nat) ((.int n tn)),
  spV (II "int.__mod__" (n) tn (9) (i.T + 1)) (.int ((n).fmod (9))) 1,
  spV (II "int.__lt__" (((n).fmod (9))) (i.T + 2) (3) (i.T + 4)) (.bool false) 0,
  spV (II "int.__lt__" (((n).fmod (9))) (i.T + 2) (6) (i.T + 5)) (.bool false) 0,
  spLen (.str (tx) (i.τ 0 3)) ((tx).length : Int),
  spLen (.str (op) (i.τ 0 5)) ((op).length : Int),
  spV (II "int.__add__" (((tx).length : Int)) (i.T + 7) (((op).length : Int)) (i.T + 9)) (.int ((((tx).length : Int)) + (((op).length : Int)))) 1,
  spV (II "int.__lt__" (((((tx).length : Int)) + (((op).length : Int)))) (i.T + 10) (13) (i.T + 11)) (.bool true) 0,
  spV (II "int.__sub__" (((n).fmod (9))) (i.T + 2) (6) (i.T + 13)) (.int ((((n).fmod (9))) - (6))) 1,
  spV (callB "str.__getitem__" [.str (⟨⟨[97, 32, 97]⟩⟩) (i.T + 12), .int (((((n).fmod (9))) - (6))) (i.T + 14)]) (.str ⟨⟨[c1]⟩⟩) 1,
  spAdd (tx) (i.τ 0 3) (⟨⟨[c1]⟩⟩) (i.T + 15)]
noncomputable def TXl_e (q : Qd) (A : LA) (z it li nb : Addr) (tx op : Str) (x : Option (Int × Int)) (k : Nat) (ys : Array Value) (n : Int) (tn : Tok) (c1 : Nat) (i : In) : SE := ⟨denF (cTf q.P z it), some (cTf q.P z it), fsT q.P z, txF z nb ((tx) ++ ((⟨⟨[c1]⟩⟩) : Str)) op (some (n, ((n).fmod (9)))) ++ lpD it li (k + 1) ys, []⟩
theorem TXl_r (q : Qd) (A : LA) (z it li nb : Addr) (tx op : Str) (x : Option (Int × Int)) (k : Nat) (ys : Array Value) (n : Int) (tn : Tok) (c1 : Nat)  : RunsC (K4 q) ([cLawB q.P A, cCaller]) (TXl_a q A z it li nb tx op x k ys n tn c1) (TXl_s q A z it li nb tx op x k ys n tn c1) (fun _ => []) (TXl_e q A z it li nb tx op x k ys n tn c1) := by
  intro W i; obtain ⟨w, s₀, b1, b2⟩ := q; cases b1 <;> cases x <;> (kernel_rfl)
theorem TXl {q : Qd} (Y : Sys (K4 q)) (A : LA) (z it li nb : Addr) (tx op : Str) (x : Option (Int × Int)) (k : Nat) (ys : Array Value) (n : Int) (tn : Tok) (c1 : Nat)  (h0 : ys[k]? = some ((.int n tn))) (h1 : decide ((((n).fmod (9))) < (3)) = false) (h2 : decide ((((n).fmod (9))) < (6)) = false) (h3 : ((tx).length : Int) < 2 ^ 63) (h4 : ((op).length : Int) < 2 ^ 63) (h5 : decide ((((((tx).length : Int)) + (((op).length : Int)))) < (13)) = true) (h6 : CharAt (⟨⟨[97, 32, 97]⟩⟩ : Str) (((((n).fmod (9))) - (6))) c1) (h7 : ((tx) ++ ((⟨⟨[c1]⟩⟩ : Str) : Str)).length ≤ sizeLine) : SegC Y ([cLawB q.P A, cCaller]) (TXl_a q A z it li nb tx op x k ys n tn c1) (TXl_e q A z it li nb tx op x k ys n tn c1) :=
  Y.segC (TXl_r q A z it li nb tx op x k ys n tn c1 ) (show List.Nodup [0, 1, 2] by decide) (fun i hN => .cons (ok1 rfl rfl rfl (sok_next _ _ _ _ _ _ _ _ h0)) (.cons (okv (sok_mod _ _ _ _ (by decide))) (.cons (okv (h1 ▸ sok_lt _ _ _ _)) (.cons (okv (h2 ▸ sok_lt _ _ _ _)) (.cons (ok_len_str _ _ h3) (.cons (ok_len_str _ _ h4) (.cons (okv (sok_add _ _ _ _ )) (.cons (okv (h5 ▸ sok_lt _ _ _ _)) (.cons (okv (sok_sub _ _ _ _ )) (.cons (okv (sok_sget _ _ _ _ _ h6)) (.cons (ok_add _ _ _ _ h7) (AllOk.nil))))))))))))
noncomputable def TXm_a (q : Qd) (A : LA) (z it li nb : Addr) (tx op : Str) (x : Option (Int × Int)) (k : Nat) (ys : Array Value) (n : Int) (tn : Tok) : SG := ⟨61, denF (cTf q.P z it), cTf q.P z it, fsT q.P z, txF z nb tx op x ++ lpD it li k ys, [], hz 22 0x87d86d85d0ff84d0ff83d082d00081d00080d1, [0, 1, 2]⟩
noncomputable def TXm_s (q : Qd) (A : LA) (z it li nb : Addr) (tx op : Str) (x : Option (Int × Int)) (k : Nat) (ys : Array Value) (n : Int) (tn : Tok) (i : In) : List Spec := [spNext it li 1 2 ys (i.ν 2).n (k : Nat) ((.int n tn)),
  spV (II "int.__mod__" (n) tn (9) (i.T + 1)) (.int ((n).fmod (9))) 1,
  spV (II "int.__lt__" (((n).fmod (9))) (i.T + 2) (3) (i.T + 4)) (.bool false) 0,
  spV (II "int.__lt__" (((n).fmod (9))) (i.T + 2) (6) (i.T + 5)) (.bool false) 0,
  spLen (.str (tx) (i.τ 0 3)) ((tx).length : Int),
  spLen (.str (op) (i.τ 0 5)) ((op).length : Int),
  spV (II "int.__add__" (((tx).length : Int)) (i.T + 7) (((op).length : Int)) (i.T + 9)) (.int ((((tx).length : Int)) + (((op).length : Int)))) 1,
  spV (II "int.__lt__" (((((tx).length : Int)) + (((op).length : Int)))) (i.T + 10) (13) (i.T + 11)) (.bool false) 0]
noncomputable def TXm_e (q : Qd) (A : LA) (z it li nb : Addr) (tx op : Str) (x : Option (Int × Int)) (k : Nat) (ys : Array Value) (n : Int) (tn : Tok) (i : In) : SE := ⟨denF (cTf q.P z it), some (cTf q.P z it), fsT q.P z, txF z nb tx op (some (n, ((n).fmod (9)))) ++ lpD it li (k + 1) ys, []⟩
theorem TXm_r (q : Qd) (A : LA) (z it li nb : Addr) (tx op : Str) (x : Option (Int × Int)) (k : Nat) (ys : Array Value) (n : Int) (tn : Tok)  : RunsC (K4 q) ([cLawB q.P A, cCaller]) (TXm_a q A z it li nb tx op x k ys n tn) (TXm_s q A z it li nb tx op x k ys n tn) (fun _ => []) (TXm_e q A z it li nb tx op x k ys n tn) := by
  intro W i; obtain ⟨w, s₀, b1, b2⟩ := q; cases b1 <;> cases x <;> (kernel_rfl)
theorem TXm {q : Qd} (Y : Sys (K4 q)) (A : LA) (z it li nb : Addr) (tx op : Str) (x : Option (Int × Int)) (k : Nat) (ys : Array Value) (n : Int) (tn : Tok)  (h0 : ys[k]? = some ((.int n tn))) (h1 : decide ((((n).fmod (9))) < (3)) = false) (h2 : decide ((((n).fmod (9))) < (6)) = false) (h3 : ((tx).length : Int) < 2 ^ 63) (h4 : ((op).length : Int) < 2 ^ 63) (h5 : decide ((((((tx).length : Int)) + (((op).length : Int)))) < (13)) = false) : SegC Y ([cLawB q.P A, cCaller]) (TXm_a q A z it li nb tx op x k ys n tn) (TXm_e q A z it li nb tx op x k ys n tn) :=
  Y.segC (TXm_r q A z it li nb tx op x k ys n tn ) (show List.Nodup [0, 1, 2] by decide) (fun i hN => .cons (ok1 rfl rfl rfl (sok_next _ _ _ _ _ _ _ _ h0)) (.cons (okv (sok_mod _ _ _ _ (by decide))) (.cons (okv (h1 ▸ sok_lt _ _ _ _)) (.cons (okv (h2 ▸ sok_lt _ _ _ _)) (.cons (ok_len_str _ _ h3) (.cons (ok_len_str _ _ h4) (.cons (okv (sok_add _ _ _ _ )) (.cons (okv (h5 ▸ sok_lt _ _ _ _)) (AllOk.nil)))))))))
noncomputable def TXze_a (q : Qd) (A : LA) (z it li nb : Addr) (tx op : Str) (x : Option (Int × Int)) (k : Nat) (ys : Array Value) (c1 : Nat) : SG := ⟨261, denF (cTf q.P z it), cTf q.P z it, fsT q.P z, txF z nb tx op x ++ (lpD it li k ys ++ [(nb, .arr c_list #[])]), [], hz 103 0xaaaaaaaaa00010000001000000100000000089d88d87d86d85d6ff684d83d82d6ff666660001000000100000010000000005555525555522281d22080d1, [13]⟩
noncomputable def TXze_s (q : Qd) (A : LA) (z it li nb : Addr) (tx op : Str) (x : Option (Int × Int)) (k : Nat) (ys : Array Value) (c1 : Nat) (i : In) : List Spec := [spEnd it li 1 2 ys (i.ν 2).n (k : Nat),
  spAdd (tx) (i.τ 0 3) (op) (i.τ 0 5),
  spLen (.str (((tx) ++ (op))) (atok (tx) (op) (i.τ 0 3) (i.τ 0 5) (i.T + 0))) ((((tx) ++ (op))).length : Int),
  spV (II "int.__add__" (((((tx) ++ (op))).length : Int)) (i.T + (0 + adt (tx) (op) + 14)) (1) (i.T + (0 + adt (tx) (op) + 15))) (.int ((((((tx) ++ (op))).length : Int)) + (1))) 1,
  spV (II "int.__mod__" (0) (i.T + (0 + adt (tx) (op) + 10)) (((((((tx) ++ (op))).length : Int)) + (1))) (i.T + (0 + adt (tx) (op) + 16))) (.int ((0 : Int).fmod (((((((tx) ++ (op))).length : Int)) + (1))))) 1,
  spLen (.str (((tx) ++ (op))) (atok (tx) (op) (i.τ 0 3) (i.τ 0 5) (i.T + 0))) ((((tx) ++ (op))).length : Int),
  spV (II "int.__add__" (((((tx) ++ (op))).length : Int)) (i.T + (0 + adt (tx) (op) + 20)) (1) (i.T + (0 + adt (tx) (op) + 21))) (.int ((((((tx) ++ (op))).length : Int)) + (1))) 1,
  spV (II "int.__floordiv__" (0) (i.T + (0 + adt (tx) (op) + 10)) (((((((tx) ++ (op))).length : Int)) + (1))) (i.T + (0 + adt (tx) (op) + 22))) (.int ((0 : Int).fdiv (((((((tx) ++ (op))).length : Int)) + (1))))) 1,
  spV (II "int.__mod__" (((0 : Int).fdiv (((((((tx) ++ (op))).length : Int)) + (1))))) (i.T + (0 + adt (tx) (op) + 23)) (8) (i.T + (0 + adt (tx) (op) + 24))) (.int ((((0 : Int).fdiv (((((((tx) ++ (op))).length : Int)) + (1))))).fmod (8))) 1,
  spV (callB "str.__getitem__" [.str (⟨⟨[40, 91, 123, 41, 93, 125, 32, 97]⟩⟩) (i.T + (0 + adt (tx) (op) + 18)), .int (((((0 : Int).fdiv (((((((tx) ++ (op))).length : Int)) + (1))))).fmod (8))) (i.T + (0 + adt (tx) (op) + 25))]) (.str ⟨⟨[c1]⟩⟩) 1]
noncomputable def TXze_e (q : Qd) (A : LA) (z it li nb : Addr) (tx op : Str) (x : Option (Int × Int)) (k : Nat) (ys : Array Value) (c1 : Nat) (i : In) : SE := ⟨.pure (.done (.ret (.str (((tx) ++ (op))) (atok (tx) (op) (i.τ 0 3) (i.τ 0 5) (i.T + 0))))), none, [], ([(nb, .arr c_list #[])] : DM), []⟩
theorem TXze_r (q : Qd) (A : LA) (z it li nb : Addr) (tx op : Str) (x : Option (Int × Int)) (k : Nat) (ys : Array Value) (c1 : Nat)  : RunsC (K4 q) ([cLawB q.P A, cCaller]) (TXze_a q A z it li nb tx op x k ys c1) (TXze_s q A z it li nb tx op x k ys c1) (fun _ => []) (TXze_e q A z it li nb tx op x k ys c1) := by
  intro W i; obtain ⟨w, s₀, b1, b2⟩ := q; cases b1 <;> cases x <;> (kernel_rfl)
theorem TXze {q : Qd} (Y : Sys (K4 q)) (A : LA) (z it li nb : Addr) (tx op : Str) (x : Option (Int × Int)) (k : Nat) (ys : Array Value) (c1 : Nat)  (h0 : ys[k]? = none) (h1 : ((tx) ++ (op)).length ≤ sizeLine) (h2 : ((((tx) ++ (op))).length : Int) < 2 ^ 63) (h3 : CharAt (⟨⟨[40, 91, 123, 41, 93, 125, 32, 97]⟩⟩ : Str) (((((0 : Int).fdiv (((((((tx) ++ (op))).length : Int)) + (1))))).fmod (8))) c1) : SegC Y ([cLawB q.P A, cCaller]) (TXze_a q A z it li nb tx op x k ys c1) (TXze_e q A z it li nb tx op x k ys c1) :=
  Y.segC (TXze_r q A z it li nb tx op x k ys c1 ) (show List.Nodup [13] by decide) (fun i hN => .cons (ok_end _ _ _ _ _ _ _ h0) (.cons (ok_add _ _ _ _ h1) (.cons (ok_len_str _ _ h2) (.cons (okv (sok_add _ _ _ _ )) (.cons (okv (sok_mod _ _ _ _ (dv_ne _))) (.cons (ok_len_str _ _ h2) (.cons (okv (sok_add _ _ _ _ )) (.cons (okv (sok_div _ _ _ _ (dv_ne _) (dv_small _ _ h2))) (.cons (okv (sok_mod _ _ _ _ (by decide))) (.cons (okv (sok_sget _ _ _ _ _ h3)) (AllOk.nil)))))))))))
noncomputable def TXzo_a (q : Qd) (A : LA) (z it li nb : Addr) (tx op : Str) (x : Option (Int × Int)) (k : Nat) (ys : Array Value) (ns : Array Value) (n : Int) (tn : Tok) (m : Nat) (c1 : Nat) : SG := ⟨241, denF (cTf q.P z it), cTf q.P z it, fsT q.P z, txF z nb tx op x ++ (lpD it li k ys ++ [(nb, .arr c_list ns)]), [], hz 115 0xa93da92da91da90daaaaa0001000000100000010000000008fd8ed8dd8cd8bd6ff68ad89d88d6ff6666600010000001000000100000000087d86d555285d55284d83d555282d5522281d22080d1, [13]⟩
noncomputable def TXzo_s (q : Qd) (A : LA) (z it li nb : Addr) (tx op : Str) (x : Option (Int × Int)) (k : Nat) (ys : Array Value) (ns : Array Value) (n : Int) (tn : Tok) (m : Nat) (c1 : Nat) (i : In) : List Spec := [spEnd it li 1 2 ys (i.ν 2).n (k : Nat),
  spAdd (tx) (i.τ 0 3) (op) (i.τ 0 5),
  spLenB nb 5 ns (i.ν 3).n (m + 1),
  spItem nb 5 ns (i.ν 3).n (0) (i.T + (0 + adt (tx) (op) + 3)) ((.int n tn)),
  spV (II "int.__mod__" (n) tn (8) (i.T + (0 + adt (tx) (op) + 4))) (.int ((n).fmod (8))) 1,
  spLenB nb 5 ns (i.ν 3).n (m + 1),
  spItem nb 5 ns (i.ν 3).n (0) (i.T + (0 + adt (tx) (op) + 8)) ((.int n tn)),
  spV (II "int.__floordiv__" (n) tn (8) (i.T + (0 + adt (tx) (op) + 9))) (.int ((n).fdiv (8))) 1,
  spLen (.str (((tx) ++ (op))) (atok (tx) (op) (i.τ 0 3) (i.τ 0 5) (i.T + 0))) ((((tx) ++ (op))).length : Int),
  spV (II "int.__add__" (((((tx) ++ (op))).length : Int)) (i.T + (0 + adt (tx) (op) + 14)) (1) (i.T + (0 + adt (tx) (op) + 15))) (.int ((((((tx) ++ (op))).length : Int)) + (1))) 1,
  spV (II "int.__mod__" (((n).fdiv (8))) (i.T + (0 + adt (tx) (op) + 10)) (((((((tx) ++ (op))).length : Int)) + (1))) (i.T + (0 + adt (tx) (op) + 16))) (.int ((((n).fdiv (8))).fmod (((((((tx) ++ (op))).length : Int)) + (1))))) 1,
  spLen (.str (((tx) ++ (op))) (atok (tx) (op) (i.τ 0 3) (i.τ 0 5) (i.T + 0))) ((((tx) ++ (op))).length : Int),
  spV (II "int.__add__" (((((tx) ++ (op))).length : Int)) (i.T + (0 + adt (tx) (op) + 20)) (1) (i.T + (0 + adt (tx) (op) + 21))) (.int ((((((tx) ++ (op))).length : Int)) + (1))) 1,
  spV (II "int.__floordiv__" (((n).fdiv (8))) (i.T + (0 + adt (tx) (op) + 10)) (((((((tx) ++ (op))).length : Int)) + (1))) (i.T + (0 + adt (tx) (op) + 22))) (.int ((((n).fdiv (8))).fdiv (((((((tx) ++ (op))).length : Int)) + (1))))) 1,
  spV (II "int.__mod__" (((((n).fdiv (8))).fdiv (((((((tx) ++ (op))).length : Int)) + (1))))) (i.T + (0 + adt (tx) (op) + 23)) (8) (i.T + (0 + adt (tx) (op) + 24))) (.int ((((((n).fdiv (8))).fdiv (((((((tx) ++ (op))).length : Int)) + (1))))).fmod (8))) 1,
  spV (callB "str.__getitem__" [.str (⟨⟨[40, 91, 123, 41, 93, 125, 32, 97]⟩⟩) (i.T + (0 + adt (tx) (op) + 18)), .int (((((((n).fdiv (8))).fdiv (((((((tx) ++ (op))).length : Int)) + (1))))).fmod (8))) (i.T + (0 + adt (tx) (op) + 25))]) (.str ⟨⟨[c1]⟩⟩) 1,
  spV (II "int.__eq__" (((n).fmod (8))) (i.T + (0 + adt (tx) (op) + 5)) (4) (i.T + (0 + adt (tx) (op) + 29))) (.bool false) 0,
  spV (II "int.__eq__" (((n).fmod (8))) (i.T + (0 + adt (tx) (op) + 5)) (5) (i.T + (0 + adt (tx) (op) + 30))) (.bool false) 0,
  spV (II "int.__eq__" (((n).fmod (8))) (i.T + (0 + adt (tx) (op) + 5)) (6) (i.T + (0 + adt (tx) (op) + 31))) (.bool false) 0,
  spV (II "int.__eq__" (((n).fmod (8))) (i.T + (0 + adt (tx) (op) + 5)) (7) (i.T + (0 + adt (tx) (op) + 32))) (.bool false) 0]
noncomputable def TXzo_e (q : Qd) (A : LA) (z it li nb : Addr) (tx op : Str) (x : Option (Int × Int)) (k : Nat) (ys : Array Value) (ns : Array Value) (n : Int) (tn : Tok) (m : Nat) (c1 : Nat) (i : In) : SE := ⟨.pure (.done (.ret (.str (((tx) ++ (op))) (atok (tx) (op) (i.τ 0 3) (i.τ 0 5) (i.T + 0))))), none, [], ([(nb, .arr c_list ns)] : DM), []⟩
theorem TXzo_r (q : Qd) (A : LA) (z it li nb : Addr) (tx op : Str) (x : Option (Int × Int)) (k : Nat) (ys : Array Value) (ns : Array Value) (n : Int) (tn : Tok) (m : Nat) (c1 : Nat)  : RunsC (K4 q) ([cLawB q.P A, cCaller]) (TXzo_a q A z it li nb tx op x k ys ns n tn m c1) (TXzo_s q A z it li nb tx op x k ys ns n tn m c1) (fun _ => []) (TXzo_e q A z it li nb tx op x k ys ns n tn m c1) := by
  intro W i; obtain ⟨w, s₀, b1, b2⟩ := q; cases b1 <;> cases x <;> (kernel_rfl)
theorem TXzo {q : Qd} (Y : Sys (K4 q)) (A : LA) (z it li nb : Addr) (tx op : Str) (x : Option (Int × Int)) (k : Nat) (ys : Array Value) (ns : Array Value) (n : Int) (tn : Tok) (m : Nat) (c1 : Nat)  (h0 : ys[k]? = none) (h1 : ((tx) ++ (op)).length ≤ sizeLine) (h2 : ns.size = (m + 1)) (h3 : (((m + 1) : Nat) : Int) < 2 ^ 63) (h4 : ItemAt ns (0) ((.int n tn))) (h5 : ((((tx) ++ (op))).length : Int) < 2 ^ 63) (h6 : CharAt (⟨⟨[40, 91, 123, 41, 93, 125, 32, 97]⟩⟩ : Str) (((((((n).fdiv (8))).fdiv (((((((tx) ++ (op))).length : Int)) + (1))))).fmod (8))) c1) (h7 : ((((n).fmod (8))) == (4)) = false) (h8 : ((((n).fmod (8))) == (5)) = false) (h9 : ((((n).fmod (8))) == (6)) = false) (h10 : ((((n).fmod (8))) == (7)) = false) : SegC Y ([cLawB q.P A, cCaller]) (TXzo_a q A z it li nb tx op x k ys ns n tn m c1) (TXzo_e q A z it li nb tx op x k ys ns n tn m c1) :=
  Y.segC (TXzo_r q A z it li nb tx op x k ys ns n tn m c1 ) (show List.Nodup [13] by decide) (fun i hN => .cons (ok_end _ _ _ _ _ _ _ h0) (.cons (ok_add _ _ _ _ h1) (.cons (ok_lenB _ _ _ _ _ h2 h3) (.cons (ok_item _ _ _ _ _ _ _ h4) (.cons (okv (sok_mod _ _ _ _ (by decide))) (.cons (ok_lenB _ _ _ _ _ h2 h3) (.cons (ok_item _ _ _ _ _ _ _ h4) (.cons (okv (sok_div _ _ _ _ (by decide) (div_small _ _ (by decide)))) (.cons (ok_len_str _ _ h5) (.cons (okv (sok_add _ _ _ _ )) (.cons (okv (sok_mod _ _ _ _ (dv_ne _))) (.cons (ok_len_str _ _ h5) (.cons (okv (sok_add _ _ _ _ )) (.cons (okv (sok_div _ _ _ _ (dv_ne _) (dv_small _ _ h5))) (.cons (okv (sok_mod _ _ _ _ (by decide))) (.cons (okv (sok_sget _ _ _ _ _ h6)) (.cons (okv (h7 ▸ sok_eq _ _ _ _)) (.cons (okv (h8 ▸ sok_eq _ _ _ _)) (.cons (okv (h9 ▸ sok_eq _ _ _ _)) (.cons (okv (h10 ▸ sok_eq _ _ _ _)) (AllOk.nil)))))))))))))))))))))
noncomputable def TXz4_a (q : Qd) (A : LA) (z it li nb : Addr) (tx op : Str) (x : Option (Int × Int)) (k : Nat) (ys : Array Value) (ns : Array Value) (n : Int) (tn : Tok) (m : Nat) (c1 : Nat) (y2 : Str) (y3 : Str) (w2 : Bool) (w3 : Bool) : SG := ⟨245, denF (cTf q.P z it), cTf q.P z it, fsT q.P z, txF z nb tx op x ++ (lpD it li k ys ++ [(nb, .arr c_list ns)]), [], hz 118 0x95d94d93dbb92db91daa90daaaaa0001000000100000010000000008fd8ed8dd8cd8bd6ff68ad89d88d6ff6666600010000001000000100000000087d86d555285d55284d83d555282d5522281d22080d1, [15]⟩
noncomputable def TXz4_s (q : Qd) (A : LA) (z it li nb : Addr) (tx op : Str) (x : Option (Int × Int)) (k : Nat) (ys : Array Value) (ns : Array Value) (n : Int) (tn : Tok) (m : Nat) (c1 : Nat) (y2 : Str) (y3 : Str) (w2 : Bool) (w3 : Bool) (i : In) : List Spec := [spEnd it li 1 2 ys (i.ν 2).n (k : Nat),
  spAdd (tx) (i.τ 0 3) (op) (i.τ 0 5),
  spLenB nb 5 ns (i.ν 3).n (m + 1),
  spItem nb 5 ns (i.ν 3).n (0) (i.T + (0 + adt (tx) (op) + 3)) ((.int n tn)),
  spV (II "int.__mod__" (n) tn (8) (i.T + (0 + adt (tx) (op) + 4))) (.int ((n).fmod (8))) 1,
  spLenB nb 5 ns (i.ν 3).n (m + 1),
  spItem nb 5 ns (i.ν 3).n (0) (i.T + (0 + adt (tx) (op) + 8)) ((.int n tn)),
  spV (II "int.__floordiv__" (n) tn (8) (i.T + (0 + adt (tx) (op) + 9))) (.int ((n).fdiv (8))) 1,
  spLen (.str (((tx) ++ (op))) (atok (tx) (op) (i.τ 0 3) (i.τ 0 5) (i.T + 0))) ((((tx) ++ (op))).length : Int),
  spV (II "int.__add__" (((((tx) ++ (op))).length : Int)) (i.T + (0 + adt (tx) (op) + 14)) (1) (i.T + (0 + adt (tx) (op) + 15))) (.int ((((((tx) ++ (op))).length : Int)) + (1))) 1,
  spV (II "int.__mod__" (((n).fdiv (8))) (i.T + (0 + adt (tx) (op) + 10)) (((((((tx) ++ (op))).length : Int)) + (1))) (i.T + (0 + adt (tx) (op) + 16))) (.int ((((n).fdiv (8))).fmod (((((((tx) ++ (op))).length : Int)) + (1))))) 1,
  spLen (.str (((tx) ++ (op))) (atok (tx) (op) (i.τ 0 3) (i.τ 0 5) (i.T + 0))) ((((tx) ++ (op))).length : Int),
  spV (II "int.__add__" (((((tx) ++ (op))).length : Int)) (i.T + (0 + adt (tx) (op) + 20)) (1) (i.T + (0 + adt (tx) (op) + 21))) (.int ((((((tx) ++ (op))).length : Int)) + (1))) 1,
  spV (II "int.__floordiv__" (((n).fdiv (8))) (i.T + (0 + adt (tx) (op) + 10)) (((((((tx) ++ (op))).length : Int)) + (1))) (i.T + (0 + adt (tx) (op) + 22))) (.int ((((n).fdiv (8))).fdiv (((((((tx) ++ (op))).length : Int)) + (1))))) 1,
  spV (II "int.__mod__" (((((n).fdiv (8))).fdiv (((((((tx) ++ (op))).length : Int)) + (1))))) (i.T + (0 + adt (tx) (op) + 23)) (8) (i.T + (0 + adt (tx) (op) + 24))) (.int ((((((n).fdiv (8))).fdiv (((((((tx) ++ (op))).length : Int)) + (1))))).fmod (8))) 1,
  spV (callB "str.__getitem__" [.str (⟨⟨[40, 91, 123, 41, 93, 125, 32, 97]⟩⟩) (i.T + (0 + adt (tx) (op) + 18)), .int (((((((n).fdiv (8))).fdiv (((((((tx) ++ (op))).length : Int)) + (1))))).fmod (8))) (i.T + (0 + adt (tx) (op) + 25))]) (.str ⟨⟨[c1]⟩⟩) 1,
  spV (II "int.__eq__" (((n).fmod (8))) (i.T + (0 + adt (tx) (op) + 5)) (4) (i.T + (0 + adt (tx) (op) + 29))) (.bool true) 0,
  spSSlice (((tx) ++ (op))) (atok (tx) (op) (i.τ 0 3) (i.τ 0 5) (i.T + 0)) (i.N + 10) 0 (.none) (.int (((((n).fdiv (8))).fmod (((((((tx) ++ (op))).length : Int)) + (1))))) (i.T + (0 + adt (tx) (op) + 17))) y2 w2,
  spAdd (y2) (wtok w2 (atok (tx) (op) (i.τ 0 3) (i.τ 0 5) (i.T + 0)) (i.T + (0 + adt (tx) (op) + 30))) (⟨⟨[c1]⟩⟩) (i.T + (0 + adt (tx) (op) + 26)),
  spV (II "int.__add__" (((((n).fdiv (8))).fmod (((((((tx) ++ (op))).length : Int)) + (1))))) (i.T + (0 + adt (tx) (op) + 17)) (1) (i.T + (0 + adt (tx) (op) + 30 + wdt w2 + 0 + adt (y2) (⟨⟨[c1]⟩⟩) + 0))) (.int ((((((n).fdiv (8))).fmod (((((((tx) ++ (op))).length : Int)) + (1))))) + (1))) 1,
  spSSlice (((tx) ++ (op))) (atok (tx) (op) (i.τ 0 3) (i.τ 0 5) (i.T + 0)) (i.N + 11) 0 (.int (((((((n).fdiv (8))).fmod (((((((tx) ++ (op))).length : Int)) + (1))))) + (1))) (i.T + (0 + adt (tx) (op) + 30 + wdt w2 + 0 + adt (y2) (⟨⟨[c1]⟩⟩) + 1))) (.none) y3 w3,
  spAdd (((y2) ++ ((⟨⟨[c1]⟩⟩) : Str))) (atok (y2) (⟨⟨[c1]⟩⟩) (wtok w2 (atok (tx) (op) (i.τ 0 3) (i.τ 0 5) (i.T + 0)) (i.T + (0 + adt (tx) (op) + 30))) (i.T + (0 + adt (tx) (op) + 26)) (i.T + (0 + adt (tx) (op) + 30 + wdt w2 + 0))) (y3) (wtok w3 (atok (tx) (op) (i.τ 0 3) (i.τ 0 5) (i.T + 0)) (i.T + (0 + adt (tx) (op) + 30 + wdt w2 + 0 + adt (y2) (⟨⟨[c1]⟩⟩) + 2)))]
noncomputable def TXz4_e (q : Qd) (A : LA) (z it li nb : Addr) (tx op : Str) (x : Option (Int × Int)) (k : Nat) (ys : Array Value) (ns : Array Value) (n : Int) (tn : Tok) (m : Nat) (c1 : Nat) (y2 : Str) (y3 : Str) (w2 : Bool) (w3 : Bool) (i : In) : SE := ⟨.pure (.done (.ret (.str (((((y2) ++ ((⟨⟨[c1]⟩⟩) : Str))) ++ (y3))) (atok (((y2) ++ ((⟨⟨[c1]⟩⟩) : Str))) (y3) (atok (y2) (⟨⟨[c1]⟩⟩) (wtok w2 (atok (tx) (op) (i.τ 0 3) (i.τ 0 5) (i.T + 0)) (i.T + (0 + adt (tx) (op) + 30))) (i.T + (0 + adt (tx) (op) + 26)) (i.T + (0 + adt (tx) (op) + 30 + wdt w2 + 0))) (wtok w3 (atok (tx) (op) (i.τ 0 3) (i.τ 0 5) (i.T + 0)) (i.T + (0 + adt (tx) (op) + 30 + wdt w2 + 0 + adt (y2) (⟨⟨[c1]⟩⟩) + 2))) (i.T + (0 + adt (tx) (op) + 30 + wdt w2 + 0 + adt (y2) (⟨⟨[c1]⟩⟩) + 2 + wdt w3 + 0)))))), none, [], ([(nb, .arr c_list ns)] : DM), []⟩
theorem TXz4_r (q : Qd) (A : LA) (z it li nb : Addr) (tx op : Str) (x : Option (Int × Int)) (k : Nat) (ys : Array Value) (ns : Array Value) (n : Int) (tn : Tok) (m : Nat) (c1 : Nat) (y2 : Str) (y3 : Str) (w2 : Bool) (w3 : Bool)  : RunsC (K4 q) ([cLawB q.P A, cCaller]) (TXz4_a q A z it li nb tx op x k ys ns n tn m c1 y2 y3 w2 w3) (TXz4_s q A z it li nb tx op x k ys ns n tn m c1 y2 y3 w2 w3) (fun _ => []) (TXz4_e q A z it li nb tx op x k ys ns n tn m c1 y2 y3 w2 w3) := by
  intro W i; obtain ⟨w, s₀, b1, b2⟩ := q; cases b1 <;> cases x <;> (kernel_rfl)
theorem TXz4 {q : Qd} (Y : Sys (K4 q)) (A : LA) (z it li nb : Addr) (tx op : Str) (x : Option (Int × Int)) (k : Nat) (ys : Array Value) (ns : Array Value) (n : Int) (tn : Tok) (m : Nat) (c1 : Nat) (y2 : Str) (y3 : Str) (w2 : Bool) (w3 : Bool)  (h0 : ys[k]? = none) (h1 : ((tx) ++ (op)).length ≤ sizeLine) (h2 : ns.size = (m + 1)) (h3 : (((m + 1) : Nat) : Int) < 2 ^ 63) (h4 : ItemAt ns (0) ((.int n tn))) (h5 : ((((tx) ++ (op))).length : Int) < 2 ^ 63) (h6 : CharAt (⟨⟨[40, 91, 123, 41, 93, 125, 32, 97]⟩⟩ : Str) (((((((n).fdiv (8))).fdiv (((((((tx) ++ (op))).length : Int)) + (1))))).fmod (8))) c1) (h7 : ((((n).fmod (8))) == (4)) = true) (h8 : SSliceL (((tx) ++ (op))) none (some (((((n).fdiv (8))).fmod (((((((tx) ++ (op))).length : Int)) + (1)))))) y2 w2) (h9 : ((y2) ++ ((⟨⟨[c1]⟩⟩ : Str) : Str)).length ≤ sizeLine) (h10 : SSliceL (((tx) ++ (op))) (some (((((((n).fdiv (8))).fmod (((((((tx) ++ (op))).length : Int)) + (1))))) + (1)))) none y3 w3) (h11 : ((((y2) ++ ((⟨⟨[c1]⟩⟩ : Str) : Str))) ++ (y3)).length ≤ sizeLine) : SegC Y ([cLawB q.P A, cCaller]) (TXz4_a q A z it li nb tx op x k ys ns n tn m c1 y2 y3 w2 w3) (TXz4_e q A z it li nb tx op x k ys ns n tn m c1 y2 y3 w2 w3) :=
  Y.segC (TXz4_r q A z it li nb tx op x k ys ns n tn m c1 y2 y3 w2 w3 ) (show List.Nodup [15] by decide) (fun i hN => .cons (ok_end _ _ _ _ _ _ _ h0) (.cons (ok_add _ _ _ _ h1) (.cons (ok_lenB _ _ _ _ _ h2 h3) (.cons (ok_item _ _ _ _ _ _ _ h4) (.cons (okv (sok_mod _ _ _ _ (by decide))) (.cons (ok_lenB _ _ _ _ _ h2 h3) (.cons (ok_item _ _ _ _ _ _ _ h4) (.cons (okv (sok_div _ _ _ _ (by decide) (div_small _ _ (by decide)))) (.cons (ok_len_str _ _ h5) (.cons (okv (sok_add _ _ _ _ )) (.cons (okv (sok_mod _ _ _ _ (dv_ne _))) (.cons (ok_len_str _ _ h5) (.cons (okv (sok_add _ _ _ _ )) (.cons (okv (sok_div _ _ _ _ (dv_ne _) (dv_small _ _ h5))) (.cons (okv (sok_mod _ _ _ _ (by decide))) (.cons (okv (sok_sget _ _ _ _ _ h6)) (.cons (okv (h7 ▸ sok_eq _ _ _ _)) (.cons (ok_ssliceL _ _ _ _ _ _ _ _ (by rfl) (by rfl) h8) (.cons (ok_add _ _ _ _ h9) (.cons (okv (sok_add _ _ _ _ )) (.cons (ok_ssliceL _ _ _ _ _ _ _ _ (by rfl) (by rfl) h10) (.cons (ok_add _ _ _ _ h11) (AllOk.nil)))))))))))))))))))))))
noncomputable def TXz5_a (q : Qd) (A : LA) (z it li nb : Addr) (tx op : Str) (x : Option (Int × Int)) (k : Nat) (ys : Array Value) (ns : Array Value) (n : Int) (tn : Tok) (m : Nat) (c1 : Nat) (y2 : Str) (y3 : Str) (w2 : Bool) (w3 : Bool) : SG := ⟨251, denF (cTf q.P z it), cTf q.P z it, fsT q.P z, txF z nb tx op x ++ (lpD it li k ys ++ [(nb, .arr c_list ns)]), [], hz 120 0x96d95d94dbb93db92daa91da90daaaaa0001000000100000010000000008fd8ed8dd8cd8bd6ff68ad89d88d6ff6666600010000001000000100000000087d86d555285d55284d83d555282d5522281d22080d1, [15]⟩
noncomputable def TXz5_s (q : Qd) (A : LA) (z it li nb : Addr) (tx op : Str) (x : Option (Int × Int)) (k : Nat) (ys : Array Value) (ns : Array Value) (n : Int) (tn : Tok) (m : Nat) (c1 : Nat) (y2 : Str) (y3 : Str) (w2 : Bool) (w3 : Bool) (i : In) : List Spec := [spEnd it li 1 2 ys (i.ν 2).n (k : Nat),
  spAdd (tx) (i.τ 0 3) (op) (i.τ 0 5),
  spLenB nb 5 ns (i.ν 3).n (m + 1),
  spItem nb 5 ns (i.ν 3).n (0) (i.T + (0 + adt (tx) (op) + 3)) ((.int n tn)),
  spV (II "int.__mod__" (n) tn (8) (i.T + (0 + adt (tx) (op) + 4))) (.int ((n).fmod (8))) 1,
  spLenB nb 5 ns (i.ν 3).n (m + 1),
  spItem nb 5 ns (i.ν 3).n (0) (i.T + (0 + adt (tx) (op) + 8)) ((.int n tn)),
  spV (II "int.__floordiv__" (n) tn (8) (i.T + (0 + adt (tx) (op) + 9))) (.int ((n).fdiv (8))) 1,
  spLen (.str (((tx) ++ (op))) (atok (tx) (op) (i.τ 0 3) (i.τ 0 5) (i.T + 0))) ((((tx) ++ (op))).length : Int),
  spV (II "int.__add__" (((((tx) ++ (op))).length : Int)) (i.T + (0 + adt (tx) (op) + 14)) (1) (i.T + (0 + adt (tx) (op) + 15))) (.int ((((((tx) ++ (op))).length : Int)) + (1))) 1,
  spV (II "int.__mod__" (((n).fdiv (8))) (i.T + (0 + adt (tx) (op) + 10)) (((((((tx) ++ (op))).length : Int)) + (1))) (i.T + (0 + adt (tx) (op) + 16))) (.int ((((n).fdiv (8))).fmod (((((((tx) ++ (op))).length : Int)) + (1))))) 1,
  spLen (.str (((tx) ++ (op))) (atok (tx) (op) (i.τ 0 3) (i.τ 0 5) (i.T + 0))) ((((tx) ++ (op))).length : Int),
  spV (II "int.__add__" (((((tx) ++ (op))).length : Int)) (i.T + (0 + adt (tx) (op) + 20)) (1) (i.T + (0 + adt (tx) (op) + 21))) (.int ((((((tx) ++ (op))).length : Int)) + (1))) 1,
  spV (II "int.__floordiv__" (((n).fdiv (8))) (i.T + (0 + adt (tx) (op) + 10)) (((((((tx) ++ (op))).length : Int)) + (1))) (i.T + (0 + adt (tx) (op) + 22))) (.int ((((n).fdiv (8))).fdiv (((((((tx) ++ (op))).length : Int)) + (1))))) 1,
  spV (II "int.__mod__" (((((n).fdiv (8))).fdiv (((((((tx) ++ (op))).length : Int)) + (1))))) (i.T + (0 + adt (tx) (op) + 23)) (8) (i.T + (0 + adt (tx) (op) + 24))) (.int ((((((n).fdiv (8))).fdiv (((((((tx) ++ (op))).length : Int)) + (1))))).fmod (8))) 1,
  spV (callB "str.__getitem__" [.str (⟨⟨[40, 91, 123, 41, 93, 125, 32, 97]⟩⟩) (i.T + (0 + adt (tx) (op) + 18)), .int (((((((n).fdiv (8))).fdiv (((((((tx) ++ (op))).length : Int)) + (1))))).fmod (8))) (i.T + (0 + adt (tx) (op) + 25))]) (.str ⟨⟨[c1]⟩⟩) 1,
  spV (II "int.__eq__" (((n).fmod (8))) (i.T + (0 + adt (tx) (op) + 5)) (4) (i.T + (0 + adt (tx) (op) + 29))) (.bool false) 0,
  spV (II "int.__eq__" (((n).fmod (8))) (i.T + (0 + adt (tx) (op) + 5)) (5) (i.T + (0 + adt (tx) (op) + 30))) (.bool true) 0,
  spSSlice (((tx) ++ (op))) (atok (tx) (op) (i.τ 0 3) (i.τ 0 5) (i.T + 0)) (i.N + 10) 0 (.none) (.int (((((n).fdiv (8))).fmod (((((((tx) ++ (op))).length : Int)) + (1))))) (i.T + (0 + adt (tx) (op) + 17))) y2 w2,
  spAdd (y2) (wtok w2 (atok (tx) (op) (i.τ 0 3) (i.τ 0 5) (i.T + 0)) (i.T + (0 + adt (tx) (op) + 31))) (⟨⟨[c1]⟩⟩) (i.T + (0 + adt (tx) (op) + 26)),
  spV (II "int.__add__" (((((n).fdiv (8))).fmod (((((((tx) ++ (op))).length : Int)) + (1))))) (i.T + (0 + adt (tx) (op) + 17)) (1) (i.T + (0 + adt (tx) (op) + 31 + wdt w2 + 0 + adt (y2) (⟨⟨[c1]⟩⟩) + 0))) (.int ((((((n).fdiv (8))).fmod (((((((tx) ++ (op))).length : Int)) + (1))))) + (1))) 1,
  spSSlice (((tx) ++ (op))) (atok (tx) (op) (i.τ 0 3) (i.τ 0 5) (i.T + 0)) (i.N + 11) 0 (.int (((((((n).fdiv (8))).fmod (((((((tx) ++ (op))).length : Int)) + (1))))) + (1))) (i.T + (0 + adt (tx) (op) + 31 + wdt w2 + 0 + adt (y2) (⟨⟨[c1]⟩⟩) + 1))) (.none) y3 w3,
  spAdd (((y2) ++ ((⟨⟨[c1]⟩⟩) : Str))) (atok (y2) (⟨⟨[c1]⟩⟩) (wtok w2 (atok (tx) (op) (i.τ 0 3) (i.τ 0 5) (i.T + 0)) (i.T + (0 + adt (tx) (op) + 31))) (i.T + (0 + adt (tx) (op) + 26)) (i.T + (0 + adt (tx) (op) + 31 + wdt w2 + 0))) (y3) (wtok w3 (atok (tx) (op) (i.τ 0 3) (i.τ 0 5) (i.T + 0)) (i.T + (0 + adt (tx) (op) + 31 + wdt w2 + 0 + adt (y2) (⟨⟨[c1]⟩⟩) + 2)))]
noncomputable def TXz5_e (q : Qd) (A : LA) (z it li nb : Addr) (tx op : Str) (x : Option (Int × Int)) (k : Nat) (ys : Array Value) (ns : Array Value) (n : Int) (tn : Tok) (m : Nat) (c1 : Nat) (y2 : Str) (y3 : Str) (w2 : Bool) (w3 : Bool) (i : In) : SE := ⟨.pure (.done (.ret (.str (((((y2) ++ ((⟨⟨[c1]⟩⟩) : Str))) ++ (y3))) (atok (((y2) ++ ((⟨⟨[c1]⟩⟩) : Str))) (y3) (atok (y2) (⟨⟨[c1]⟩⟩) (wtok w2 (atok (tx) (op) (i.τ 0 3) (i.τ 0 5) (i.T + 0)) (i.T + (0 + adt (tx) (op) + 31))) (i.T + (0 + adt (tx) (op) + 26)) (i.T + (0 + adt (tx) (op) + 31 + wdt w2 + 0))) (wtok w3 (atok (tx) (op) (i.τ 0 3) (i.τ 0 5) (i.T + 0)) (i.T + (0 + adt (tx) (op) + 31 + wdt w2 + 0 + adt (y2) (⟨⟨[c1]⟩⟩) + 2))) (i.T + (0 + adt (tx) (op) + 31 + wdt w2 + 0 + adt (y2) (⟨⟨[c1]⟩⟩) + 2 + wdt w3 + 0)))))), none, [], ([(nb, .arr c_list ns)] : DM), []⟩
theorem TXz5_r (q : Qd) (A : LA) (z it li nb : Addr) (tx op : Str) (x : Option (Int × Int)) (k : Nat) (ys : Array Value) (ns : Array Value) (n : Int) (tn : Tok) (m : Nat) (c1 : Nat) (y2 : Str) (y3 : Str) (w2 : Bool) (w3 : Bool)  : RunsC (K4 q) ([cLawB q.P A, cCaller]) (TXz5_a q A z it li nb tx op x k ys ns n tn m c1 y2 y3 w2 w3) (TXz5_s q A z it li nb tx op x k ys ns n tn m c1 y2 y3 w2 w3) (fun _ => []) (TXz5_e q A z it li nb tx op x k ys ns n tn m c1 y2 y3 w2 w3) := by
  intro W i; obtain ⟨w, s₀, b1, b2⟩ := q; cases b1 <;> cases x <;> (kernel_rfl)
theorem TXz5 {q : Qd} (Y : Sys (K4 q)) (A : LA) (z it li nb : Addr) (tx op : Str) (x : Option (Int × Int)) (k : Nat) (ys : Array Value) (ns : Array Value) (n : Int) (tn : Tok) (m : Nat) (c1 : Nat) (y2 : Str) (y3 : Str) (w2 : Bool) (w3 : Bool)  (h0 : ys[k]? = none) (h1 : ((tx) ++ (op)).length ≤ sizeLine) (h2 : ns.size = (m + 1)) (h3 : (((m + 1) : Nat) : Int) < 2 ^ 63) (h4 : ItemAt ns (0) ((.int n tn))) (h5 : ((((tx) ++ (op))).length : Int) < 2 ^ 63) (h6 : CharAt (⟨⟨[40, 91, 123, 41, 93, 125, 32, 97]⟩⟩ : Str) (((((((n).fdiv (8))).fdiv (((((((tx) ++ (op))).length : Int)) + (1))))).fmod (8))) c1) (h7 : ((((n).fmod (8))) == (4)) = false) (h8 : ((((n).fmod (8))) == (5)) = true) (h9 : SSliceL (((tx) ++ (op))) none (some (((((n).fdiv (8))).fmod (((((((tx) ++ (op))).length : Int)) + (1)))))) y2 w2) (h10 : ((y2) ++ ((⟨⟨[c1]⟩⟩ : Str) : Str)).length ≤ sizeLine) (h11 : SSliceL (((tx) ++ (op))) (some (((((((n).fdiv (8))).fmod (((((((tx) ++ (op))).length : Int)) + (1))))) + (1)))) none y3 w3) (h12 : ((((y2) ++ ((⟨⟨[c1]⟩⟩ : Str) : Str))) ++ (y3)).length ≤ sizeLine) : SegC Y ([cLawB q.P A, cCaller]) (TXz5_a q A z it li nb tx op x k ys ns n tn m c1 y2 y3 w2 w3) (TXz5_e q A z it li nb tx op x k ys ns n tn m c1 y2 y3 w2 w3) :=
  Y.segC (TXz5_r q A z it li nb tx op x k ys ns n tn m c1 y2 y3 w2 w3 ) (show List.Nodup [15] by decide) (fun i hN => .cons (ok_end _ _ _ _ _ _ _ h0) (.cons (ok_add _ _ _ _ h1) (.cons (ok_lenB _ _ _ _ _ h2 h3) (.cons (ok_item _ _ _ _ _ _ _ h4) (.cons (okv (sok_mod _ _ _ _ (by decide))) (.cons (ok_lenB _ _ _ _ _ h2 h3) (.cons (ok_item _ _ _ _ _ _ _ h4) (.cons (okv (sok_div _ _ _ _ (by decide) (div_small _ _ (by decide)))) (.cons (ok_len_str _ _ h5) (.cons (okv (sok_add _ _ _ _ )) (.cons (okv (sok_mod _ _ _ _ (dv_ne _))) (.cons (ok_len_str _ _ h5) (.cons (okv (sok_add _ _ _ _ )) (.cons (okv (sok_div _ _ _ _ (dv_ne _) (dv_small _ _ h5))) (.cons (okv (sok_mod _ _ _ _ (by decide))) (.cons (okv (sok_sget _ _ _ _ _ h6)) (.cons (okv (h7 ▸ sok_eq _ _ _ _)) (.cons (okv (h8 ▸ sok_eq _ _ _ _)) (.cons (ok_ssliceL _ _ _ _ _ _ _ _ (by rfl) (by rfl) h9) (.cons (ok_add _ _ _ _ h10) (.cons (okv (sok_add _ _ _ _ )) (.cons (ok_ssliceL _ _ _ _ _ _ _ _ (by rfl) (by rfl) h11) (.cons (ok_add _ _ _ _ h12) (AllOk.nil))))))))))))))))))))))))
noncomputable def TXz6_a (q : Qd) (A : LA) (z it li nb : Addr) (tx op : Str) (x : Option (Int × Int)) (k : Nat) (ys : Array Value) (ns : Array Value) (n : Int) (tn : Tok) (m : Nat) (c1 : Nat) (y2 : Str) (y3 : Str) (w2 : Bool) (w3 : Bool) : SG := ⟨253, denF (cTf q.P z it), cTf q.P z it, fsT q.P z, txF z nb tx op x ++ (lpD it li k ys ++ [(nb, .arr c_list ns)]), [], hz 120 0x96d95d94dbb93daa92da91da90daaaaa0001000000100000010000000008fd8ed8dd8cd8bd6ff68ad89d88d6ff6666600010000001000000100000000087d86d555285d55284d83d555282d5522281d22080d1, [15]⟩
noncomputable def TXz6_s (q : Qd) (A : LA) (z it li nb : Addr) (tx op : Str) (x : Option (Int × Int)) (k : Nat) (ys : Array Value) (ns : Array Value) (n : Int) (tn : Tok) (m : Nat) (c1 : Nat) (y2 : Str) (y3 : Str) (w2 : Bool) (w3 : Bool) (i : In) : List Spec := [spEnd it li 1 2 ys (i.ν 2).n (k : Nat),
  spAdd (tx) (i.τ 0 3) (op) (i.τ 0 5),
  spLenB nb 5 ns (i.ν 3).n (m + 1),
  spItem nb 5 ns (i.ν 3).n (0) (i.T + (0 + adt (tx) (op) + 3)) ((.int n tn)),
  spV (II "int.__mod__" (n) tn (8) (i.T + (0 + adt (tx) (op) + 4))) (.int ((n).fmod (8))) 1,
  spLenB nb 5 ns (i.ν 3).n (m + 1),
  spItem nb 5 ns (i.ν 3).n (0) (i.T + (0 + adt (tx) (op) + 8)) ((.int n tn)),
  spV (II "int.__floordiv__" (n) tn (8) (i.T + (0 + adt (tx) (op) + 9))) (.int ((n).fdiv (8))) 1,
  spLen (.str (((tx) ++ (op))) (atok (tx) (op) (i.τ 0 3) (i.τ 0 5) (i.T + 0))) ((((tx) ++ (op))).length : Int),
  spV (II "int.__add__" (((((tx) ++ (op))).length : Int)) (i.T + (0 + adt (tx) (op) + 14)) (1) (i.T + (0 + adt (tx) (op) + 15))) (.int ((((((tx) ++ (op))).length : Int)) + (1))) 1,
  spV (II "int.__mod__" (((n).fdiv (8))) (i.T + (0 + adt (tx) (op) + 10)) (((((((tx) ++ (op))).length : Int)) + (1))) (i.T + (0 + adt (tx) (op) + 16))) (.int ((((n).fdiv (8))).fmod (((((((tx) ++ (op))).length : Int)) + (1))))) 1,
  spLen (.str (((tx) ++ (op))) (atok (tx) (op) (i.τ 0 3) (i.τ 0 5) (i.T + 0))) ((((tx) ++ (op))).length : Int),
  spV (II "int.__add__" (((((tx) ++ (op))).length : Int)) (i.T + (0 + adt (tx) (op) + 20)) (1) (i.T + (0 + adt (tx) (op) + 21))) (.int ((((((tx) ++ (op))).length : Int)) + (1))) 1,
  spV (II "int.__floordiv__" (((n).fdiv (8))) (i.T + (0 + adt (tx) (op) + 10)) (((((((tx) ++ (op))).length : Int)) + (1))) (i.T + (0 + adt (tx) (op) + 22))) (.int ((((n).fdiv (8))).fdiv (((((((tx) ++ (op))).length : Int)) + (1))))) 1,
  spV (II "int.__mod__" (((((n).fdiv (8))).fdiv (((((((tx) ++ (op))).length : Int)) + (1))))) (i.T + (0 + adt (tx) (op) + 23)) (8) (i.T + (0 + adt (tx) (op) + 24))) (.int ((((((n).fdiv (8))).fdiv (((((((tx) ++ (op))).length : Int)) + (1))))).fmod (8))) 1,
  spV (callB "str.__getitem__" [.str (⟨⟨[40, 91, 123, 41, 93, 125, 32, 97]⟩⟩) (i.T + (0 + adt (tx) (op) + 18)), .int (((((((n).fdiv (8))).fdiv (((((((tx) ++ (op))).length : Int)) + (1))))).fmod (8))) (i.T + (0 + adt (tx) (op) + 25))]) (.str ⟨⟨[c1]⟩⟩) 1,
  spV (II "int.__eq__" (((n).fmod (8))) (i.T + (0 + adt (tx) (op) + 5)) (4) (i.T + (0 + adt (tx) (op) + 29))) (.bool false) 0,
  spV (II "int.__eq__" (((n).fmod (8))) (i.T + (0 + adt (tx) (op) + 5)) (5) (i.T + (0 + adt (tx) (op) + 30))) (.bool false) 0,
  spV (II "int.__eq__" (((n).fmod (8))) (i.T + (0 + adt (tx) (op) + 5)) (6) (i.T + (0 + adt (tx) (op) + 31))) (.bool true) 0,
  spSSlice (((tx) ++ (op))) (atok (tx) (op) (i.τ 0 3) (i.τ 0 5) (i.T + 0)) (i.N + 10) 0 (.none) (.int (((((n).fdiv (8))).fmod (((((((tx) ++ (op))).length : Int)) + (1))))) (i.T + (0 + adt (tx) (op) + 17))) y2 w2,
  spV (II "int.__add__" (((((n).fdiv (8))).fmod (((((((tx) ++ (op))).length : Int)) + (1))))) (i.T + (0 + adt (tx) (op) + 17)) (1) (i.T + (0 + adt (tx) (op) + 32 + wdt w2 + 0))) (.int ((((((n).fdiv (8))).fmod (((((((tx) ++ (op))).length : Int)) + (1))))) + (1))) 1,
  spSSlice (((tx) ++ (op))) (atok (tx) (op) (i.τ 0 3) (i.τ 0 5) (i.T + 0)) (i.N + 11) 0 (.int (((((((n).fdiv (8))).fmod (((((((tx) ++ (op))).length : Int)) + (1))))) + (1))) (i.T + (0 + adt (tx) (op) + 32 + wdt w2 + 1))) (.none) y3 w3,
  spAdd (y2) (wtok w2 (atok (tx) (op) (i.τ 0 3) (i.τ 0 5) (i.T + 0)) (i.T + (0 + adt (tx) (op) + 32))) (y3) (wtok w3 (atok (tx) (op) (i.τ 0 3) (i.τ 0 5) (i.T + 0)) (i.T + (0 + adt (tx) (op) + 32 + wdt w2 + 2)))]
noncomputable def TXz6_e (q : Qd) (A : LA) (z it li nb : Addr) (tx op : Str) (x : Option (Int × Int)) (k : Nat) (ys : Array Value) (ns : Array Value) (n : Int) (tn : Tok) (m : Nat) (c1 : Nat) (y2 : Str) (y3 : Str) (w2 : Bool) (w3 : Bool) (i : In) : SE := ⟨.pure (.done (.ret (.str (((y2) ++ (y3))) (atok (y2) (y3) (wtok w2 (atok (tx) (op) (i.τ 0 3) (i.τ 0 5) (i.T + 0)) (i.T + (0 + adt (tx) (op) + 32))) (wtok w3 (atok (tx) (op) (i.τ 0 3) (i.τ 0 5) (i.T + 0)) (i.T + (0 + adt (tx) (op) + 32 + wdt w2 + 2))) (i.T + (0 + adt (tx) (op) + 32 + wdt w2 + 2 + wdt w3 + 0)))))), none, [], ([(nb, .arr c_list ns)] : DM), []⟩
theorem TXz6_r (q : Qd) (A : LA) (z it li nb : Addr) (tx op : Str) (x : Option (Int × Int)) (k : Nat) (ys : Array Value) (ns : Array Value) (n : Int) (tn : Tok) (m : Nat) (c1 : Nat) (y2 : Str) (y3 : Str) (w2 : Bool) (w3 : Bool)  : RunsC (K4 q) ([cLawB q.P A, cCaller]) (TXz6_a q A z it li nb tx op x k ys ns n tn m c1 y2 y3 w2 w3) (TXz6_s q A z it li nb tx op x k ys ns n tn m c1 y2 y3 w2 w3) (fun _ => []) (TXz6_e q A z it li nb tx op x k ys ns n tn m c1 y2 y3 w2 w3) := by
  intro W i; obtain ⟨w, s₀, b1, b2⟩ := q; cases b1 <;> cases x <;> (kernel_rfl)
theorem TXz6 {q : Qd} (Y : Sys (K4 q)) (A : LA) (z it li nb : Addr) (tx op : Str) (x : Option (Int × Int)) (k : Nat) (ys : Array Value) (ns : Array Value) (n : Int) (tn : Tok) (m : Nat) (c1 : Nat) (y2 : Str) (y3 : Str) (w2 : Bool) (w3 : Bool)  (h0 : ys[k]? = none) (h1 : ((tx) ++ (op)).length ≤ sizeLine) (h2 : ns.size = (m + 1)) (h3 : (((m + 1) : Nat) : Int) < 2 ^ 63) (h4 : ItemAt ns (0) ((.int n tn))) (h5 : ((((tx) ++ (op))).length : Int) < 2 ^ 63) (h6 : CharAt (⟨⟨[40, 91, 123, 41, 93, 125, 32, 97]⟩⟩ : Str) (((((((n).fdiv (8))).fdiv (((((((tx) ++ (op))).length : Int)) + (1))))).fmod (8))) c1) (h7 : ((((n).fmod (8))) == (4)) = false) (h8 : ((((n).fmod (8))) == (5)) = false) (h9 : ((((n).fmod (8))) == (6)) = true) (h10 : SSliceL (((tx) ++ (op))) none (some (((((n).fdiv (8))).fmod (((((((tx) ++ (op))).length : Int)) + (1)))))) y2 w2) (h11 : SSliceL (((tx) ++ (op))) (some (((((((n).fdiv (8))).fmod (((((((tx) ++ (op))).length : Int)) + (1))))) + (1)))) none y3 w3) (h12 : ((y2) ++ (y3)).length ≤ sizeLine) : SegC Y ([cLawB q.P A, cCaller]) (TXz6_a q A z it li nb tx op x k ys ns n tn m c1 y2 y3 w2 w3) (TXz6_e q A z it li nb tx op x k ys ns n tn m c1 y2 y3 w2 w3) :=
  Y.segC (TXz6_r q A z it li nb tx op x k ys ns n tn m c1 y2 y3 w2 w3 ) (show List.Nodup [15] by decide) (fun i hN => .cons (ok_end _ _ _ _ _ _ _ h0) (.cons (ok_add _ _ _ _ h1) (.cons (ok_lenB _ _ _ _ _ h2 h3) (.cons (ok_item _ _ _ _ _ _ _ h4) (.cons (okv (sok_mod _ _ _ _ (by decide))) (.cons (ok_lenB _ _ _ _ _ h2 h3) (.cons (ok_item _ _ _ _ _ _ _ h4) (.cons (okv (sok_div _ _ _ _ (by decide) (div_small _ _ (by decide)))) (.cons (ok_len_str _ _ h5) (.cons (okv (sok_add _ _ _ _ )) (.cons (okv (sok_mod _ _ _ _ (dv_ne _))) (.cons (ok_len_str _ _ h5) (.cons (okv (sok_add _ _ _ _ )) (.cons (okv (sok_div _ _ _ _ (dv_ne _) (dv_small _ _ h5))) (.cons (okv (sok_mod _ _ _ _ (by decide))) (.cons (okv (sok_sget _ _ _ _ _ h6)) (.cons (okv (h7 ▸ sok_eq _ _ _ _)) (.cons (okv (h8 ▸ sok_eq _ _ _ _)) (.cons (okv (h9 ▸ sok_eq _ _ _ _)) (.cons (ok_ssliceL _ _ _ _ _ _ _ _ (by rfl) (by rfl) h10) (.cons (okv (sok_add _ _ _ _ )) (.cons (ok_ssliceL _ _ _ _ _ _ _ _ (by rfl) (by rfl) h11) (.cons (ok_add _ _ _ _ h12) (AllOk.nil))))))))))))))))))))))))
noncomputable def TXz7_a (q : Qd) (A : LA) (z it li nb : Addr) (tx op : Str) (x : Option (Int × Int)) (k : Nat) (ys : Array Value) (ns : Array Value) (n : Int) (tn : Tok) (m : Nat) (c1 : Nat) (y2 : Str) (y3 : Str) (w2 : Bool) (w3 : Bool) : SG := ⟨261, denF (cTf q.P z it), cTf q.P z it, fsT q.P z, txF z nb tx op x ++ (lpD it li k ys ++ [(nb, .arr c_list ns)]), [], hz 123 0x97d96dbb95db94daa93da92da91da90daaaaa0001000000100000010000000008fd8ed8dd8cd8bd6ff68ad89d88d6ff6666600010000001000000100000000087d86d555285d55284d83d555282d5522281d22080d1, [15]⟩
noncomputable def TXz7_s (q : Qd) (A : LA) (z it li nb : Addr) (tx op : Str) (x : Option (Int × Int)) (k : Nat) (ys : Array Value) (ns : Array Value) (n : Int) (tn : Tok) (m : Nat) (c1 : Nat) (y2 : Str) (y3 : Str) (w2 : Bool) (w3 : Bool) (i : In) : List Spec := [spEnd it li 1 2 ys (i.ν 2).n (k : Nat),
  spAdd (tx) (i.τ 0 3) (op) (i.τ 0 5),
  spLenB nb 5 ns (i.ν 3).n (m + 1),
  spItem nb 5 ns (i.ν 3).n (0) (i.T + (0 + adt (tx) (op) + 3)) ((.int n tn)),
  spV (II "int.__mod__" (n) tn (8) (i.T + (0 + adt (tx) (op) + 4))) (.int ((n).fmod (8))) 1,
  spLenB nb 5 ns (i.ν 3).n (m + 1),
  spItem nb 5 ns (i.ν 3).n (0) (i.T + (0 + adt (tx) (op) + 8)) ((.int n tn)),
  spV (II "int.__floordiv__" (n) tn (8) (i.T + (0 + adt (tx) (op) + 9))) (.int ((n).fdiv (8))) 1,
  spLen (.str (((tx) ++ (op))) (atok (tx) (op) (i.τ 0 3) (i.τ 0 5) (i.T + 0))) ((((tx) ++ (op))).length : Int),
  spV (II "int.__add__" (((((tx) ++ (op))).length : Int)) (i.T + (0 + adt (tx) (op) + 14)) (1) (i.T + (0 + adt (tx) (op) + 15))) (.int ((((((tx) ++ (op))).length : Int)) + (1))) 1,
  spV (II "int.__mod__" (((n).fdiv (8))) (i.T + (0 + adt (tx) (op) + 10)) (((((((tx) ++ (op))).length : Int)) + (1))) (i.T + (0 + adt (tx) (op) + 16))) (.int ((((n).fdiv (8))).fmod (((((((tx) ++ (op))).length : Int)) + (1))))) 1,
  spLen (.str (((tx) ++ (op))) (atok (tx) (op) (i.τ 0 3) (i.τ 0 5) (i.T + 0))) ((((tx) ++ (op))).length : Int),
  spV (II "int.__add__" (((((tx) ++ (op))).length : Int)) (i.T + (0 + adt (tx) (op) + 20)) (1) (i.T + (0 + adt (tx) (op) + 21))) (.int ((((((tx) ++ (op))).length : Int)) + (1))) 1,
  spV (II "int.__floordiv__" (((n).fdiv (8))) (i.T + (0 + adt (tx) (op) + 10)) (((((((tx) ++ (op))).length : Int)) + (1))) (i.T + (0 + adt (tx) (op) + 22))) (.int ((((n).fdiv (8))).fdiv (((((((tx) ++ (op))).length : Int)) + (1))))) 1,
  spV (II "int.__mod__" (((((n).fdiv (8))).fdiv (((((((tx) ++ (op))).length : Int)) + (1))))) (i.T + (0 + adt (tx) (op) + 23)) (8) (i.T + (0 + adt (tx) (op) + 24))) (.int ((((((n).fdiv (8))).fdiv (((((((tx) ++ (op))).length : Int)) + (1))))).fmod (8))) 1,
  spV (callB "str.__getitem__" [.str (⟨⟨[40, 91, 123, 41, 93, 125, 32, 97]⟩⟩) (i.T + (0 + adt (tx) (op) + 18)), .int (((((((n).fdiv (8))).fdiv (((((((tx) ++ (op))).length : Int)) + (1))))).fmod (8))) (i.T + (0 + adt (tx) (op) + 25))]) (.str ⟨⟨[c1]⟩⟩) 1,
  spV (II "int.__eq__" (((n).fmod (8))) (i.T + (0 + adt (tx) (op) + 5)) (4) (i.T + (0 + adt (tx) (op) + 29))) (.bool false) 0,
  spV (II "int.__eq__" (((n).fmod (8))) (i.T + (0 + adt (tx) (op) + 5)) (5) (i.T + (0 + adt (tx) (op) + 30))) (.bool false) 0,
  spV (II "int.__eq__" (((n).fmod (8))) (i.T + (0 + adt (tx) (op) + 5)) (6) (i.T + (0 + adt (tx) (op) + 31))) (.bool false) 0,
  spV (II "int.__eq__" (((n).fmod (8))) (i.T + (0 + adt (tx) (op) + 5)) (7) (i.T + (0 + adt (tx) (op) + 32))) (.bool true) 0,
  spSSlice (((tx) ++ (op))) (atok (tx) (op) (i.τ 0 3) (i.τ 0 5) (i.T + 0)) (i.N + 10) 0 (.none) (.int (((((n).fdiv (8))).fmod (((((((tx) ++ (op))).length : Int)) + (1))))) (i.T + (0 + adt (tx) (op) + 17))) y2 w2,
  spAdd (y2) (wtok w2 (atok (tx) (op) (i.τ 0 3) (i.τ 0 5) (i.T + 0)) (i.T + (0 + adt (tx) (op) + 33))) (⟨⟨[c1]⟩⟩) (i.T + (0 + adt (tx) (op) + 26)),
  spSSlice (((tx) ++ (op))) (atok (tx) (op) (i.τ 0 3) (i.τ 0 5) (i.T + 0)) (i.N + 11) 0 (.int (((((n).fdiv (8))).fmod (((((((tx) ++ (op))).length : Int)) + (1))))) (i.T + (0 + adt (tx) (op) + 17))) (.none) y3 w3,
  spAdd (((y2) ++ ((⟨⟨[c1]⟩⟩) : Str))) (atok (y2) (⟨⟨[c1]⟩⟩) (wtok w2 (atok (tx) (op) (i.τ 0 3) (i.τ 0 5) (i.T + 0)) (i.T + (0 + adt (tx) (op) + 33))) (i.T + (0 + adt (tx) (op) + 26)) (i.T + (0 + adt (tx) (op) + 33 + wdt w2 + 0))) (y3) (wtok w3 (atok (tx) (op) (i.τ 0 3) (i.τ 0 5) (i.T + 0)) (i.T + (0 + adt (tx) (op) + 33 + wdt w2 + 0 + adt (y2) (⟨⟨[c1]⟩⟩) + 0)))]
noncomputable def TXz7_e (q : Qd) (A : LA) (z it li nb : Addr) (tx op : Str) (x : Option (Int × Int)) (k : Nat) (ys : Array Value) (ns : Array Value) (n : Int) (tn : Tok) (m : Nat) (c1 : Nat) (y2 : Str) (y3 : Str) (w2 : Bool) (w3 : Bool) (i : In) : SE := ⟨.pure (.done (.ret (.str (((((y2) ++ ((⟨⟨[c1]⟩⟩) : Str))) ++ (y3))) (atok (((y2) ++ ((⟨⟨[c1]⟩⟩) : Str))) (y3) (atok (y2) (⟨⟨[c1]⟩⟩) (wtok w2 (atok (tx) (op) (i.τ 0 3) (i.τ 0 5) (i.T + 0)) (i.T + (0 + adt (tx) (op) + 33))) (i.T + (0 + adt (tx) (op) + 26)) (i.T + (0 + adt (tx) (op) + 33 + wdt w2 + 0))) (wtok w3 (atok (tx) (op) (i.τ 0 3) (i.τ 0 5) (i.T + 0)) (i.T + (0 + adt (tx) (op) + 33 + wdt w2 + 0 + adt (y2) (⟨⟨[c1]⟩⟩) + 0))) (i.T + (0 + adt (tx) (op) + 33 + wdt w2 + 0 + adt (y2) (⟨⟨[c1]⟩⟩) + 0 + wdt w3 + 0)))))), none, [], ([(nb, .arr c_list ns)] : DM), []⟩
theorem TXz7_r (q : Qd) (A : LA) (z it li nb : Addr) (tx op : Str) (x : Option (Int × Int)) (k : Nat) (ys : Array Value) (ns : Array Value) (n : Int) (tn : Tok) (m : Nat) (c1 : Nat) (y2 : Str) (y3 : Str) (w2 : Bool) (w3 : Bool)  : RunsC (K4 q) ([cLawB q.P A, cCaller]) (TXz7_a q A z it li nb tx op x k ys ns n tn m c1 y2 y3 w2 w3) (TXz7_s q A z it li nb tx op x k ys ns n tn m c1 y2 y3 w2 w3) (fun _ => []) (TXz7_e q A z it li nb tx op x k ys ns n tn m c1 y2 y3 w2 w3) := by
  intro W i; obtain ⟨w, s₀, b1, b2⟩ := q; cases b1 <;> cases x <;> (kernel_rfl)
theorem TXz7 {q : Qd} (Y : Sys (K4 q)) (A : LA) (z it li nb : Addr) (tx op : Str) (x : Option (Int × Int)) (k : Nat) (ys : Array Value) (ns : Array Value) (n : Int) (tn : Tok) (m : Nat) (c1 : Nat) (y2 : Str) (y3 : Str) (w2 : Bool) (w3 : Bool)  (h0 : ys[k]? = none) (h1 : ((tx) ++ (op)).length ≤ sizeLine) (h2 : ns.size = (m + 1)) (h3 : (((m + 1) : Nat) : Int) < 2 ^ 63) (h4 : ItemAt ns (0) ((.int n tn))) (h5 : ((((tx) ++ (op))).length : Int) < 2 ^ 63) (h6 : CharAt (⟨⟨[40, 91, 123, 41, 93, 125, 32, 97]⟩⟩ : Str) (((((((n).fdiv (8))).fdiv (((((((tx) ++ (op))).length : Int)) + (1))))).fmod (8))) c1) (h7 : ((((n).fmod (8))) == (4)) = false) (h8 : ((((n).fmod (8))) == (5)) = false) (h9 : ((((n).fmod (8))) == (6)) = false) (h10 : ((((n).fmod (8))) == (7)) = true) (h11 : SSliceL (((tx) ++ (op))) none (some (((((n).fdiv (8))).fmod (((((((tx) ++ (op))).length : Int)) + (1)))))) y2 w2) (h12 : ((y2) ++ ((⟨⟨[c1]⟩⟩ : Str) : Str)).length ≤ sizeLine) (h13 : SSliceL (((tx) ++ (op))) (some (((((n).fdiv (8))).fmod (((((((tx) ++ (op))).length : Int)) + (1)))))) none y3 w3) (h14 : ((((y2) ++ ((⟨⟨[c1]⟩⟩ : Str) : Str))) ++ (y3)).length ≤ sizeLine) : SegC Y ([cLawB q.P A, cCaller]) (TXz7_a q A z it li nb tx op x k ys ns n tn m c1 y2 y3 w2 w3) (TXz7_e q A z it li nb tx op x k ys ns n tn m c1 y2 y3 w2 w3) :=
  Y.segC (TXz7_r q A z it li nb tx op x k ys ns n tn m c1 y2 y3 w2 w3 ) (show List.Nodup [15] by decide) (fun i hN => .cons (ok_end _ _ _ _ _ _ _ h0) (.cons (ok_add _ _ _ _ h1) (.cons (ok_lenB _ _ _ _ _ h2 h3) (.cons (ok_item _ _ _ _ _ _ _ h4) (.cons (okv (sok_mod _ _ _ _ (by decide))) (.cons (ok_lenB _ _ _ _ _ h2 h3) (.cons (ok_item _ _ _ _ _ _ _ h4) (.cons (okv (sok_div _ _ _ _ (by decide) (div_small _ _ (by decide)))) (.cons (ok_len_str _ _ h5) (.cons (okv (sok_add _ _ _ _ )) (.cons (okv (sok_mod _ _ _ _ (dv_ne _))) (.cons (ok_len_str _ _ h5) (.cons (okv (sok_add _ _ _ _ )) (.cons (okv (sok_div _ _ _ _ (dv_ne _) (dv_small _ _ h5))) (.cons (okv (sok_mod _ _ _ _ (by decide))) (.cons (okv (sok_sget _ _ _ _ _ h6)) (.cons (okv (h7 ▸ sok_eq _ _ _ _)) (.cons (okv (h8 ▸ sok_eq _ _ _ _)) (.cons (okv (h9 ▸ sok_eq _ _ _ _)) (.cons (okv (h10 ▸ sok_eq _ _ _ _)) (.cons (ok_ssliceL _ _ _ _ _ _ _ _ (by rfl) (by rfl) h11) (.cons (ok_add _ _ _ _ h12) (.cons (ok_ssliceL _ _ _ _ _ _ _ _ (by rfl) (by rfl) h13) (.cons (ok_add _ _ _ _ h14) (AllOk.nil)))))))))))))))))))))))))
end Mine
end
section
set_option maxRecDepth 100000
set_option maxHeartbeats 0
namespace Mine
open PySem PySem.W PySem.W.X
noncomputable def c_zip : String := PySem.W.SZ.s14339709457334898076x3
noncomputable def zipO (x : Value) (a b : Addr) : Obj := ⟨.type c_zip, none, .fields ⟨[x, .bool false, .bool false, .ref a, .ref b]⟩, #[]⟩
theorem own_trueZ (r u a b : Addr) : loadK (letOwnedTupleGo tupT (.ref r) (.ref u)) (zipO (rawInt u) a b) = (do rule "for.unpacks-the-owned-tuple"; updateField r 0 .none : Sem Unit) := by
  show (if (_ && (some (rawInt u) == some (rawInt u))) = true then _ else _) = _
  have h1 : (some (rawInt u) == some (rawInt u)) = true := by simp
  rw [h1]
  exact if_pos (by decide)
noncomputable def oNxZ (V : V) (c : Code) (r : Addr) : Out := run V 3 (denF c) c default [] [(r, zipO .none 0 0)] 0 0 [] 0 [.o 0] []
noncomputable def rNxZ (V : V) (c : Code) (r : Addr) : RF := rfOf (oNxZ V c r).fs
noncomputable def tUxZ (V : V) (c : Code) (r u : Addr) : Sem Fin := (run V 1 ((rNxZ V c r).k (.ok (.ret (.ref u)))) c default [] [(r, zipO .none 0 0)] 0 0 [] 0 [.o 0] []).t
noncomputable def OwnOkZ (kk : Sem Fin) (r u : Addr) (t : Sem Fin) : Prop := ∃ K, kk = .load r none K ∧ ∀ a b, ∃ K2 pt f, K (zipO (rawInt u) a b) = .rule "for.unpacks-the-owned-tuple" (fun _ => .load r none K2) ∧
  K2 (zipO (rawInt u) a b) = .update r pt f (fun _ => t) ∧ f (zipO (rawInt u) a b) = zipO .none a b
theorem own_compZ (V : V) (elt iter : Expr) (el : List Expr) (cx : Nat) (p : Pos) (ifs : List Expr) (gs : List Comprehension) (sc : Scope) (p2 : Pos) (r u : Addr) (acc : Value) (env : Env) :
    OwnOkZ ((rNxZ V (.compLoop (.ListComp elt (⟨.Tuple el cx p, iter, ifs, 0⟩ :: gs) sc p2) 0 (.ref r) acc env) r).k (.ok (.ret (.ref u)))) r u (tUxZ V (.compLoop (.ListComp elt (⟨.Tuple el cx p, iter, ifs, 0⟩ :: gs) sc p2) 0 (.ref r) acc env) r u) := by
  obtain ⟨rest, h⟩ := comp_shape elt (.Tuple el cx p) iter ifs gs sc p2 (.ref r) acc env
  have e : denF (.compLoop (.ListComp elt (⟨.Tuple el cx p, iter, ifs, 0⟩ :: gs) sc p2) 0 (.ref r) acc env) = (compTurn (.ListComp elt (⟨.Tuple el cx p, iter, ifs, 0⟩ :: gs) sc p2) 0 (.ref r) acc env).onRaise (fun x => do noteFrame x env; theTreesLotGoes x) := by
    rw [← denF_eq]
    rfl
  unfold tUxZ rNxZ oNxZ
  rw [e, h]
  refine ⟨fun o => (loadK (letOwnedTupleGo tupT (.ref r) (.ref u)) o >>= rest (.ref u)).onRaise (fun x => do noteFrame x env; theTreesLotGoes x), by kernel_rfl, fun a b =>
    ⟨fun o => ((loadK (updateField r 0 .none)) o >>= rest (.ref u)).onRaise (fun x => do noteFrame x env; theTreesLotGoes x), none, Obj.mapFields (·.setIfInBounds 0 .none), ?_, by kernel_rfl, by kernel_rfl⟩⟩
  show (loadK (letOwnedTupleGo tupT (.ref r) (.ref u)) (zipO (rawInt u) a b) >>= rest (.ref u)).onRaise _ = _
  rw [own_trueZ]
  kernel_rfl
theorem own_compZ' (V : V) (c : Code) (r u : Addr) (h : compTup c = some r) : OwnOkZ ((rNxZ V c r).k (.ok (.ret (.ref u)))) r u (tUxZ V c r u) := by
  unfold compTup at h
  split at h
  · cases h; exact own_compZ V _ _ _ _ _ _ _ _ _ _ u _ _
  · cases h
theorem Sys.ownZ {K : Top} (Y : Sys K) {kk t : Sem Fin} {r u : Addr} (h : OwnOkZ kk r u t) {a b : Addr} {d : DM} {gm : GMem} {s : Shared} {c : Code} {p : Pos} {fs : List Frame}
    (S : StD K ((r, .fields c_zip [.raw (.int (u : Int) 0), .bool false, .bool false, .ref a, .ref b]) :: d) gm s)
    (next : ∀ s', StD K ((r, .fields c_zip [.none, .bool false, .bool false, .ref a, .ref b]) :: d) gm s' → Y.H s' ⟨t, c, p, fs⟩) : Y.H s ⟨kk, c, p, fs⟩ := by
  obtain ⟨K1, rfl, h⟩ := h
  obtain ⟨τ, n, e⟩ := S.get (List.mem_cons_self ..)
  have key : (OD.fields c_zip [.raw (.int (u : Int) 0), .bool false, .bool false, .ref a, .ref b]).obj K.w.params τ n = zipO (rawInt u) a b := rfl
  rw [key] at e
  obtain ⟨K2, pt, f, e1, e2, e3⟩ := h a b
  refine Y.step1 (step_load _ _ _ _ _ _ _ e) ?_
  rw [e1]
  refine Y.step1 (step_rule _ _ _ _ _ _ _) (Y.step1 (step_load _ _ _ _ _ _ _ e) ?_)
  rw [e2]
  exact Y.step1 (step_update _ _ _ _ _ _ _ _ (by rw [e]; rfl)) (next _ (S.updAt e ⟨τ, n, e3⟩ (fun _ _ => rfl)))
end Mine
end
section
set_option linter.unusedVariables false
set_option linter.unusedSimpArgs false
set_option maxRecDepth 100000
set_option maxHeartbeats 0
namespace Mine
open PySem PySem.W PySem.W.X
noncomputable def cLaw0 : Code := cFn 269 [.ref 270]
noncomputable def ivv : Option (Int × Int) → List (List Nat × VD)
  | none => []
  | some x => [([105], .int x.1), ([118], .int x.2)]
noncomputable def lwE (nb : Addr) : List (List Nat × VD) := [([115, 99, 114, 105, 112, 116], .ref 270), ([110, 117, 109, 115], .ref nb)]
noncomputable def lwE1 (nb : Addr) (tx : Str) (pl : Addr) (x : Option (Int × Int)) : List (List Nat × VD) := lwE nb ++ ([([116, 101, 120, 116], .str tx), ([112, 108, 97, 99, 101, 115], .ref pl)] ++ ivv x)
noncomputable def lwF0 (l0 nb : Addr) : DM := [(l0, .frq (lwE nb))]
noncomputable def lwF1 (l0 nb : Addr) (tx : Str) (pl : Addr) (x : Option (Int × Int)) : DM := [(l0, .frq (lwE1 nb tx pl x))]
noncomputable def lwF2 (l0 nb : Addr) (tx : Str) (pl : Addr) (x : Option (Int × Int)) (cl : Addr) : DM := [(l0, .frq (lwE1 nb tx pl x ++ [([99, 104, 97, 114, 115], .ref cl)]))]
noncomputable def lwEnv (P : Params) (l0 : Addr) : Env := envF (fnOf (ob P 269)) 269 l0 []
noncomputable def cPf (P : Params) (l0 pr : Addr) : Code := match nthS (lawB P) 3 with
  | .For t _ b o _ => .forLoop t (.ref pr) b o (lwEnv P l0)
  | _ => .builtin "" {}
noncomputable def riD (pr : Addr) (k : Nat) (lf : Int) : DM := [(pr, .fields c_rangeit [.raw (.int ((k : Nat) : Int) 0), .raw (.int lf 0), .raw (.int 1 0)])]
noncomputable def plT (a : Addr) (f : Str) (x y z : Int) : DM := [(a, .seq c_tuple [.str f, .int x, .int y, .int z])]
theorem chk_Pf (P : Params) : (match cPf P 5 6 with | .forLoop _ it b _ e => (it, b.length, e.locals) | _ => (.none, 0, 0)) = (.ref 6, 2, 5) := by kernel_rfl
noncomputable def oL0 (P : Params) (l0 : Nat) : Out := run (V0t P (l0) (0)) 45 (denF cLaw0) (cLaw0) default ([]) (memOf P (fun _ _ => 0) (fun _ => ⟨0, #[]⟩) 0 ([(270, .arr c_list #[.int 1 0, .int 2 0])])) 0 0 ([]) 0 (hz 21 0xf2f2220000022220e00ff) []
noncomputable def fsL0 (P : Params) (l0 : Nat) : List Frame := (oL0 P l0).fs
theorem chk_L0 (P : Params) (l0 : Nat) : (fsL0 P l0).length = 1 := by kernel_rfl
noncomputable def LW0_a (q : Qd) (sc ns : Array Value) : SG := ⟨35, denF cLaw0, cLaw0, [], [(270, .raw (listO sc 0))], [], hz 15 0xf2f2280d2220e00ff, [2, 0, 3]⟩
noncomputable def LW0_s (q : Qd) (sc ns : Array Value) (i : In) : List Spec := [spSlice 270 (i.N + 1) 2 0 sc 0 (.none) (.int (16) (i.T + 1)) ns]
noncomputable def LW0_e (q : Qd) (sc ns : Array Value) (i : In) : SE := ⟨denF (cTx (i.N + 2)), some (cTx (i.N + 2)), fsL0 q.P i.N, lwF0 i.N (i.N + 2) ++ ([(i.N + 2, .arr c_list ns)] ++ [(270, .raw (listO sc 0))]), []⟩
theorem LW0_r (q : Qd) (sc ns : Array Value)  : RunsC (K4 q) ([cCaller]) (LW0_a q sc ns) (LW0_s q sc ns) (fun _ => []) (LW0_e q sc ns) := by
  intro W i; obtain ⟨w, s₀, b1, b2⟩ := q; cases b1 <;> (kernel_rfl)
theorem LW0 {q : Qd} (Y : Sys (K4 q)) (sc ns : Array Value)  (h0 : SliceL sc none (some (16)) ns) : SegC Y ([cCaller]) (LW0_a q sc ns) (LW0_e q sc ns) :=
  Y.segC (LW0_r q sc ns ) (show List.Nodup [2, 0, 3] by decide) (fun i hN => .cons (ok_sliceL _ _ _ _ _ _ _ _ _ (by rfl) (by rfl) h0) (AllOk.nil))
noncomputable def oL1 (P : Params) (l0 : Nat) : Out := run (V0t P (0) (0)) 72 (.pure (.done (.ret (.str ⟨⟨[40, 40, 41, 41]⟩⟩ 7)))) (.builtin "" {}) default (fsL0 P l0) (memOf P (fun _ _ => 0) (fun _ => ⟨0, #[]⟩) 0 (lwF0 l0 9)) 0 0 ([]) 0 (hz 20 0x000000000001ffff1100) []
noncomputable def fsL1 (P : Params) (l0 : Nat) : List Frame := (oL1 P l0).fs
theorem chk_L1 (P : Params) (l0 : Nat) : (fsL1 P l0).length = 1 := by kernel_rfl
noncomputable def LW1_a (q : Qd) (l0 nb : Addr) (tx : Str) (tk : Tok) (c₀ : Code) : SG := ⟨57, .pure (.done (.ret (.str tx tk))), c₀, fsL0 q.P l0, lwF0 l0 nb, [], hz 18 0x081d00000080d1ffff1100, [3, 2, 0]⟩
noncomputable def LW1_s (q : Qd) (l0 nb : Addr) (tx : Str) (tk : Tok) (c₀ : Code) (i : In) : List Spec := [spLen (.str (tx) tk) ((tx).length : Int),
  spRIter (i.N + 1) 0 (0) (i.T + 4) (((tx).length : Int)) (i.T + 3) (i.T + 5)]
noncomputable def LW1_e (q : Qd) (l0 nb : Addr) (tx : Str) (tk : Tok) (c₀ : Code) (i : In) : SE := ⟨denF (cPf q.P l0 (i.N + 2)), some (cPf q.P l0 (i.N + 2)), fsL1 q.P l0, lwF1 l0 nb tx (i.N + 0) none ++ ([((i.N + 0), .arr c_list #[])] ++ riD (i.N + 2) 0 (tx.length : Int)), []⟩
theorem LW1_r (q : Qd) (l0 nb : Addr) (tx : Str) (tk : Tok) (c₀ : Code)  : RunsC (K4 q) ([cCaller]) (LW1_a q l0 nb tx tk c₀) (LW1_s q l0 nb tx tk c₀) (fun _ => []) (LW1_e q l0 nb tx tk c₀) := by
  intro W i; obtain ⟨w, s₀, b1, b2⟩ := q; cases b1 <;> (kernel_rfl)
theorem LW1 {q : Qd} (Y : Sys (K4 q)) (l0 nb : Addr) (tx : Str) (tk : Tok) (c₀ : Code)  (h0 : ((tx).length : Int) < 2 ^ 63) (h1 : (0 : Int) ≤ (0)) (h2 : (0) ≤ (((tx).length : Int))) (h3 : (((tx).length : Int)) < 1000) : SegC Y ([cCaller]) (LW1_a q l0 nb tx tk c₀) (LW1_e q l0 nb tx tk c₀) :=
  Y.segC (LW1_r q l0 nb tx tk c₀ ) (show List.Nodup [3, 2, 0] by decide) (fun i hN => .cons (ok_len_str _ _ h0) (.cons (ok_riter _ _ _ _ _ _ _ h1 h2 h3) (AllOk.nil)))
noncomputable def PLa_a (q : Qd) (A : LA) (l0 nb pl pr : Addr) (tx : Str) (x : Option (Int × Int)) (k : Nat) (lf : Int) (ps : Array Value) (c1 : Nat) (ns : Array Value) (m : Nat) (n : Int) (tn : Tok) : SG := ⟨90, denF (cPf q.P l0 pr), cPf q.P l0 pr, fsL1 q.P l0, lwF1 l0 nb tx pl x ++ ([(pl, .arr c_list ps)] ++ (riD pr k lf ++ [(nb, .arr c_list ns)])), [], hz 41 0x8cd8bd08ad89d00088d087d086d85d0111100084d33383d82d0ff0081d3300080d2, [1, 2, 3, 4, 0]⟩
noncomputable def PLa_s (q : Qd) (A : LA) (l0 nb pl pr : Addr) (tx : Str) (x : Option (Int × Int)) (k : Nat) (lf : Int) (ps : Array Value) (c1 : Nat) (ns : Array Value) (m : Nat) (n : Int) (tn : Tok) (i : In) : List Spec := [spRNext pr 2 ((k : Nat) : Int) lf,
  spLenB nb 3 ns (i.ν 3).n (m + 1),
  spLenL nb 3 ns (i.ν 3).n,
  spV (II "int.__mod__" (((k : Nat) : Int)) (i.T + 0) ((ns.size : Int)) (i.T + 5)) (.int ((((k : Nat) : Int)).fmod ((ns.size : Int)))) 1,
  spItem nb 3 ns (i.ν 3).n (((((k : Nat) : Int)).fmod ((ns.size : Int)))) (i.T + 6) ((.int n tn)),
  spV (II "int.__mod__" (((k : Nat) : Int)) (i.T + 0) (2) (i.T + 9)) (.int ((((k : Nat) : Int)).fmod (2))) 1,
  spV (callB "str.__getitem__" [.str (⟨⟨[102, 103]⟩⟩) (i.T + 8), .int (((((k : Nat) : Int)).fmod (2))) (i.T + 10)]) (.str ⟨⟨[c1]⟩⟩) 1,
  spV (II "int.__mul__" (n) tn (5) (i.T + 12)) (.int ((n) * (5))) 1,
  spV (II "int.__sub__" (((n) * (5))) (i.T + 13) (((k : Nat) : Int)) (i.T + 0)) (.int ((((n) * (5))) - (((k : Nat) : Int)))) 1,
  spV (II "int.__mul__" (((k : Nat) : Int)) (i.T + 0) (((k : Nat) : Int)) (i.T + 0)) (.int ((((k : Nat) : Int)) * (((k : Nat) : Int)))) 1,
  spV (II "int.__add__" (n) tn (((((k : Nat) : Int)) * (((k : Nat) : Int)))) (i.T + 15)) (.int ((n) + (((((k : Nat) : Int)) * (((k : Nat) : Int)))))) 1,
  spV (II "int.__add__" (((k : Nat) : Int)) (i.T + 0) (1) (i.T + 17)) (.int ((((k : Nat) : Int)) + (1))) 1,
  spPush pl 2 ps (i.ν 1).n (.ref (i.N + 0))]
noncomputable def PLa_e (q : Qd) (A : LA) (l0 nb pl pr : Addr) (tx : Str) (x : Option (Int × Int)) (k : Nat) (lf : Int) (ps : Array Value) (c1 : Nat) (ns : Array Value) (m : Nat) (n : Int) (tn : Tok) (i : In) : SE := ⟨denF (cPf q.P l0 pr), some (cPf q.P l0 pr), fsL1 q.P l0, lwF1 l0 nb tx pl (some (((k : Nat) : Int), n)) ++ ([(pl, .arr c_list (ps.push (.ref (i.N + 0))))] ++ (riD pr (k + 1) (lf - 1) ++ ([(nb, .arr c_list ns)] ++ plT (i.N + 0) (⟨⟨[c1]⟩⟩) (((((n) * (5))) - (((k : Nat) : Int)))) (((n) + (((((k : Nat) : Int)) * (((k : Nat) : Int)))))) (((((k : Nat) : Int)) + (1)))))), []⟩
theorem PLa_r (q : Qd) (A : LA) (l0 nb pl pr : Addr) (tx : Str) (x : Option (Int × Int)) (k : Nat) (lf : Int) (ps : Array Value) (c1 : Nat) (ns : Array Value) (m : Nat) (n : Int) (tn : Tok)  : RunsC (K4 q) ([cCaller]) (PLa_a q A l0 nb pl pr tx x k lf ps c1 ns m n tn) (PLa_s q A l0 nb pl pr tx x k lf ps c1 ns m n tn) (fun _ => []) (PLa_e q A l0 nb pl pr tx x k lf ps c1 ns m n tn) := by
  intro W i; obtain ⟨w, s₀, b1, b2⟩ := q; cases b1 <;> cases x <;> (kernel_rfl)
theorem PLa {q : Qd} (Y : Sys (K4 q)) (A : LA) (l0 nb pl pr : Addr) (tx : Str) (x : Option (Int × Int)) (k : Nat) (lf : Int) (ps : Array Value) (c1 : Nat) (ns : Array Value) (m : Nat) (n : Int) (tn : Tok)  (h0 : 0 < lf) (h1 : ns.size = (m + 1)) (h2 : (((m + 1) : Nat) : Int) < 2 ^ 63) (h3 : (ns.size : Int) < 2 ^ 63) (h4 : ((ns.size : Int)) ≠ 0) (h5 : ItemAt ns (((((k : Nat) : Int)).fmod ((ns.size : Int)))) ((.int n tn))) (h6 : CharAt (⟨⟨[102, 103]⟩⟩ : Str) (((((k : Nat) : Int)).fmod (2))) c1) (h7 : IntMulOk (((k : Nat) : Int)) (((k : Nat) : Int))) (h8 : ps.size ≤ sizeLine) : SegC Y ([cCaller]) (PLa_a q A l0 nb pl pr tx x k lf ps c1 ns m n tn) (PLa_e q A l0 nb pl pr tx x k lf ps c1 ns m n tn) :=
  Y.segC (PLa_r q A l0 nb pl pr tx x k lf ps c1 ns m n tn ) (show List.Nodup [1, 2, 3, 4, 0] by decide) (fun i hN => .cons (ok1 rfl rfl rfl (sok_rnext _ _ _ _ h0)) (.cons (ok_lenB _ _ _ _ _ h1 h2) (.cons (ok_len_list _ _ _ _ h3) (.cons (okv (sok_mod _ _ _ _ h4)) (.cons (ok_item _ _ _ _ _ _ _ h5) (.cons (okv (sok_mod _ _ _ _ (by decide))) (.cons (okv (sok_sget _ _ _ _ _ h6)) (.cons (okv (sok_mul _ _ _ _ (IntMulOk.of_right (by decide)))) (.cons (okv (sok_sub _ _ _ _ )) (.cons (okv (sok_mul _ _ _ _ h7)) (.cons (okv (sok_add _ _ _ _ )) (.cons (okv (sok_add _ _ _ _ )) (.cons (ok1 rfl rfl rfl (sok_push _ _ _ _ _ h8)) (AllOk.nil))))))))))))))
noncomputable def PLb_a (q : Qd) (A : LA) (l0 nb pl pr : Addr) (tx : Str) (x : Option (Int × Int)) (k : Nat) (lf : Int) (ps : Array Value) (c1 : Nat) : SG := ⟨83, denF (cPf q.P l0 pr), cPf q.P l0 pr, fsL1 q.P l0, lwF1 l0 nb tx pl x ++ ([(pl, .arr c_list ps)] ++ (riD pr k lf ++ [(nb, .arr c_list #[])])), [], hz 33 0x88d87d086d85d00084d083d082d81d0111100003333300080d2, [1, 2, 3, 4, 0]⟩
noncomputable def PLb_s (q : Qd) (A : LA) (l0 nb pl pr : Addr) (tx : Str) (x : Option (Int × Int)) (k : Nat) (lf : Int) (ps : Array Value) (c1 : Nat) (i : In) : List Spec := [spRNext pr 2 ((k : Nat) : Int) lf,
  spV (II "int.__mod__" (((k : Nat) : Int)) (i.T + 0) (2) (i.T + 6)) (.int ((((k : Nat) : Int)).fmod (2))) 1,
  spV (callB "str.__getitem__" [.str (⟨⟨[102, 103]⟩⟩) (i.T + 5), .int (((((k : Nat) : Int)).fmod (2))) (i.T + 7)]) (.str ⟨⟨[c1]⟩⟩) 1,
  spV (II "int.__mul__" (((k : Nat) : Int)) (i.T + 0) (5) (i.T + 9)) (.int ((((k : Nat) : Int)) * (5))) 1,
  spV (II "int.__sub__" (((((k : Nat) : Int)) * (5))) (i.T + 10) (((k : Nat) : Int)) (i.T + 0)) (.int ((((((k : Nat) : Int)) * (5))) - (((k : Nat) : Int)))) 1,
  spV (II "int.__mul__" (((k : Nat) : Int)) (i.T + 0) (((k : Nat) : Int)) (i.T + 0)) (.int ((((k : Nat) : Int)) * (((k : Nat) : Int)))) 1,
  spV (II "int.__add__" (((k : Nat) : Int)) (i.T + 0) (((((k : Nat) : Int)) * (((k : Nat) : Int)))) (i.T + 12)) (.int ((((k : Nat) : Int)) + (((((k : Nat) : Int)) * (((k : Nat) : Int)))))) 1,
  spV (II "int.__add__" (((k : Nat) : Int)) (i.T + 0) (1) (i.T + 14)) (.int ((((k : Nat) : Int)) + (1))) 1,
  spPush pl 2 ps (i.ν 1).n (.ref (i.N + 0))]
noncomputable def PLb_e (q : Qd) (A : LA) (l0 nb pl pr : Addr) (tx : Str) (x : Option (Int × Int)) (k : Nat) (lf : Int) (ps : Array Value) (c1 : Nat) (i : In) : SE := ⟨denF (cPf q.P l0 pr), some (cPf q.P l0 pr), fsL1 q.P l0, lwF1 l0 nb tx pl (some (((k : Nat) : Int), ((k : Nat) : Int))) ++ ([(pl, .arr c_list (ps.push (.ref (i.N + 0))))] ++ (riD pr (k + 1) (lf - 1) ++ ([(nb, .arr c_list #[])] ++ plT (i.N + 0) (⟨⟨[c1]⟩⟩) (((((((k : Nat) : Int)) * (5))) - (((k : Nat) : Int)))) (((((k : Nat) : Int)) + (((((k : Nat) : Int)) * (((k : Nat) : Int)))))) (((((k : Nat) : Int)) + (1)))))), []⟩
theorem PLb_r (q : Qd) (A : LA) (l0 nb pl pr : Addr) (tx : Str) (x : Option (Int × Int)) (k : Nat) (lf : Int) (ps : Array Value) (c1 : Nat)  : RunsC (K4 q) ([cCaller]) (PLb_a q A l0 nb pl pr tx x k lf ps c1) (PLb_s q A l0 nb pl pr tx x k lf ps c1) (fun _ => []) (PLb_e q A l0 nb pl pr tx x k lf ps c1) := by
  intro W i; obtain ⟨w, s₀, b1, b2⟩ := q; cases b1 <;> cases x <;> (kernel_rfl)
theorem PLb {q : Qd} (Y : Sys (K4 q)) (A : LA) (l0 nb pl pr : Addr) (tx : Str) (x : Option (Int × Int)) (k : Nat) (lf : Int) (ps : Array Value) (c1 : Nat)  (h0 : 0 < lf) (h1 : CharAt (⟨⟨[102, 103]⟩⟩ : Str) (((((k : Nat) : Int)).fmod (2))) c1) (h2 : IntMulOk (((k : Nat) : Int)) (((k : Nat) : Int))) (h3 : ps.size ≤ sizeLine) : SegC Y ([cCaller]) (PLb_a q A l0 nb pl pr tx x k lf ps c1) (PLb_e q A l0 nb pl pr tx x k lf ps c1) :=
  Y.segC (PLb_r q A l0 nb pl pr tx x k lf ps c1 ) (show List.Nodup [1, 2, 3, 4, 0] by decide) (fun i hN => .cons (ok1 rfl rfl rfl (sok_rnext _ _ _ _ h0)) (.cons (okv (sok_mod _ _ _ _ (by decide))) (.cons (okv (sok_sget _ _ _ _ _ h1)) (.cons (okv (sok_mul _ _ _ _ (IntMulOk.of_right (by decide)))) (.cons (okv (sok_sub _ _ _ _ )) (.cons (okv (sok_mul _ _ _ _ h2)) (.cons (okv (sok_add _ _ _ _ )) (.cons (okv (sok_add _ _ _ _ )) (.cons (ok1 rfl rfl rfl (sok_push _ _ _ _ _ h3)) (AllOk.nil))))))))))
noncomputable def zsD (z : Addr) (tx : Str) (tk : Tok) (k : Nat) : DM := [(z + 2, .fields c_strit [.raw (.str tx tk), .raw (.int ((k : Nat) : Int) 0)])]
noncomputable def zlD (z pl : Addr) (k : Nat) : DM := [(z + 3, .fields c_listit [.ref pl, .raw (.int ((k : Nat) : Int) 0)])]
noncomputable def ztD (z : Addr) : DM := [(z + 4, .seq c_tuple [.ref (z + 2), .ref (z + 3)])]
noncomputable def zpD (z : Addr) (x : Option (Nat × Addr)) : DM := [(z + 5, .seq c_tuple (match x with | none => [.none, .none] | some y => [.str ⟨⟨[y.1]⟩⟩, .ref y.2]))]
noncomputable def zoD (z : Addr) (ow : VD) : DM := [(z + 6, .fields c_zip [ow, .bool false, .bool false, .ref (z + 4), .ref (z + 5)])]
structure CV where
  sg : Nat
  f : Str
  x : Int
  y : Int
  z : Int
noncomputable def zdD (z : Addr) (v : Option CV) : DM := [(z + 8, .dict c_dict (match v with | none => [] | some v => [([115, 105, 103, 110], .str ⟨⟨[v.sg]⟩⟩), ([102, 105, 108, 101], .str v.f), ([114, 111, 119], .int v.x), ([99, 111, 108, 117, 109, 110], .int v.y), ([115, 105, 122, 101], .int v.z)]))]
noncomputable def oCH (P : Params) (l0 z : Nat) : Out := run (V0t P (z) (0)) 82 (denF (cPf P l0 5)) (cPf P l0 5) default (fsL1 P l0) (memOf P (fun _ _ => 0) (fun _ => ⟨0, #[]⟩) 0 (lwF1 l0 6 ⟨⟨[97]⟩⟩ 4 none ++ ([(4, .arr c_list #[])] ++ riD 5 1 0))) 0 0 ([]) 0 (hz 27 0x2222000000000444022ff022222) []
noncomputable def fsC (P : Params) (l0 z : Nat) : List Frame := (oCH P l0 z).fs
noncomputable def cCh (P : Params) (l0 z : Nat) : Code := (oCH P l0 z).c
theorem chk_CH (P : Params) (l0 z : Nat) : (fsC P l0 z).length = 1 := by kernel_rfl
theorem compTup_Ch (P : Params) (l0 z : Nat) : compTup (cCh P l0 z) = some (z + 6) := by kernel_rfl
noncomputable def PLz_a (q : Qd) (A : LA) (l0 nb pl pr : Addr) (tx : Str) (x : Option (Int × Int)) (k : Nat) (ps : Array Value) : SG := ⟨cond q.b2 69 79, denF (cPf q.P l0 pr), cPf q.P l0 pr, fsL1 q.P l0, lwF1 l0 nb tx pl x ++ ([(pl, .arr c_list ps)] ++ riD pr k 0), [], (cond q.b2 (hz 26 0x000000000444080deddedd22ff022222) (hz 30 0x2222000000000444080deddedd22ff022222)), [9, 10, 6, 5, 4, 3, 2, 1, 0]⟩
noncomputable def PLz_s (q : Qd) (A : LA) (l0 nb pl pr : Addr) (tx : Str) (x : Option (Int × Int)) (k : Nat) (ps : Array Value) (i : In) : List Spec := [spSIter (tx) (i.τ 0 5)]
noncomputable def PLz_e (q : Qd) (A : LA) (l0 nb pl pr : Addr) (tx : Str) (x : Option (Int × Int)) (k : Nat) (ps : Array Value) (i : In) : SE := ⟨denF (cCh q.P l0 i.N), some (cCh q.P l0 i.N), fsC q.P l0 i.N, lwF1 l0 nb tx pl x ++ ([(pl, .arr c_list ps)] ++ (zsD i.N tx (i.τ 0 5) 0 ++ (zlD i.N pl 0 ++ (ztD i.N ++ (zpD i.N none ++ (zoD i.N .none ++ ([(i.N + 7, .arr c_list #[])] ++ zdD i.N none))))))), []⟩
theorem PLz_r (q : Qd) (A : LA) (l0 nb pl pr : Addr) (tx : Str) (x : Option (Int × Int)) (k : Nat) (ps : Array Value)  : RunsC (K4 q) ([cCaller]) (PLz_a q A l0 nb pl pr tx x k ps) (PLz_s q A l0 nb pl pr tx x k ps) (fun _ => []) (PLz_e q A l0 nb pl pr tx x k ps) := by
  intro W i; obtain ⟨w, s₀, b1, b2⟩ := q; cases b1 <;> cases b2 <;> cases x <;> (kernel_rfl)
theorem PLz {q : Qd} (Y : Sys (K4 q)) (A : LA) (l0 nb pl pr : Addr) (tx : Str) (x : Option (Int × Int)) (k : Nat) (ps : Array Value)  (h0 : (tx).cps.all (· < 128) = true) : SegC Y ([cCaller]) (PLz_a q A l0 nb pl pr tx x k ps) (PLz_e q A l0 nb pl pr tx x k ps) :=
  Y.segC (PLz_r q A l0 nb pl pr tx x k ps ) (show List.Nodup [9, 10, 6, 5, 4, 3, 2, 1, 0] by decide) (fun i hN => .cons (ok_siter _ _ h0) (AllOk.nil))
noncomputable def CHa_a (q : Qd) (A : LA) (l0 z pl : Addr) (tx : Str) (tk : Tok) (k : Nat) (x : Option (Nat × Addr)) (ps : Array Value) (sg : Nat) (pp : Addr) : SG := ⟨34, denF (cCh q.P l0 z), cCh q.P l0 z, fsC q.P l0 z, zsD z tx tk k ++ (zlD z pl k ++ (ztD z ++ (zpD z x ++ (zoD z .none ++ [(pl, .arr c_list ps)])))), [], hz 26 0x55553333381d1333380d0444424444, [1, 2, 3, 4, 5, 6, 0]⟩
noncomputable def CHa_s (q : Qd) (A : LA) (l0 z pl : Addr) (tx : Str) (tk : Tok) (k : Nat) (x : Option (Nat × Addr)) (ps : Array Value) (sg : Nat) (pp : Addr) (i : In) : List Spec := [spSNext (z + 2) 0 tx tk (k : Nat) sg,
  spNext (z + 3) pl 1 5 ps (i.ν 5).n (k : Nat) (.ref pp)]
noncomputable def CHa_e (q : Qd) (A : LA) (l0 z pl : Addr) (tx : Str) (tk : Tok) (k : Nat) (x : Option (Nat × Addr)) (ps : Array Value) (sg : Nat) (pp : Addr) (i : In) : SE := ⟨(rNxZ (V0 q.P 0) (cCh q.P l0 z) (z + 6)).k (.ok (.ret (.ref (i.N + 0)))), some (cCh q.P l0 z), fsC q.P l0 z, zsD z tx tk (k + 1) ++ (zlD z pl (k + 1) ++ (ztD z ++ (zpD z (some (sg, pp)) ++ (zoD z (.raw (.int (((i.N + 0) : Nat) : Int) 0)) ++ ([(pl, .arr c_list ps)] ++ [((i.N + 0), .seq c_tuple [.str ⟨⟨[sg]⟩⟩, .ref pp])]))))), []⟩
theorem CHa_r (q : Qd) (A : LA) (l0 z pl : Addr) (tx : Str) (tk : Tok) (k : Nat) (x : Option (Nat × Addr)) (ps : Array Value) (sg : Nat) (pp : Addr)  : RunsC (K4 q) ([cCaller]) (CHa_a q A l0 z pl tx tk k x ps sg pp) (CHa_s q A l0 z pl tx tk k x ps sg pp) (fun _ => []) (CHa_e q A l0 z pl tx tk k x ps sg pp) := by
  intro W i; obtain ⟨w, s₀, b1, b2⟩ := q; cases b1 <;> cases x <;> (kernel_rfl)
theorem CHa {q : Qd} (Y : Sys (K4 q)) (A : LA) (l0 z pl : Addr) (tx : Str) (tk : Tok) (k : Nat) (x : Option (Nat × Addr)) (ps : Array Value) (sg : Nat) (pp : Addr)  (h0 : tx.cps[k]? = some sg) (h1 : ps[k]? = some (.ref pp)) : SegC Y ([cCaller]) (CHa_a q A l0 z pl tx tk k x ps sg pp) (CHa_e q A l0 z pl tx tk k x ps sg pp) :=
  Y.segC (CHa_r q A l0 z pl tx tk k x ps sg pp ) (show List.Nodup [1, 2, 3, 4, 5, 6, 0] by decide) (fun i hN => .cons (ok1 rfl rfl rfl (sok_snext _ _ _ _ _ _ h0)) (.cons (ok1 rfl rfl rfl (sok_next _ _ _ _ _ _ _ _ h1)) (AllOk.nil)))
noncomputable def CHb_a (q : Qd) (A : LA) (l0 z : Addr) (v : Option CV) (cs : Array Value) (u : Addr) (sg : Nat) (pp : Addr) (f : Str) (x y zz : Int) : SG := ⟨575, tUxZ (V0 q.P 0) (cCh q.P l0 z) (z + 6) u, cCh q.P l0 z, fsC q.P l0 z, zoD z .none ++ ([(z + 7, .arr c_list cs)] ++ (zdD z v ++ ([(u, .seq c_tuple [.str ⟨⟨[sg]⟩⟩, .ref pp])] ++ plT pp f x y zz))), [], hz 359 0x80d222f1fff1f1f1fff100222f1fff1f1f1fff100e000000ffffff0f0ffffffffffffffffffffffffffff1f1fffff1ffffffff1f1f1fff1001f1fffff1ffffffff1f1f1fff1001f1fffff1ffffffff1f1f1fff1001f1fffff1ffffffff1f1f1fff1001f1fffff1ffffffff1f1f1fff100e000000000000fffffff0f0ffffffffffffffffffffffffffff8888f8f888888880008000000800000080000008000000800000777755000400000040000004000003333, [12, 13, 14, 16, 1, 2, 4]⟩
noncomputable def CHb_s (q : Qd) (A : LA) (l0 z : Addr) (v : Option CV) (cs : Array Value) (u : Addr) (sg : Nat) (pp : Addr) (f : Str) (x y zz : Int) (i : In) : List Spec := [spPush (z + 7) 13 cs (i.ν 1).n (.ref (i.N + 10))]
noncomputable def CHb_e (q : Qd) (A : LA) (l0 z : Addr) (v : Option CV) (cs : Array Value) (u : Addr) (sg : Nat) (pp : Addr) (f : Str) (x y zz : Int) (i : In) : SE := ⟨denF (cCh q.P l0 z), some (cCh q.P l0 z), fsC q.P l0 z, zoD z .none ++ ([(z + 7, .arr c_list (cs.push (.ref (i.N + 10))))] ++ (zdD z (some ⟨sg, f, x, y, zz⟩) ++ (plT pp f x y zz ++ (chD (i.N + 10) (i.N + 9) (i.N + 7) ⟨⟨[sg]⟩⟩ ++ locD (i.N + 7) (i.N + 6) f x y zz)))), []⟩
theorem CHb_r (q : Qd) (A : LA) (l0 z : Addr) (v : Option CV) (cs : Array Value) (u : Addr) (sg : Nat) (pp : Addr) (f : Str) (x y zz : Int)  : RunsC (K4 q) ([cCaller]) (CHb_a q A l0 z v cs u sg pp f x y zz) (CHb_s q A l0 z v cs u sg pp f x y zz) (fun _ => []) (CHb_e q A l0 z v cs u sg pp f x y zz) := by
  intro W i; obtain ⟨w, s₀, b1, b2⟩ := q; cases b1 <;> cases v <;> (kernel_rfl)
theorem CHb {q : Qd} (Y : Sys (K4 q)) (A : LA) (l0 z : Addr) (v : Option CV) (cs : Array Value) (u : Addr) (sg : Nat) (pp : Addr) (f : Str) (x y zz : Int)  (h0 : cs.size ≤ sizeLine) : SegC Y ([cCaller]) (CHb_a q A l0 z v cs u sg pp f x y zz) (CHb_e q A l0 z v cs u sg pp f x y zz) :=
  Y.segC (CHb_r q A l0 z v cs u sg pp f x y zz ) (show List.Nodup [12, 13, 14, 16, 1, 2, 4] by decide) (fun i hN => .cons (ok1 rfl rfl rfl (sok_push _ _ _ _ _ h0)) (AllOk.nil))
noncomputable def oLR (P : Params) (l0 z : Nat) : Out := run (V0t P (0) (0)) 92 (denF (cCh P l0 z)) (cCh P l0 z) default (fsC P l0 z) (memOf P (fun _ _ => 0) (fun _ => ⟨0, #[]⟩) 0 (lwF1 l0 6 ⟨⟨[97]⟩⟩ 4 (some (1, 2)) ++ (zsD z ⟨⟨[97]⟩⟩ 7 1 ++ (zlD z 4 1 ++ (ztD z ++ (zpD z (some (97, 3)) ++ (zoD z .none ++ ([(z + 7, .arr c_list #[])] ++ (zdD z (some ⟨97, ⟨⟨[97]⟩⟩, 1, 2, 3⟩) ++ [(6, .arr c_list #[.int 1 0])]))))))))) 0 0 ([]) 0 (hz 44 0xfaaa2ff2f99999999999999922077111111555535555) []
noncomputable def fsL2 (P : Params) (l0 z : Nat) : List Frame := (oLR P l0 z).fs
theorem chk_L2 (P : Params) (l0 z : Nat) : (fsL2 P l0 z).length = 1 := by kernel_rfl
noncomputable def CHz1_a (q : Qd) (A : LA) (l0 nb z pl : Addr) (tx : Str) (tk : Tok) (x : Int × Int) (k : Nat) (x5 : Nat × Addr) (cs : Array Value) (v : CV) (ns : Array Value) : SG := ⟨69, denF (cCh q.P l0 z), cCh q.P l0 z, fsC q.P l0 z, lwF1 l0 nb tx pl (some x) ++ (zsD z tx tk k ++ (zlD z pl k ++ (ztD z ++ (zpD z (some x5) ++ (zoD z .none ++ ([(z + 7, .arr c_list cs)] ++ (zdD z (some v) ++ [(nb, .arr c_list ns)]))))))), [], hz 38 0xf81d2ff2f9999999999999992207780d1555535555, [2, 8, 10]⟩
noncomputable def CHz1_s (q : Qd) (A : LA) (l0 nb z pl : Addr) (tx : Str) (tk : Tok) (x : Int × Int) (k : Nat) (x5 : Nat × Addr) (cs : Array Value) (v : CV) (ns : Array Value) (i : In) : List Spec := [spSEnd (z + 2) 1 tx tk (k : Nat),
  spLenL nb 10 ns (i.ν 8).n]
noncomputable def CHz1_e (q : Qd) (A : LA) (l0 nb z pl : Addr) (tx : Str) (tk : Tok) (x : Int × Int) (k : Nat) (x5 : Nat × Addr) (cs : Array Value) (v : CV) (ns : Array Value) (i : In) : SE := ⟨denF (cRead (z + 7) (ns.size : Int) (i.T + 2)), some (cRead (z + 7) (ns.size : Int) (i.T + 2)), fsL2 q.P l0 z, lwF2 l0 nb tx pl (some x) (z + 7) ++ ([(z + 7, .arr c_list cs)] ++ [(nb, .arr c_list ns)]), []⟩
theorem CHz1_r (q : Qd) (A : LA) (l0 nb z pl : Addr) (tx : Str) (tk : Tok) (x : Int × Int) (k : Nat) (x5 : Nat × Addr) (cs : Array Value) (v : CV) (ns : Array Value)  : RunsC (K4 q) ([cCaller]) (CHz1_a q A l0 nb z pl tx tk x k x5 cs v ns) (CHz1_s q A l0 nb z pl tx tk x k x5 cs v ns) (fun _ => []) (CHz1_e q A l0 nb z pl tx tk x k x5 cs v ns) := by
  intro W i; obtain ⟨w, s₀, b1, b2⟩ := q; cases b1 <;> (kernel_rfl)
theorem CHz1 {q : Qd} (Y : Sys (K4 q)) (A : LA) (l0 nb z pl : Addr) (tx : Str) (tk : Tok) (x : Int × Int) (k : Nat) (x5 : Nat × Addr) (cs : Array Value) (v : CV) (ns : Array Value)  (h0 : tx.cps[k]? = none) (h1 : (ns.size : Int) < 2 ^ 63) : SegC Y ([cCaller]) (CHz1_a q A l0 nb z pl tx tk x k x5 cs v ns) (CHz1_e q A l0 nb z pl tx tk x k x5 cs v ns) :=
  Y.segC (CHz1_r q A l0 nb z pl tx tk x k x5 cs v ns ) (show List.Nodup [2, 8, 10] by decide) (fun i hN => .cons (ok_send _ _ _ _ _ h0) (.cons (ok_len_list _ _ _ _ h1) (AllOk.nil)))
noncomputable def CHz0_a (q : Qd) (A : LA) (l0 nb z pl : Addr) (tx : Str) (tk : Tok) (x : Int × Int) (k : Nat) (x5 : Nat × Addr) (cs : Array Value) (v : CV) : SG := ⟨80, denF (cCh q.P l0 z), cCh q.P l0 z, fsC q.P l0 z, lwF1 l0 nb tx pl (some x) ++ (zsD z tx tk k ++ (zlD z pl k ++ (ztD z ++ (zpD z (some x5) ++ (zoD z .none ++ ([(z + 7, .arr c_list cs)] ++ (zdD z (some v) ++ [(nb, .arr c_list #[])]))))))), [], hz 40 0xfaaa2ff2f9999999999999992207780d1555535555, [2, 8, 10]⟩
noncomputable def CHz0_s (q : Qd) (A : LA) (l0 nb z pl : Addr) (tx : Str) (tk : Tok) (x : Int × Int) (k : Nat) (x5 : Nat × Addr) (cs : Array Value) (v : CV) (i : In) : List Spec := [spSEnd (z + 2) 1 tx tk (k : Nat)]
noncomputable def CHz0_e (q : Qd) (A : LA) (l0 nb z pl : Addr) (tx : Str) (tk : Tok) (x : Int × Int) (k : Nat) (x5 : Nat × Addr) (cs : Array Value) (v : CV) (i : In) : SE := ⟨denF (cRead (z + 7) 0 (i.T + 2)), some (cRead (z + 7) 0 (i.T + 2)), fsL2 q.P l0 z, lwF2 l0 nb tx pl (some x) (z + 7) ++ ([(z + 7, .arr c_list cs)] ++ [(nb, .arr c_list #[])]), []⟩
theorem CHz0_r (q : Qd) (A : LA) (l0 nb z pl : Addr) (tx : Str) (tk : Tok) (x : Int × Int) (k : Nat) (x5 : Nat × Addr) (cs : Array Value) (v : CV)  : RunsC (K4 q) ([cCaller]) (CHz0_a q A l0 nb z pl tx tk x k x5 cs v) (CHz0_s q A l0 nb z pl tx tk x k x5 cs v) (fun _ => []) (CHz0_e q A l0 nb z pl tx tk x k x5 cs v) := by
  intro W i; obtain ⟨w, s₀, b1, b2⟩ := q; cases b1 <;> (kernel_rfl)
theorem CHz0 {q : Qd} (Y : Sys (K4 q)) (A : LA) (l0 nb z pl : Addr) (tx : Str) (tk : Tok) (x : Int × Int) (k : Nat) (x5 : Nat × Addr) (cs : Array Value) (v : CV)  (h0 : tx.cps[k]? = none) : SegC Y ([cCaller]) (CHz0_a q A l0 nb z pl tx tk x k x5 cs v) (CHz0_e q A l0 nb z pl tx tk x k x5 cs v) :=
  Y.segC (CHz0_r q A l0 nb z pl tx tk x k x5 cs v ) (show List.Nodup [2, 8, 10] by decide) (fun i hN => .cons (ok_send _ _ _ _ _ h0) (AllOk.nil))
noncomputable def CHze_a (q : Qd) (A : LA) (l0 nb z pl : Addr) (tx : Str) (tk : Tok) (k : Nat) (cs : Array Value) (ns : Array Value) : SG := ⟨49, denF (cCh q.P l0 z), cCh q.P l0 z, fsC q.P l0 z, lwF1 l0 nb tx pl none ++ (zsD z tx tk k ++ (zlD z pl k ++ (ztD z ++ (zpD z none ++ (zoD z .none ++ ([(z + 7, .arr c_list cs)] ++ (zdD z none ++ [(nb, .arr c_list ns)]))))))), [], hz 28 0xf81d2ff2f999992207780d1555535555, [2, 8, 10]⟩
noncomputable def CHze_s (q : Qd) (A : LA) (l0 nb z pl : Addr) (tx : Str) (tk : Tok) (k : Nat) (cs : Array Value) (ns : Array Value) (i : In) : List Spec := [spSEnd (z + 2) 1 tx tk (k : Nat),
  spLenL nb 10 ns (i.ν 8).n]
noncomputable def CHze_e (q : Qd) (A : LA) (l0 nb z pl : Addr) (tx : Str) (tk : Tok) (k : Nat) (cs : Array Value) (ns : Array Value) (i : In) : SE := ⟨denF (cRead (z + 7) (ns.size : Int) (i.T + 2)), some (cRead (z + 7) (ns.size : Int) (i.T + 2)), fsL2 q.P l0 z, lwF2 l0 nb tx pl none (z + 7) ++ ([(z + 7, .arr c_list cs)] ++ [(nb, .arr c_list ns)]), []⟩
theorem CHze_r (q : Qd) (A : LA) (l0 nb z pl : Addr) (tx : Str) (tk : Tok) (k : Nat) (cs : Array Value) (ns : Array Value)  : RunsC (K4 q) ([cCaller]) (CHze_a q A l0 nb z pl tx tk k cs ns) (CHze_s q A l0 nb z pl tx tk k cs ns) (fun _ => []) (CHze_e q A l0 nb z pl tx tk k cs ns) := by
  intro W i; obtain ⟨w, s₀, b1, b2⟩ := q; cases b1 <;> (kernel_rfl)
theorem CHze {q : Qd} (Y : Sys (K4 q)) (A : LA) (l0 nb z pl : Addr) (tx : Str) (tk : Tok) (k : Nat) (cs : Array Value) (ns : Array Value)  (h0 : tx.cps[k]? = none) (h1 : (ns.size : Int) < 2 ^ 63) : SegC Y ([cCaller]) (CHze_a q A l0 nb z pl tx tk k cs ns) (CHze_e q A l0 nb z pl tx tk k cs ns) :=
  Y.segC (CHze_r q A l0 nb z pl tx tk k cs ns ) (show List.Nodup [2, 8, 10] by decide) (fun i hN => .cons (ok_send _ _ _ _ _ h0) (.cons (ok_len_list _ _ _ _ h1) (AllOk.nil)))
noncomputable def oLD (P : Params) (l0 z se : Nat) : Out := run (V0t P (0) (0)) 11 (.pure (.done (.ret (.ref se)))) (.builtin "" {}) default (fsL2 P l0 z) (memOf P (fun _ _ => 0) (fun _ => ⟨0, #[]⟩) 0 (lwF2 l0 6 ⟨⟨[97]⟩⟩ 4 none 5)) 0 0 ([]) 0 (hz 4 0xf00f) []
noncomputable def fsL3 (P : Params) (l0 z se : Nat) : List Frame := (oLD P l0 z se).fs
theorem chk_L3 (P : Params) (l0 z se : Nat) : (fsL3 P l0 z se).length = 1 := by kernel_rfl
noncomputable def LR_a (q : Qd) (A : LA) (l0 nb z pl cl se : Addr) (tx : Str) (x : Option (Int × Int)) (c₀ : Code) : SG := ⟨11, .pure (.done (.ret (.ref se))), c₀, fsL2 q.P l0 z, lwF2 l0 nb tx pl x cl, [], hz 4 0xf00f, [0]⟩
noncomputable def LR_s (q : Qd) (A : LA) (l0 nb z pl cl se : Addr) (tx : Str) (x : Option (Int × Int)) (c₀ : Code) (i : In) : List Spec := []
noncomputable def LR_e (q : Qd) (A : LA) (l0 nb z pl cl se : Addr) (tx : Str) (x : Option (Int × Int)) (c₀ : Code) (i : In) : SE := ⟨denF (cDue tx (i.τ 0 5) pl), some (cDue tx (i.τ 0 5) pl), fsL3 q.P l0 z se, lwF2 l0 nb tx pl x cl, []⟩
theorem LR_r (q : Qd) (A : LA) (l0 nb z pl cl se : Addr) (tx : Str) (x : Option (Int × Int)) (c₀ : Code)  : RunsC (K4 q) ([cCaller]) (LR_a q A l0 nb z pl cl se tx x c₀) (LR_s q A l0 nb z pl cl se tx x c₀) (fun _ => []) (LR_e q A l0 nb z pl cl se tx x c₀) := by
  intro W i; obtain ⟨w, s₀, b1, b2⟩ := q; cases b1 <;> cases x <;> (kernel_rfl)
theorem LR {q : Qd} (Y : Sys (K4 q)) (A : LA) (l0 nb z pl cl se : Addr) (tx : Str) (x : Option (Int × Int)) (c₀ : Code)   : SegC Y ([cCaller]) (LR_a q A l0 nb z pl cl se tx x c₀) (LR_e q A l0 nb z pl cl se tx x c₀) :=
  Y.segC (LR_r q A l0 nb z pl cl se tx x c₀ ) (show List.Nodup [0] by decide) (fun i hN => AllOk.nil)
noncomputable def oLE (P : Params) (l0 z se du : Nat) : Out := run (V0t P (0) (0)) 9 (.pure (.done (.ret (.ref du)))) (.builtin "" {}) default (fsL3 P l0 z se) (memOf P (fun _ _ => 0) (fun _ => ⟨0, #[]⟩) 0 ([(se, .arr c_list #[])] ++ [(du, .arr c_list #[])])) 0 0 ([]) 0 (hz 3 0x010) []
noncomputable def fsL4 (P : Params) (l0 z se du : Nat) : List Frame := (oLE P l0 z se du).fs
theorem chk_L4 (P : Params) (l0 z se du : Nat) : (fsL4 P l0 z se du).length = 1 := by kernel_rfl
noncomputable def LE_a (q : Qd) (A : LA) (l0 z se du : Addr) (ss ds : Array Value) (c₀ : Code) : SG := ⟨9, .pure (.done (.ret (.ref du))), c₀, fsL3 q.P l0 z se, ([(se, .arr c_list ss)] : DM) ++ [(du, .arr c_list ds)], [], hz 3 0x010, [0, 1]⟩
noncomputable def LE_s (q : Qd) (A : LA) (l0 z se du : Addr) (ss ds : Array Value) (c₀ : Code) (i : In) : List Spec := []
noncomputable def LE_e (q : Qd) (A : LA) (l0 z se du : Addr) (ss ds : Array Value) (c₀ : Code) (i : In) : SE := ⟨denF (callB "list.__eq__" [.ref se, .ref du]), some (callB "list.__eq__" [.ref se, .ref du]), fsL4 q.P l0 z se du, ([(se, .arr c_list ss)] : DM) ++ [(du, .arr c_list ds)], []⟩
theorem LE_r (q : Qd) (A : LA) (l0 z se du : Addr) (ss ds : Array Value) (c₀ : Code)  : RunsC (K4 q) ([cCaller]) (LE_a q A l0 z se du ss ds c₀) (LE_s q A l0 z se du ss ds c₀) (fun _ => []) (LE_e q A l0 z se du ss ds c₀) := by
  intro W i; obtain ⟨w, s₀, b1, b2⟩ := q; cases b1 <;> (kernel_rfl)
theorem LE {q : Qd} (Y : Sys (K4 q)) (A : LA) (l0 z se du : Addr) (ss ds : Array Value) (c₀ : Code)   : SegC Y ([cCaller]) (LE_a q A l0 z se du ss ds c₀) (LE_e q A l0 z se du ss ds c₀) :=
  Y.segC (LE_r q A l0 z se du ss ds c₀ ) (show List.Nodup [0, 1] by decide) (fun i hN => AllOk.nil)
noncomputable def LZ_a (q : Qd) (A : LA) (l0 z se du : Addr) (c₀ : Code) : SG := ⟨2, .pure (.done (.ret (.bool true))), c₀, fsL4 q.P l0 z se du, ([] : DM), [], hz 0 0x0, []⟩
noncomputable def LZ_s (q : Qd) (A : LA) (l0 z se du : Addr) (c₀ : Code) (i : In) : List Spec := []
noncomputable def LZ_e (q : Qd) (A : LA) (l0 z se du : Addr) (c₀ : Code) (i : In) : SE := ⟨.pure (.done (.ret (.bool true))), none, [], ([] : DM), []⟩
theorem LZ_r (q : Qd) (A : LA) (l0 z se du : Addr) (c₀ : Code)  : RunsC (K4 q) ([cCaller]) (LZ_a q A l0 z se du c₀) (LZ_s q A l0 z se du c₀) (fun _ => []) (LZ_e q A l0 z se du c₀) := by
  intro W i; (kernel_rfl)
theorem LZ {q : Qd} (Y : Sys (K4 q)) (A : LA) (l0 z se du : Addr) (c₀ : Code)   : SegC Y ([cCaller]) (LZ_a q A l0 z se du c₀) (LZ_e q A l0 z se du c₀) :=
  Y.segC (LZ_r q A l0 z se du c₀ ) (show List.Nodup [] by decide) (fun i hN => AllOk.nil)
end Mine
end
section
set_option maxRecDepth 100000
set_option maxHeartbeats 1000000
namespace Mine
open PySem PySem.W PySem.W.X
open Classical in
noncomputable def cnt (a : Addr × OD) (d : DM) : Nat := d.count a
theorem cnt_nil (a) : cnt a [] = 0 := by classical exact List.count_nil
theorem cnt_append (a) (x y : DM) : cnt a (x ++ y) = cnt a x + cnt a y := by classical exact List.count_append
theorem cnt_cons (a) (x) (y : DM) : cnt a (x :: y) = cnt a [x] + cnt a y := cnt_append a [x] y
theorem cnt_flatMap {α : Type} (a) (f : α → DM) (x y : List α) : cnt a ((x ++ y).flatMap f) = cnt a (x.flatMap f) + cnt a (y.flatMap f) := by rw [List.flatMap_append, cnt_append]
theorem perm_of_cnt {d d' : DM} (h : ∀ a, cnt a d = cnt a d') : d.Perm d' := by classical exact List.perm_iff_count.mpr h
theorem StD.reord {K : Top} {d d' : DM} {gm : GMem} {s : Shared} (S : StD K d gm s) (h : ∀ a, cnt a d = cnt a d') : StD K d' gm s := S.perm (perm_of_cnt h)
theorem cnt_split {α : Type} (f : α → DM) {l : List α} {x : α} (h : x ∈ l) : ∃ R : DM, ∀ a, cnt a (l.flatMap f) = cnt a (f x) + cnt a R := by
  obtain ⟨l1, l2, rfl⟩ := List.append_of_mem h
  refine ⟨l1.flatMap f ++ l2.flatMap f, fun a => ?_⟩
  rw [cnt_flatMap, List.flatMap_cons, cnt_append, cnt_append]
  omega
theorem StD.mem_drop {K : Top} {d d' e : DM} {gm : GMem} {s : Shared} (S : StD K d gm s) (h : ∀ a, cnt a d = cnt a (d' ++ e)) : StD K d' gm s := (S.reord h).drop
structure Ch where
  a : Addr
  d : Addr
  l : Addr
  ld : Addr
  sg : Nat
  f : Str
  x : Int
  y : Int
  z : Int
noncomputable def Ch.dm (x : Ch) : DM := chD x.a x.d x.l ⟨⟨[x.sg]⟩⟩ ++ locD x.l x.ld x.f x.x x.y x.z
noncomputable def chM (l : List Ch) : DM := l.flatMap Ch.dm
noncomputable def crefs (l : List Ch) : Array Value := ⟨l.map fun x => .ref x.a⟩
theorem crefs_get (l : List Ch) (j : Nat) : (crefs l)[j]? = l[j]?.map fun o => .ref o.a := by simp [crefs]
theorem crefs_push (l : List Ch) (x : Ch) : (crefs l).push (.ref x.a) = crefs (l ++ [x]) := by simp [crefs]
theorem crefs_size (l : List Ch) : (crefs l).size = l.length := by simp [crefs]
theorem ch_split {chs : List Ch} {x : Ch} (h : x ∈ chs) : ∃ R : DM, ∀ a, cnt a (chM chs) = cnt a (chD x.a x.d x.l ⟨⟨[x.sg]⟩⟩) + cnt a (locD x.l x.ld x.f x.x x.y x.z) + cnt a R := by
  obtain ⟨R, h⟩ := cnt_split Ch.dm h
  refine ⟨R, fun a => ?_⟩
  rw [show chM chs = chs.flatMap Ch.dm from rfl, h a, Ch.dm, cnt_append]
theorem le_line {n : Nat} (h : n ≤ 100) : n ≤ sizeLine := by show n ≤ 2 ^ 24; omega
theorem lt_line {n : Nat} (h : n ≤ 100) : n < sizeLine := by show n < 2 ^ 24; omega
noncomputable def At (chs : List Ch) (p : Nat) (e : Bool) (k : Nat) (pb : Option Addr) : Prop :=
  (e = false ∧ k = p ∧ pb = none) ∨ (∃ x, chs[p]? = some x ∧ e = false ∧ k = p + 1 ∧ pb = some x.a) ∨ (p = chs.length ∧ e = true ∧ k = p ∧ pb = none)
noncomputable def AtS (chs : List Ch) (p : Nat) (e : Bool) (k : Nat) (pb : Option Addr) : Prop :=
  (∃ x, chs[p]? = some x ∧ e = false ∧ k = p + 1 ∧ pb = some x.a) ∨ (p = chs.length ∧ e = true ∧ k = p ∧ pb = none)
theorem AtS.at {chs : List Ch} {p : Nat} {e : Bool} {k : Nat} {pb : Option Addr} (h : AtS chs p e k pb) : At chs p e k pb := .inr h
noncomputable def inS (x : Str) (c : Nat) : Bool := !(Builtin.Str.occurrences x ⟨⟨[c]⟩⟩ 0 x.length 1).isEmpty
section
variable {q : Qd} (Y : Sys (K4 q)) (A : LA) (chs : List Ch)
theorem accStr (va : Str) (tv : Tok) {p : Nat} {x : Ch} (hx : chs[p]? = some x) {e : Bool} {k : Nat} {pb : Option Addr} (hat : At chs p e k pb) (X : List Ch) (hX : X.length ≤ 50) {R : DM} {s : Shared} {pos : Pos} {rest : List Frame} (hR : RestB 300 rest)
    (S : StD (K4 q) (lxD A e k pb (crefs X) (crefs chs) ++ (chM chs ++ R)) (GR A) s)
    (yes : inS va x.sg = true → ∀ s' p' c', StD (K4 q) (lxD A false (p + 1) none (crefs (X ++ [x])) (crefs chs) ++ (chM chs ++ R)) (GR A) s' → Y.H s' ⟨.pure (.done (.ret (.bool true))), c', p', rest⟩)
    (no : inS va x.sg = false → ∀ s' p' c', StD (K4 q) (lxD A false (p + 1) (some x.a) (crefs X) (crefs chs) ++ (chM chs ++ R)) (GR A) s' → Y.H s' ⟨.pure (.done (.ret (.bool false))), c', p', rest⟩) :
    Y.H s ⟨denF (cAcc A (.str va tv)), cAcc A (.str va tv), pos, rest⟩ := by
  obtain ⟨Rx, hRx⟩ := ch_split (List.mem_of_getElem? hx)
  have hk : (crefs chs)[p]? = some (.ref x.a) := by rw [crefs_get, hx]; rfl
  have h1 : (crefs X).size ≤ sizeLine := by rw [crefs_size]; exact le_line (by omega)
  have h2 : (crefs X).size < sizeLine := by rw [crefs_size]; exact lt_line (by omega)
  have hlt : p < chs.length := (List.getElem?_eq_some_iff.mp hx).1
  have S1 := S.reord (d' := (lxD A e k pb (crefs X) (crefs chs) ++ chD x.a x.d x.l ⟨⟨[x.sg]⟩⟩) ++ (locD x.l x.ld x.f x.x x.y x.z ++ (Rx ++ R))) fun a => by
    simp only [cnt_append, hRx]; omega
  have back : ∀ {e' k' pb'} {X' : List Ch} {s' : Shared}, StD (K4 q) ((lxD A e' k' pb' (crefs X') (crefs chs) ++ chD x.a x.d x.l ⟨⟨[x.sg]⟩⟩) ++ (locD x.l x.ld x.f x.x x.y x.z ++ (Rx ++ R))) (GR A) s' → StD (K4 q) (lxD A e' k' pb' (crefs X') (crefs chs) ++ (chM chs ++ R)) (GR A) s' := fun S' => S'.reord fun a => by
    simp only [cnt_append, hRx]; omega
  cases hb : inS va x.sg with
  | true =>
    have yes := yes hb
    rcases hat with ⟨rfl, rfl, rfl⟩ | ⟨x', hx', rfl, rfl, rfl⟩ | ⟨h, -⟩
    · refine AccNt Y A _ (crefs X) (crefs chs) x.a x.d x.l ⟨⟨[x.sg]⟩⟩ va tv hk h1 hb hR S1 fun i s' p' c' _ _ S' => yes s' p' _ (back ?_)
      have S2 := S'
      unfold AccNt_e at S2
      rw [crefs_push] at S2
      exact S2
    · rw [hx] at hx'; cases hx'
      refine AccSt Y A _ (crefs X) (crefs chs) false x.a x.d x.l ⟨⟨[x.sg]⟩⟩ va tv h1 hb hR S1 fun i s' p' c' _ _ S' => yes s' p' _ (back ?_)
      have S2 := S'
      unfold AccSt_e at S2
      rw [crefs_push] at S2
      exact S2
    · omega
  | false =>
    have no := no hb
    rcases hat with ⟨rfl, rfl, rfl⟩ | ⟨x', hx', rfl, rfl, rfl⟩ | ⟨h, -⟩
    · exact AccNf Y A _ (crefs X) (crefs chs) x.a x.d x.l ⟨⟨[x.sg]⟩⟩ va tv hk h1 hb h2 hR S1 fun i s' p' c' _ _ S' => no s' p' _ (back S')
    · rw [hx] at hx'; cases hx'
      exact AccSf Y A _ (crefs X) (crefs chs) false x.a x.d x.l ⟨⟨[x.sg]⟩⟩ va tv h1 hb h2 hR S1 fun i s' p' c' _ _ S' => no s' p' _ (back S')
    · omega
theorem accEnd (va : Str) (tv : Tok) {e : Bool} {k : Nat} {pb : Option Addr} (hat : At chs chs.length e k pb) (X : List Ch) {R : DM} {s : Shared} {pos : Pos} {rest : List Frame} (hR : RestB 300 rest)
    (S : StD (K4 q) (lxD A e k pb (crefs X) (crefs chs) ++ R) (GR A) s)
    (no : ∀ s' p' c', StD (K4 q) (lxD A true chs.length none (crefs X) (crefs chs) ++ R) (GR A) s' → Y.H s' ⟨.pure (.done (.ret (.bool false))), c', p', rest⟩) :
    Y.H s ⟨denF (cAcc A (.str va tv)), cAcc A (.str va tv), pos, rest⟩ := by
  have hno : chs[chs.length]? = none := List.getElem?_eq_none (Nat.le_refl _)
  rcases hat with ⟨rfl, rfl, rfl⟩ | ⟨x', hx', -⟩ | ⟨-, rfl, rfl, rfl⟩
  · exact AccE Y A _ (crefs X) (crefs chs) va tv (by rw [crefs_get, hno]; rfl) hR S fun i s' p' c' _ _ S' => no s' p' _ S'
  · rw [hno] at hx'; cases hx'
  · exact AccX Y A _ (crefs X) (crefs chs) va tv hR S fun i s' p' c' _ _ S' => no s' p' _ S'
end
end Mine
end
section
set_option maxRecDepth 100000
set_option maxHeartbeats 1000000
namespace Mine
open PySem PySem.W PySem.W.X
noncomputable def isMod : ScopeKind → Bool
  | .module => true
  | _ => false
theorem notMod {e : Env} (h : isMod e.scope.kind = false) : e.scope.kind ≠ .module := fun q => by rw [q] at h; cases h
theorem brEnv_ok (P : Params) (A : LA) (L : Nat) : isMod (brEnv P A L).scope.kind = false := by kernel_rfl
theorem startEnv_ok (P : Params) (A : LA) (L : Nat) : isMod (startEnv P A L).scope.kind = false := by kernel_rfl
theorem expEnv_ok (P : Params) (L : Nat) : isMod (expEnv P L).scope.kind = false := by kernel_rfl
theorem errEnv_ok (P : Params) (L : Nat) : isMod (errEnv P L).scope.kind = false := by kernel_rfl
theorem tokEnv_ok (P : Params) (A : LA) : isMod (tokEnv P A).scope.kind = false := by kernel_rfl
theorem readEnv_ok (P : Params) (A : LA) : isMod (readEnv P A).scope.kind = false := by kernel_rfl
noncomputable def FrIn (d : DM) (f : Addr) : Prop := ∃ kvs, (f, OD.frq kvs) ∈ d
theorem envOk_of {d : DM} {e : Env} {f : Addr} (h : isMod e.scope.kind = false) (hf : e.frame = some f) (hd : FrIn d f) : EnvOk d e := ⟨notMod h, f, hd.choose, hf, hd.choose_spec⟩
theorem envsOf_no {c : Code} {p : Pos} {l : List (Code × Pos)} (h : c.isFrame = false) : envsOf ((c, p) :: l) = envsOf l := by simp [envsOf, h]
theorem envsOf_yes {c : Code} {p : Pos} {l : List (Code × Pos)} {e : Env} (h : c.isFrame = true) (he : c.env? = some e) : envsOf ((c, p) :: l) = e :: envsOf l := by simp [envsOf, h, he]
theorem stkOk_of {d : DM} {f : Addr} {acts : List (Code × Pos)} {e : Env} {l : List (Code × Pos)} (h : envsOf acts = e :: envsOf l) (hk : isMod e.scope.kind = false) (hf : e.frame = some f) (hd : FrIn d f) (hl : ∀ x ∈ envsOf l, EnvOk d x) : StkOk d f acts :=
  ⟨⟨e, _, h, hf⟩, fun x hx => by
    rw [h] at hx
    rcases List.mem_cons.mp hx with rfl | hx
    · exact envOk_of hk hf hd
    · exact hl x hx⟩
theorem RestE.mono {d d' : DM} {rest : List Frame} (h : RestE d rest) (hd : ∀ x ∈ d, x ∈ d') : RestE d' rest := fun x hx => by
  obtain ⟨h1, f', kvs, h2, h3⟩ := h x hx
  exact ⟨h1, f', kvs, h2, hd _ h3⟩
section
variable {q : Qd} (Y : Sys (K4 q)) (A : LA) {d : DM} {e dc ar : Addr}
theorem unwindO (L : Nat) {rest : List Frame} (hR : RestB 300 rest) (hL : FrIn d L) (hE : RestE d rest) {s : Shared} {c : Code} {p : Pos} (S : ExcAt (K4 q) e dc ar .none d (GR A) s)
    (next : ∀ s' c' p', ExcAt (K4 q) e dc ar .none d (GR A) s' → Y.H s' ⟨.raise (.ref e), c', p', rest⟩) : Y.H s ⟨.raise (.ref e), c, p, fsO q.P A L ++ rest⟩ := by
  obtain ⟨r1, r2, r3, c1, c2, c3, hfs, ⟨h1, h2⟩, ⟨h3, h4⟩, hk⟩ := fsO_err q.P A L
  have e1 : fsO q.P A L ++ rest = r1.fr c1 :: ((fsO q.P A L).tail ++ rest) := by rw [hfs]; rfl
  have t2 : ∀ (c₀ : Code) (p₀ : Pos), c₀.isFrame = false → envsOf ((c₀, p₀) :: ((fsO q.P A L).tail ++ rest).map Frame.where_) = brEnv q.P A L :: envsOf (rest.map Frame.where_) := fun c₀ p₀ h => by
    rw [hfs, envsOf_no h]
    show envsOf ((c2, _) :: (c3, _) :: rest.map Frame.where_) = _
    rw [envsOf_no h2, envsOf_yes h3 h4]
  rw [e1]
  refine Y.pop ?_
  rw [hk e]
  refine Y.lot1 (env := brEnv q.P A L) (f := L) rfl (stkOk_of (t2 _ _ h1) (brEnv_ok _ _ _) rfl hL hE) S fun s1 p1 S1 => ?_
  obtain ⟨t, nx, fr, v, S1⟩ := S1
  refine OwL Y A L e dc ar t nx fr (rawInt L) v c1 hR (show StD (K4 q) ((([(t, .raw (tbO nx fr (rawInt L) v))] : DM) ++ [(e, .raw (excO dc ar (.ref t)))]) ++ d) (GR A) s1 from S1) fun i s2 p2 c2' _ _ S2 => ?_
  refine Y.lotSame (env := brEnv q.P A L) (f := L) rfl ⟨t, nx, fr, v, S2⟩ fun p3 => ?_
  refine OwF Y A L e dc ar t nx fr (rawInt L) v _ hR (show StD (K4 q) ((([(t, .raw (tbO nx fr (rawInt L) v))] : DM) ++ [(e, .raw (excO dc ar (.ref t)))]) ++ d) (GR A) s2 from S2) fun i s3 p4 c3' _ _ S3 => ?_
  have e5 : (OwF_e q A L e dc ar t nx fr (rawInt L) v i).fs ++ rest = rest := by show (fsO q.P A L).tail.tail.tail ++ rest = rest; rw [hfs]; rfl
  rw [e5]
  exact Y.leaveSame (env := brEnv q.P A L) (f := L) rfl ⟨t, nx, fr, v, S3⟩ fun s4 S4 => next s4 _ _ S4
theorem unwindX (L : Nat) {rest : List Frame} (hR : RestB 300 rest) (hL : FrIn d L) (hE : RestE d rest) {s : Shared} {c : Code} {p : Pos} (S : ExcAt (K4 q) e dc ar .none d (GR A) s)
    (next : ∀ s' c' p', ExcAt (K4 q) e dc ar .none d (GR A) s' → Y.H s' ⟨.raise (.ref e), c', p', rest⟩) : Y.H s ⟨.raise (.ref e), c, p, fsX q.P A L ++ rest⟩ := by
  obtain ⟨r1, r2, c1, c2, hfs, h1, ⟨h3, h4⟩, hk⟩ := fsX_err q.P A L
  have e1 : fsX q.P A L ++ rest = r1.fr c1 :: ((fsX q.P A L).tail ++ rest) := by rw [hfs]; rfl
  have t2 : ∀ (c₀ : Code) (p₀ : Pos), c₀.isFrame = false → envsOf ((c₀, p₀) :: ((fsX q.P A L).tail ++ rest).map Frame.where_) = brEnv q.P A L :: envsOf (rest.map Frame.where_) := fun c₀ p₀ h => by
    rw [hfs, envsOf_no h]
    show envsOf ((c2, _) :: rest.map Frame.where_) = _
    rw [envsOf_yes h3 h4]
  rw [e1]
  refine Y.pop ?_
  rw [hk e]
  refine Y.lot1 (env := brEnv q.P A L) (f := L) rfl (stkOk_of (t2 _ _ h1) (brEnv_ok _ _ _) rfl hL hE) S fun s1 p1 S1 => ?_
  obtain ⟨t, nx, fr, v, S1⟩ := S1
  refine OwX Y A L e dc ar t nx fr (rawInt L) v c1 hR (show StD (K4 q) ((([(t, .raw (tbO nx fr (rawInt L) v))] : DM) ++ [(e, .raw (excO dc ar (.ref t)))]) ++ d) (GR A) s1 from S1) fun i s2 p2 c2' _ _ S2 => ?_
  have e5 : (OwX_e q A L e dc ar t nx fr (rawInt L) v i).fs ++ rest = rest := by show (fsX q.P A L).tail.tail ++ rest = rest; rw [hfs]; rfl
  rw [e5]
  exact Y.leaveSame (env := brEnv q.P A L) (f := L) rfl ⟨t, nx, fr, v, S2⟩ fun s4 S4 => next s4 _ _ S4
theorem unwindF {fs : List Frame} {env : Env} {f : Addr} (h : ∃ r c, fs = [RF.fr r c] ∧ (c.isFrame = true ∧ c.env? = some env) ∧ ∀ e, r.k (.error (.ref e)) = errF env e) (hk : isMod env.scope.kind = false) (hf : env.frame = some f) {rest : List Frame} (hL : FrIn d f) (hE : RestE d rest) {gm : GMem} {s : Shared} {c : Code} {p : Pos}
    (S : ExcAt (K4 q) e dc ar .none d gm s) (next : ∀ s' c' p', ExcAt (K4 q) e dc ar .none d gm s' → Y.H s' ⟨.raise (.ref e), c', p', rest⟩) : Y.H s ⟨.raise (.ref e), c, p, fs ++ rest⟩ := by
  obtain ⟨r, c1, rfl, ⟨h1, h2⟩, hk'⟩ := h
  refine Y.pop ?_
  rw [hk' e]
  exact Y.leave1 hf (stkOk_of (envsOf_yes h1 h2) hk hf hL hE) S fun s4 S4 => next s4 _ _ S4
noncomputable def frB (P : Params) (A : LA) : List (Addr × Op) → List Frame
  | [] => []
  | x :: r => fsO P A x.1 ++ frB P A r
noncomputable def lvM : List (Addr × Op) → DM
  | [] => []
  | x :: r => lvF x.1 x.2.o ++ lvM r
theorem unwindAll : ∀ (st : List (Addr × Op)) {rest : List Frame}, (∀ x ∈ st, FrIn d x.1) → (∀ st' : List (Addr × Op), st' <:+ st → RestB 300 (frB q.P A st' ++ rest) ∧ RestE d (frB q.P A st' ++ rest)) → ∀ {s : Shared} {c : Code} {p : Pos}, ExcAt (K4 q) e dc ar .none d (GR A) s →
    (∀ s' c' p', ExcAt (K4 q) e dc ar .none d (GR A) s' → Y.H s' ⟨.raise (.ref e), c', p', rest⟩) → Y.H s ⟨.raise (.ref e), c, p, frB q.P A st ++ rest⟩
  | [], _, _, _, _, _, _, S, next => next _ _ _ S
  | x :: r, rest, hd, hR, s, c, p, S, next => by
    have e1 : frB q.P A (x :: r) ++ rest = fsO q.P A x.1 ++ (frB q.P A r ++ rest) := List.append_assoc ..
    rw [e1]
    have h := hR r (List.suffix_cons x r)
    exact unwindO Y A x.1 h.1 (hd x (List.mem_cons_self ..)) h.2 S fun s' c' p' S' =>
      unwindAll r (fun y hy => hd y (List.mem_cons_of_mem _ hy)) (fun st' hs => hR st' (hs.trans (List.suffix_cons x r))) S' next
end
end Mine
end
section
set_option maxRecDepth 100000
set_option maxHeartbeats 1000000
namespace Mine
open PySem PySem.W PySem.W.X
noncomputable def NF (fs : List Frame) : Prop := ∀ {m : Nat} {rest : List Frame}, RestB m rest → RestB (m + 2) (fs ++ rest)
theorem nf_of {fs : List Frame} (h1 : ∀ rest, topHandled (fs ++ rest) = topHandled rest) (h2 : ∀ rest, topHandled.go true (fs ++ rest) = topHandled.go true rest) (h3 : wts (fs.map Frame.where_) ≤ 2) : NF fs := fun {m rest} h =>
  ⟨(h1 rest).trans h.top, (h2 rest).trans h.past, by
    have e : wts ((fs ++ rest).map Frame.where_) = wts (fs.map Frame.where_) + wts (rest.map Frame.where_) := by
      unfold wts
      rw [List.map_append, List.map_append, List.sum_append]
    rw [e]
    have := h.few
    omega⟩
theorem RestB.le {n : Nat} {rest : List Frame} (h : RestB n rest) (hn : n ≤ 300) : RestB 300 rest := h.mono hn
theorem one_le_two {n : Nat} (h : n = 1) : n ≤ 2 := by omega
theorem zero_le_two {n : Nat} (h : n = 0) : n ≤ 2 := by omega
theorem two_le_two {n : Nat} (h : n = 2) : n ≤ 2 := by omega
theorem nf_B1 (P : Params) (A : LA) (L : Nat) (rest : List Frame) : topHandled (fsB P A L ++ rest) = topHandled rest := by kernel_rfl
theorem nf_B2 (P : Params) (A : LA) (L : Nat) (rest : List Frame) : topHandled.go true (fsB P A L ++ rest) = topHandled.go true rest := by kernel_rfl
theorem nf_B3 (P : Params) (A : LA) (L : Nat) : wts ((fsB P A L).map Frame.where_) = 1 := by kernel_rfl
theorem nf_B (P : Params) (A : LA) (L : Nat) : NF (fsB P A L) := nf_of (nf_B1 P A L) (nf_B2 P A L) (one_le_two (nf_B3 P A L))
theorem nf_W1 (P : Params) (A : LA) (L : Nat) (rest : List Frame) : topHandled (fsW P A L ++ rest) = topHandled rest := by kernel_rfl
theorem nf_W2 (P : Params) (A : LA) (L : Nat) (rest : List Frame) : topHandled.go true (fsW P A L ++ rest) = topHandled.go true rest := by kernel_rfl
theorem nf_W3 (P : Params) (A : LA) (L : Nat) : wts ((fsW P A L).map Frame.where_) = 1 := by kernel_rfl
theorem nf_W (P : Params) (A : LA) (L : Nat) : NF (fsW P A L) := nf_of (nf_W1 P A L) (nf_W2 P A L) (one_le_two (nf_W3 P A L))
theorem nf_O1 (P : Params) (A : LA) (L : Nat) (rest : List Frame) : topHandled (fsO P A L ++ rest) = topHandled rest := by kernel_rfl
theorem nf_O2 (P : Params) (A : LA) (L : Nat) (rest : List Frame) : topHandled.go true (fsO P A L ++ rest) = topHandled.go true rest := by kernel_rfl
theorem nf_O3 (P : Params) (A : LA) (L : Nat) : wts ((fsO P A L).map Frame.where_) = 1 := by kernel_rfl
theorem nf_O (P : Params) (A : LA) (L : Nat) : NF (fsO P A L) := nf_of (nf_O1 P A L) (nf_O2 P A L) (one_le_two (nf_O3 P A L))
theorem nf_X1 (P : Params) (A : LA) (L : Nat) (rest : List Frame) : topHandled (fsX P A L ++ rest) = topHandled rest := by kernel_rfl
theorem nf_X2 (P : Params) (A : LA) (L : Nat) (rest : List Frame) : topHandled.go true (fsX P A L ++ rest) = topHandled.go true rest := by kernel_rfl
theorem nf_X3 (P : Params) (A : LA) (L : Nat) : wts ((fsX P A L).map Frame.where_) = 1 := by kernel_rfl
theorem nf_X (P : Params) (A : LA) (L : Nat) : NF (fsX P A L) := nf_of (nf_X1 P A L) (nf_X2 P A L) (one_le_two (nf_X3 P A L))
theorem nf_E1 (P : Params) (A : LA) (L : Nat) (rest : List Frame) : topHandled (fsE P A L ++ rest) = topHandled rest := by kernel_rfl
theorem nf_E2 (P : Params) (A : LA) (L : Nat) (rest : List Frame) : topHandled.go true (fsE P A L ++ rest) = topHandled.go true rest := by kernel_rfl
theorem nf_E3 (P : Params) (A : LA) (L : Nat) : wts ((fsE P A L).map Frame.where_) = 1 := by kernel_rfl
theorem nf_E (P : Params) (A : LA) (L : Nat) : NF (fsE P A L) := nf_of (nf_E1 P A L) (nf_E2 P A L) (one_le_two (nf_E3 P A L))
theorem nf_R1 (P : Params) (A : LA) (L : Nat) (rest : List Frame) : topHandled (fsR P A L ++ rest) = topHandled rest := by kernel_rfl
theorem nf_R2 (P : Params) (A : LA) (L : Nat) (rest : List Frame) : topHandled.go true (fsR P A L ++ rest) = topHandled.go true rest := by kernel_rfl
theorem nf_R3 (P : Params) (A : LA) (L : Nat) : wts ((fsR P A L).map Frame.where_) = 1 := by kernel_rfl
theorem nf_R (P : Params) (A : LA) (L : Nat) : NF (fsR P A L) := nf_of (nf_R1 P A L) (nf_R2 P A L) (one_le_two (nf_R3 P A L))
theorem nf_S11 (P : Params) (A : LA) (L : Nat) (rest : List Frame) : topHandled (fsS1 P A L ++ rest) = topHandled rest := by kernel_rfl
theorem nf_S12 (P : Params) (A : LA) (L : Nat) (rest : List Frame) : topHandled.go true (fsS1 P A L ++ rest) = topHandled.go true rest := by kernel_rfl
theorem nf_S13 (P : Params) (A : LA) (L : Nat) : wts ((fsS1 P A L).map Frame.where_) = 1 := by kernel_rfl
theorem nf_S1 (P : Params) (A : LA) (L : Nat) : NF (fsS1 P A L) := nf_of (nf_S11 P A L) (nf_S12 P A L) (one_le_two (nf_S13 P A L))
theorem nf_S21 (P : Params) (A : LA) (L : Nat) (rest : List Frame) : topHandled (fsS2 P A L ++ rest) = topHandled rest := by kernel_rfl
theorem nf_S22 (P : Params) (A : LA) (L : Nat) (rest : List Frame) : topHandled.go true (fsS2 P A L ++ rest) = topHandled.go true rest := by kernel_rfl
theorem nf_S23 (P : Params) (A : LA) (L : Nat) : wts ((fsS2 P A L).map Frame.where_) = 1 := by kernel_rfl
theorem nf_S2 (P : Params) (A : LA) (L : Nat) : NF (fsS2 P A L) := nf_of (nf_S21 P A L) (nf_S22 P A L) (one_le_two (nf_S23 P A L))
theorem nf_S31 (P : Params) (A : LA) (L : Nat) (rest : List Frame) : topHandled (fsS3 P A L ++ rest) = topHandled rest := by kernel_rfl
theorem nf_S32 (P : Params) (A : LA) (L : Nat) (rest : List Frame) : topHandled.go true (fsS3 P A L ++ rest) = topHandled.go true rest := by kernel_rfl
theorem nf_S33 (P : Params) (A : LA) (L : Nat) : wts ((fsS3 P A L).map Frame.where_) = 1 := by kernel_rfl
theorem nf_S3 (P : Params) (A : LA) (L : Nat) : NF (fsS3 P A L) := nf_of (nf_S31 P A L) (nf_S32 P A L) (one_le_two (nf_S33 P A L))
theorem nf_S41 (P : Params) (A : LA) (L : Nat) (rest : List Frame) : topHandled (fsS4 P A L ++ rest) = topHandled rest := by kernel_rfl
theorem nf_S42 (P : Params) (A : LA) (L : Nat) (rest : List Frame) : topHandled.go true (fsS4 P A L ++ rest) = topHandled.go true rest := by kernel_rfl
theorem nf_S43 (P : Params) (A : LA) (L : Nat) : wts ((fsS4 P A L).map Frame.where_) = 1 := by kernel_rfl
theorem nf_S4 (P : Params) (A : LA) (L : Nat) : NF (fsS4 P A L) := nf_of (nf_S41 P A L) (nf_S42 P A L) (one_le_two (nf_S43 P A L))
theorem nf_S51 (P : Params) (A : LA) (L : Nat) (rest : List Frame) : topHandled (fsS5 P A L ++ rest) = topHandled rest := by kernel_rfl
theorem nf_S52 (P : Params) (A : LA) (L : Nat) (rest : List Frame) : topHandled.go true (fsS5 P A L ++ rest) = topHandled.go true rest := by kernel_rfl
theorem nf_S53 (P : Params) (A : LA) (L : Nat) : wts ((fsS5 P A L).map Frame.where_) = 1 := by kernel_rfl
theorem nf_S5 (P : Params) (A : LA) (L : Nat) : NF (fsS5 P A L) := nf_of (nf_S51 P A L) (nf_S52 P A L) (one_le_two (nf_S53 P A L))
theorem nf_S61 (P : Params) (A : LA) (L : Nat) (rest : List Frame) : topHandled (fsS6 P A L ++ rest) = topHandled rest := by kernel_rfl
theorem nf_S62 (P : Params) (A : LA) (L : Nat) (rest : List Frame) : topHandled.go true (fsS6 P A L ++ rest) = topHandled.go true rest := by kernel_rfl
theorem nf_S63 (P : Params) (A : LA) (L : Nat) : wts ((fsS6 P A L).map Frame.where_) = 1 := by kernel_rfl
theorem nf_S6 (P : Params) (A : LA) (L : Nat) : NF (fsS6 P A L) := nf_of (nf_S61 P A L) (nf_S62 P A L) (one_le_two (nf_S63 P A L))
theorem nf_M1 (P : Params) (A : LA) (L : Nat) (rest : List Frame) : topHandled (fsM P A L ++ rest) = topHandled rest := by kernel_rfl
theorem nf_M2 (P : Params) (A : LA) (L : Nat) (rest : List Frame) : topHandled.go true (fsM P A L ++ rest) = topHandled.go true rest := by kernel_rfl
theorem nf_M3 (P : Params) (A : LA) (L : Nat) : wts ((fsM P A L).map Frame.where_) = 1 := by kernel_rfl
theorem nf_M (P : Params) (A : LA) (L : Nat) : NF (fsM P A L) := nf_of (nf_M1 P A L) (nf_M2 P A L) (one_le_two (nf_M3 P A L))
theorem nf_G1 (P : Params) (A : LA) (rest : List Frame) : topHandled (fsG P A ++ rest) = topHandled rest := by kernel_rfl
theorem nf_G2 (P : Params) (A : LA) (rest : List Frame) : topHandled.go true (fsG P A ++ rest) = topHandled.go false rest := by kernel_rfl
theorem nf_G3 (P : Params) (A : LA) : wts ((fsG P A).map Frame.where_) = 2 := by kernel_rfl
theorem nf_J1 (P : Params) (A : LA) (L : Nat) (t : Tok) (g : Nat) (rest : List Frame) : topHandled (fsJ P A L t g ++ rest) = topHandled rest := by kernel_rfl
theorem nf_J2 (P : Params) (A : LA) (L : Nat) (t : Tok) (g : Nat) (rest : List Frame) : topHandled.go true (fsJ P A L t g ++ rest) = topHandled.go true rest := by kernel_rfl
theorem nf_J3 (P : Params) (A : LA) (L : Nat) (t : Tok) (g : Nat) : wts ((fsJ P A L t g).map Frame.where_) = 0 := by kernel_rfl
theorem nf_J (P : Params) (A : LA) (L : Nat) (t : Tok) (g : Nat) : NF (fsJ P A L t g) := nf_of (nf_J1 P A L t g) (nf_J2 P A L t g) (zero_le_two (nf_J3 P A L t g))
theorem nf_N1 (P : Params) (l g : Nat) (p : Pos) (rest : List Frame) : topHandled (fsN P l g p ++ rest) = topHandled rest := by kernel_rfl
theorem nf_N2 (P : Params) (l g : Nat) (p : Pos) (rest : List Frame) : topHandled.go true (fsN P l g p ++ rest) = topHandled.go true rest := by kernel_rfl
theorem nf_N3 (P : Params) (l g : Nat) (p : Pos) : wts ((fsN P l g p).map Frame.where_) = 0 := by kernel_rfl
theorem nf_N (P : Params) (l g : Nat) (p : Pos) : NF (fsN P l g p) := nf_of (nf_N1 P l g p) (nf_N2 P l g p) (zero_le_two (nf_N3 P l g p))
theorem nf_G (P : Params) (A : LA) {m : Nat} {rest : List Frame} (h : RestB m rest) : RestB (m + 2) (fsG P A ++ rest) :=
  ⟨(nf_G1 P A rest).trans h.top, (nf_G2 P A rest).trans h.top, by
    have e : wts ((fsG P A ++ rest).map Frame.where_) = wts ((fsG P A).map Frame.where_) + wts (rest.map Frame.where_) := by
      unfold wts
      rw [List.map_append, List.map_append, List.sum_append]
    rw [e, nf_G3]
    have := h.few
    omega⟩
theorem nf_frB (P : Params) (A : LA) : ∀ (st : List (Addr × Op)) {m : Nat} {rest : List Frame}, RestB m rest → RestB (m + 2 * st.length) (frB P A st ++ rest)
  | [], _, _, h => h
  | x :: r, m, rest, h => by
    have := nf_O P A x.1 (nf_frB P A r h)
    have e1 : frB P A (x :: r) ++ rest = fsO P A x.1 ++ (frB P A r ++ rest) := List.append_assoc ..
    rw [e1]
    exact this.mono (by rw [List.length_cons]; omega)
theorem cnt_two (a x y) (l : DM) : cnt a (x :: y :: l) = cnt a [x] + cnt a (y :: l) := cnt_append a [x] (y :: l)
end Mine
end
section
set_option maxRecDepth 100000
set_option maxHeartbeats 1000000
namespace Mine
open PySem PySem.W PySem.W.X
noncomputable def sLP : Str := ⟨⟨[40]⟩⟩
noncomputable def sLB : Str := ⟨⟨[91]⟩⟩
noncomputable def sLC : Str := ⟨⟨[123]⟩⟩
noncomputable def sAS : Str := ⟨⟨[97, 32]⟩⟩
section
variable {q : Qd} (Y : Sys (K4 q)) (A : LA) (chs : List Ch)
noncomputable def LX (A : LA) (chs : List Ch) (e : Bool) (k : Nat) (pb : Option Addr) (X : List Ch) : DM := lxD A e k pb (crefs X) (crefs chs) ++ chM chs
noncomputable def hD (A : LA) : DM := [(A.ch, .cell (some (.ref A.sf)))]
noncomputable def alpha : List Nat := [40, 91, 123, 41, 93, 125, 32, 97]
theorem inS_one : ∀ y ∈ alpha, ∀ x ∈ alpha, inS ⟨⟨[y]⟩⟩ x = (y == x) := by unfold inS; decide +kernel
theorem hjt {y x : Nat} (hy : y ∈ alpha) (hx : x ∈ alpha) (h : inS ⟨⟨[y]⟩⟩ x = true) : x = y := by
  rw [inS_one y hy x hx] at h
  exact (beq_iff_eq.mp h).symm
theorem hjf {y x : Nat} (hy : y ∈ alpha) (hx : x ∈ alpha) (h : inS ⟨⟨[y]⟩⟩ x = false) : x ≠ y := by
  rw [inS_one y hy x hx] at h
  intro e
  rw [e, beq_self_eq_true] at h
  cases h
theorem brTry {p : Nat} {x : Ch} (hx : chs[p]? = some x) (hal : x.sg ∈ alpha) {e : Bool} {k : Nat} {pb : Option Addr} (hat : At chs p e k pb) (X : List Ch) (hX : X.length ≤ 50) {R : DM} {s : Shared} {pos : Pos} {rest : List Frame} (hR : RestB 298 rest)
    (S : StD (K4 q) (LX A chs e k pb X ++ (rdB q.P A ++ R)) (GR A) s)
    (yes : ∀ (j : Op) (L : Nat), x.sg = j.o → ∀ s' p' (t : Tok), StD (K4 q) (LX A chs false (p + 1) none (X ++ [x]) ++ (rdB q.P A ++ (lvF L j.o ++ R))) (GR A) s' → Y.H s' ⟨denF (cAcc A (.str sAS t)), cAcc A (.str sAS t), p', fsW q.P A L ++ rest⟩)
    (no : x.sg ≠ 40 → x.sg ≠ 91 → x.sg ≠ 123 → ∀ s' p' c', StD (K4 q) (LX A chs false (p + 1) (some x.a) X ++ (rdB q.P A ++ R)) (GR A) s' → Y.H s' ⟨.pure (.done (.ret (.bool false))), c', p', rest⟩) :
    Y.H s ⟨denF (cBr A), cBr A, pos, rest⟩ := by
  have hat2 : At chs p false (p + 1) (some x.a) := .inr (.inl ⟨x, hx, rfl, rfl, rfl⟩)
  have hR0 : RestB 300 rest := hR.le (by omega)
  have hRB : ∀ L, RestB 300 (fsB q.P A L ++ rest) := fun L => (nf_B q.P A L hR).le (by omega)
  refine BR0 Y A hR0 ((StD.reord (d' := ((smD A ++ rdB q.P A) ++ (lmD A e k pb (crefs X) (crefs chs) ++ (chM chs ++ R)))) S fun a => by simp only [cnt_append, cnt_two, cnt_nil, Nat.add_zero, Nat.zero_add, LX, lxD] <;> ac_rfl)) fun i s1 p1 c1 _ _ S1 => ?_
  refine accStr Y A chs sLP _ hx hat X hX (hRB i.N) ((StD.reord (d' := (lxD A e k pb (crefs X) (crefs chs) ++ (chM chs ++ (rdB q.P A ++ (lvF i.N 40 ++ lvI i.N 1 ++ R))))) S1 fun a => by simp only [cnt_append, cnt_two, cnt_nil, Nat.add_zero, Nat.zero_add, BR0_e, lxD] <;> ac_rfl)) (fun hb s2 p2 c2 S2 => ?_) fun hb s2 p2 c2 S2 => ?_
  · have e1 := hjt (by decide) hal hb
    refine BRt Y A i.N c2 hR0 ((StD.reord (d' := ((smD A ++ hD A) ++ (lmD A false (p + 1) none (crefs (X ++ [x])) (crefs chs) ++ (chM chs ++ (([(A.fbr, .raw (brO q.P A)), (A.bcode, bcD A), (A.cbr, .cell (some (.ref A.fbr)))] : DM) ++ (lvF i.N 40 ++ lvI i.N 1 ++ R)))))) S2 fun a => by simp only [cnt_append, cnt_two, cnt_nil, Nat.add_zero, Nat.zero_add, hD, lxD, rdB] <;> ac_rfl)) fun i3 s3 p3 c3 _ _ S3 => ?_
    exact yes .p i.N e1 s3 p3 _ ((StD.mem_drop (d' := (LX A chs false (p + 1) none (X ++ [x]) ++ (rdB q.P A ++ (lvF i.N Op.p.o ++ R)))) (e := (lvI i.N 1)) S3 fun a => by simp only [cnt_append, cnt_two, cnt_nil, Nat.add_zero, Nat.zero_add, BRt_e, LX, lxD, rdB, Op.o] <;> ac_rfl))
  refine BRn1 Y A i.N c2 hR0 ((StD.reord (d' := ((smD A ++ (hD A ++ (lvF i.N 40 ++ lvI i.N 1))) ++ (lmD A false (p + 1) (some x.a) (crefs X) (crefs chs) ++ (chM chs ++ (([(A.fbr, .raw (brO q.P A)), (A.bcode, bcD A), (A.cbr, .cell (some (.ref A.fbr)))] : DM) ++ R))))) S2 fun a => by simp only [cnt_append, cnt_two, cnt_nil, Nat.add_zero, Nat.zero_add, hD, lxD, rdB] <;> ac_rfl)) fun i1 s3 p3 c3 _ _ S3 => ?_
  refine accStr Y A chs sLB _ hx hat2 X hX (hRB i.N) ((StD.reord (d' := (lxD A false (p + 1) (some x.a) (crefs X) (crefs chs) ++ (chM chs ++ (rdB q.P A ++ (lvF i.N 91 ++ lvI i.N 2 ++ R))))) S3 fun a => by simp only [cnt_append, cnt_two, cnt_nil, Nat.add_zero, Nat.zero_add, BRn1_e, lxD, rdB] <;> ac_rfl)) (fun hb s2 p2 c2 S2 => ?_) fun hb2 s2 p2 c2 S2 => ?_
  · have e1 := hjt (by decide) hal hb
    refine BRt Y A i.N c2 hR0 ((StD.reord (d' := ((smD A ++ hD A) ++ (lmD A false (p + 1) none (crefs (X ++ [x])) (crefs chs) ++ (chM chs ++ (([(A.fbr, .raw (brO q.P A)), (A.bcode, bcD A), (A.cbr, .cell (some (.ref A.fbr)))] : DM) ++ (lvF i.N 91 ++ lvI i.N 2 ++ R)))))) S2 fun a => by simp only [cnt_append, cnt_two, cnt_nil, Nat.add_zero, Nat.zero_add, hD, lxD, rdB] <;> ac_rfl)) fun i3 s3 p3 c3 _ _ S3 => ?_
    exact yes .b i.N e1 s3 p3 _ ((StD.mem_drop (d' := (LX A chs false (p + 1) none (X ++ [x]) ++ (rdB q.P A ++ (lvF i.N Op.b.o ++ R)))) (e := (lvI i.N 2)) S3 fun a => by simp only [cnt_append, cnt_two, cnt_nil, Nat.add_zero, Nat.zero_add, BRt_e, LX, lxD, rdB, Op.o] <;> ac_rfl))
  refine BRn2 Y A i.N c2 hR0 ((StD.reord (d' := ((smD A ++ (hD A ++ (lvF i.N 91 ++ lvI i.N 2))) ++ (lmD A false (p + 1) (some x.a) (crefs X) (crefs chs) ++ (chM chs ++ (([(A.fbr, .raw (brO q.P A)), (A.bcode, bcD A), (A.cbr, .cell (some (.ref A.fbr)))] : DM) ++ R))))) S2 fun a => by simp only [cnt_append, cnt_two, cnt_nil, Nat.add_zero, Nat.zero_add, hD, lxD, rdB] <;> ac_rfl)) fun i1 s3 p3 c3 _ _ S3 => ?_
  refine accStr Y A chs sLC _ hx hat2 X hX (hRB i.N) ((StD.reord (d' := (lxD A false (p + 1) (some x.a) (crefs X) (crefs chs) ++ (chM chs ++ (rdB q.P A ++ (lvF i.N 123 ++ lvI i.N 3 ++ R))))) S3 fun a => by simp only [cnt_append, cnt_two, cnt_nil, Nat.add_zero, Nat.zero_add, BRn2_e, lxD, rdB] <;> ac_rfl)) (fun hb s2 p2 c2 S2 => ?_) fun hb3 s2 p2 c2 S2 => ?_
  · have e1 := hjt (by decide) hal hb
    refine BRt Y A i.N c2 hR0 ((StD.reord (d' := ((smD A ++ hD A) ++ (lmD A false (p + 1) none (crefs (X ++ [x])) (crefs chs) ++ (chM chs ++ (([(A.fbr, .raw (brO q.P A)), (A.bcode, bcD A), (A.cbr, .cell (some (.ref A.fbr)))] : DM) ++ (lvF i.N 123 ++ lvI i.N 3 ++ R)))))) S2 fun a => by simp only [cnt_append, cnt_two, cnt_nil, Nat.add_zero, Nat.zero_add, hD, lxD, rdB] <;> ac_rfl)) fun i3 s3 p3 c3 _ _ S3 => ?_
    exact yes .c i.N e1 s3 p3 _ ((StD.mem_drop (d' := (LX A chs false (p + 1) none (X ++ [x]) ++ (rdB q.P A ++ (lvF i.N Op.c.o ++ R)))) (e := (lvI i.N 3)) S3 fun a => by simp only [cnt_append, cnt_two, cnt_nil, Nat.add_zero, Nat.zero_add, BRt_e, LX, lxD, rdB, Op.o] <;> ac_rfl))
  refine BRz Y A i.N c2 hR0 ((StD.reord (d' := ((smD A ++ (hD A ++ (lvF i.N 123 ++ lvI i.N 3))) ++ (lmD A false (p + 1) (some x.a) (crefs X) (crefs chs) ++ (chM chs ++ (([(A.fbr, .raw (brO q.P A)), (A.bcode, bcD A), (A.cbr, .cell (some (.ref A.fbr)))] : DM) ++ R))))) S2 fun a => by simp only [cnt_append, cnt_two, cnt_nil, Nat.add_zero, Nat.zero_add, hD, lxD, rdB] <;> ac_rfl)) fun i3 s3 p3 c3 _ _ S3 => ?_
  exact no (hjf (by decide) hal hb) (hjf (by decide) hal hb2) (hjf (by decide) hal hb3) s3 p3 _ ((StD.reord (d' := (LX A chs false (p + 1) (some x.a) X ++ (rdB q.P A ++ R))) S3 fun a => by simp only [cnt_append, cnt_two, cnt_nil, Nat.add_zero, Nat.zero_add, BRz_e, LX, lxD, rdB] <;> ac_rfl))
end
end Mine
end
section
set_option maxRecDepth 100000
set_option maxHeartbeats 1000000
namespace Mine
open PySem PySem.W PySem.W.X
section
variable {q : Qd} (Y : Sys (K4 q)) (A : LA) (chs : List Ch)
theorem brEnd {e : Bool} {k : Nat} {pb : Option Addr} (hat : At chs chs.length e k pb) (X : List Ch) {R : DM} {s : Shared} {pos : Pos} {rest : List Frame} (hR : RestB 298 rest)
    (S : StD (K4 q) (LX A chs e k pb X ++ (rdB q.P A ++ R)) (GR A) s)
    (no : ∀ s' p' c', StD (K4 q) (LX A chs true chs.length none X ++ (rdB q.P A ++ R)) (GR A) s' → Y.H s' ⟨.pure (.done (.ret (.bool false))), c', p', rest⟩) :
    Y.H s ⟨denF (cBr A), cBr A, pos, rest⟩ := by
  have hat2 : At chs chs.length true chs.length none := .inr (.inr ⟨rfl, rfl, rfl, rfl⟩)
  have hR0 : RestB 300 rest := hR.le (by omega)
  have hRB : ∀ L, RestB 300 (fsB q.P A L ++ rest) := fun L => (nf_B q.P A L hR).le (by omega)
  refine BR0 Y A hR0 ((StD.reord (d' := ((smD A ++ rdB q.P A) ++ (lmD A e k pb (crefs X) (crefs chs) ++ (chM chs ++ R)))) S fun a => by simp only [cnt_append, cnt_two, cnt_nil, Nat.add_zero, Nat.zero_add, LX, lxD] <;> ac_rfl)) fun i s1 p1 c1 _ _ S1 => ?_
  refine accEnd Y A chs sLP _ hat X (hRB i.N) ((StD.reord (d' := (lxD A e k pb (crefs X) (crefs chs) ++ (chM chs ++ (rdB q.P A ++ (lvF i.N 40 ++ lvI i.N 1 ++ R))))) S1 fun a => by simp only [cnt_append, cnt_two, cnt_nil, Nat.add_zero, Nat.zero_add, BR0_e, lxD] <;> ac_rfl)) fun s2 p2 c2 S2 => ?_
  refine BRn1 Y A i.N c2 hR0 ((StD.reord (d' := ((smD A ++ (hD A ++ (lvF i.N 40 ++ lvI i.N 1))) ++ (lmD A true chs.length none (crefs X) (crefs chs) ++ (chM chs ++ (([(A.fbr, .raw (brO q.P A)), (A.bcode, bcD A), (A.cbr, .cell (some (.ref A.fbr)))] : DM) ++ R))))) S2 fun a => by simp only [cnt_append, cnt_two, cnt_nil, Nat.add_zero, Nat.zero_add, hD, lxD, rdB] <;> ac_rfl)) fun i1 s3 p3 c3 _ _ S3 => ?_
  refine accEnd Y A chs sLB _ hat2 X (hRB i.N) ((StD.reord (d' := (lxD A true chs.length none (crefs X) (crefs chs) ++ (chM chs ++ (rdB q.P A ++ (lvF i.N 91 ++ lvI i.N 2 ++ R))))) S3 fun a => by simp only [cnt_append, cnt_two, cnt_nil, Nat.add_zero, Nat.zero_add, BRn1_e, lxD, rdB] <;> ac_rfl)) fun s2 p2 c2 S2 => ?_
  refine BRn2 Y A i.N c2 hR0 ((StD.reord (d' := ((smD A ++ (hD A ++ (lvF i.N 91 ++ lvI i.N 2))) ++ (lmD A true chs.length none (crefs X) (crefs chs) ++ (chM chs ++ (([(A.fbr, .raw (brO q.P A)), (A.bcode, bcD A), (A.cbr, .cell (some (.ref A.fbr)))] : DM) ++ R))))) S2 fun a => by simp only [cnt_append, cnt_two, cnt_nil, Nat.add_zero, Nat.zero_add, hD, lxD, rdB] <;> ac_rfl)) fun i2 s3 p3 c3 _ _ S3 => ?_
  refine accEnd Y A chs sLC _ hat2 X (hRB i.N) ((StD.reord (d' := (lxD A true chs.length none (crefs X) (crefs chs) ++ (chM chs ++ (rdB q.P A ++ (lvF i.N 123 ++ lvI i.N 3 ++ R))))) S3 fun a => by simp only [cnt_append, cnt_two, cnt_nil, Nat.add_zero, Nat.zero_add, BRn2_e, lxD, rdB] <;> ac_rfl)) fun s2 p2 c2 S2 => ?_
  refine BRz Y A i.N c2 hR0 ((StD.reord (d' := ((smD A ++ (hD A ++ (lvF i.N 123 ++ lvI i.N 3))) ++ (lmD A true chs.length none (crefs X) (crefs chs) ++ (chM chs ++ (([(A.fbr, .raw (brO q.P A)), (A.bcode, bcD A), (A.cbr, .cell (some (.ref A.fbr)))] : DM) ++ R))))) S2 fun a => by simp only [cnt_append, cnt_two, cnt_nil, Nat.add_zero, Nat.zero_add, hD, lxD, rdB] <;> ac_rfl)) fun i3 s3 p3 c3 _ _ S3 => ?_
  exact no s3 p3 _ ((StD.reord (d' := (LX A chs true chs.length none X ++ (rdB q.P A ++ R))) S3 fun a => by simp only [cnt_append, cnt_two, cnt_nil, Nat.add_zero, Nat.zero_add, BRz_e, LX, lxD, rdB] <;> ac_rfl))
theorem accLst (va : Addr) (vs : Array Value) {p : Nat} {e : Bool} {k : Nat} {pb : Option Addr} (hat : AtS chs p e k pb) (X : List Ch) (hX : X.length ≤ 50) {R : DM} {s : Shared} {pos : Pos} {rest : List Frame} (hR : RestB 300 rest)
    (S : StD (K4 q) (lxD A e k pb (crefs X) (crefs chs) ++ (chM chs ++ ([(va, .arr c_list vs)] ++ R))) (GR A) s) (b : Bool) (hb : ∀ x, chs[p]? = some x → HasS vs ⟨⟨[x.sg]⟩⟩ b) (hb0 : p = chs.length → b = false)
    (yes : b = true → ∀ x, chs[p]? = some x → ∀ s' p' c', StD (K4 q) (lxD A false (p + 1) none (crefs (X ++ [x])) (crefs chs) ++ (chM chs ++ ([(va, .arr c_list vs)] ++ R))) (GR A) s' → Y.H s' ⟨.pure (.done (.ret (.bool true))), c', p', rest⟩)
    (no : b = false → ∀ s' p' c', StD (K4 q) (lxD A e k pb (crefs X) (crefs chs) ++ (chM chs ++ ([(va, .arr c_list vs)] ++ R))) (GR A) s' → Y.H s' ⟨.pure (.done (.ret (.bool false))), c', p', rest⟩) :
    Y.H s ⟨denF (cAcc A (.ref va)), cAcc A (.ref va), pos, rest⟩ := by
  have h1 : (crefs X).size ≤ sizeLine := by rw [crefs_size]; exact le_line (by omega)
  have h2 : (crefs X).size < sizeLine := by rw [crefs_size]; exact lt_line (by omega)
  rcases hat with ⟨x, hx, rfl, rfl, rfl⟩ | ⟨hp, rfl, rfl, rfl⟩
  · obtain ⟨Rx, hRx⟩ := ch_split (List.mem_of_getElem? hx)
    have hh := hb x hx
    cases b with
    | true =>
      refine AccLt Y A _ (crefs X) (crefs chs) false x.a x.d x.l ⟨⟨[x.sg]⟩⟩ va vs h1 hh hR ((StD.reord (d' := ((lxD A false (p + 1) (some x.a) (crefs X) (crefs chs) ++ chD x.a x.d x.l ⟨⟨[x.sg]⟩⟩ ++ [(va, .arr c_list vs)]) ++ (locD x.l x.ld x.f x.x x.y x.z ++ (Rx ++ R)))) S fun a => by simp only [cnt_append, cnt_two, cnt_nil, Nat.add_zero, Nat.zero_add, lxD, hRx] <;> ac_rfl)) fun i s' p' c' _ _ S' => yes rfl x hx s' p' _ ((StD.reord (d' := (lxD A false (p + 1) none (crefs (X ++ [x])) (crefs chs) ++ (chM chs ++ ([(va, .arr c_list vs)] ++ R)))) S' fun a => by simp only [cnt_append, cnt_two, cnt_nil, Nat.add_zero, Nat.zero_add, AccLt_e, crefs_push, lxD, hRx] <;> ac_rfl))
    | false =>
      refine AccLf Y A _ (crefs X) (crefs chs) false x.a x.d x.l ⟨⟨[x.sg]⟩⟩ va vs h1 hh h2 hR ((StD.reord (d' := ((lxD A false (p + 1) (some x.a) (crefs X) (crefs chs) ++ chD x.a x.d x.l ⟨⟨[x.sg]⟩⟩ ++ [(va, .arr c_list vs)]) ++ (locD x.l x.ld x.f x.x x.y x.z ++ (Rx ++ R)))) S fun a => by simp only [cnt_append, cnt_two, cnt_nil, Nat.add_zero, Nat.zero_add, lxD, hRx] <;> ac_rfl)) fun i s' p' c' _ _ S' => no rfl s' p' _ ((StD.reord (d' := (lxD A false (p + 1) (some x.a) (crefs X) (crefs chs) ++ (chM chs ++ ([(va, .arr c_list vs)] ++ R)))) S' fun a => by simp only [cnt_append, cnt_two, cnt_nil, Nat.add_zero, Nat.zero_add, AccLf_e, lxD, hRx] <;> ac_rfl))
  · have hb0 := hb0 hp
    subst hb0
    refine AccLX Y A _ (crefs X) (crefs chs) va vs hR ((StD.reord (d' := ((lxD A true k none (crefs X) (crefs chs) ++ [(va, .arr c_list vs)]) ++ (chM chs ++ R))) S fun a => by simp only [cnt_append, cnt_two, cnt_nil, Nat.add_zero, Nat.zero_add, lxD] <;> ac_rfl)) fun i s' p' c' _ _ S' => no rfl s' p' _ ((StD.reord (d' := (lxD A true k none (crefs X) (crefs chs) ++ (chM chs ++ ([(va, .arr c_list vs)] ++ R)))) S' fun a => by simp only [cnt_append, cnt_two, cnt_nil, Nat.add_zero, Nat.zero_add, AccLX_e, lxD] <;> ac_rfl))
noncomputable def Refu (R : DM) (rest : List Frame) (loc : Option Ch) : Prop := ∀ (s : Shared) (p : Pos) (e dc ar hl N : Addr) (m : Str) (f1 : List (List Nat × VD)), StD (K4 q) (([(e, .raw (excO dc ar .none))] : DM) ++ (exD dc m (loc.map Ch.l) hl ++ ([(N, .frq f1)] ++ (chM chs ++ R)))) (GR A) s → Y.H s ⟨errF (errEnv q.P N) e, cErrB q.P N, p, rest⟩
theorem errGo {p : Nat} {e : Bool} {k : Nat} {pb : Option Addr} (hat : AtS chs p e k pb) (X : List Ch) (hX : X.length ≤ 50) {R : DM} {s : Shared} {pos : Pos} {rest : List Frame} (hR0 : RestB 300 rest) (m : Str) (tm : Tok)
    (S : StD (K4 q) (LX A chs e k pb X ++ R) (GR A) s) (no : Refu Y A chs R rest chs[p]?) :
    Y.H s ⟨denF (cErr A (.str m tm)), cErr A (.str m tm), pos, rest⟩ := by
  have h1 : (crefs X).size ≤ sizeLine := by rw [crefs_size]; exact le_line (by omega)
  rcases hat with ⟨x, hx, rfl, rfl, rfl⟩ | ⟨hp, rfl, rfl, rfl⟩
  · obtain ⟨Rx, hRx⟩ := ch_split (List.mem_of_getElem? hx)
    rw [hx] at no
    refine ERS Y A (p + 1) (crefs X) (crefs chs) false x.a x.d x.l x.ld ⟨⟨[x.sg]⟩⟩ x.f x.x x.y x.z m tm h1 hR0 ((StD.reord (d' := ((lxD A false (p + 1) (some x.a) (crefs X) (crefs chs) ++ (chD x.a x.d x.l ⟨⟨[x.sg]⟩⟩ ++ locD x.l x.ld x.f x.x x.y x.z)) ++ (Rx ++ R))) S fun a => by simp only [cnt_append, cnt_two, cnt_nil, Nat.add_zero, Nat.zero_add, lxD, LX, hRx] <;> ac_rfl)) fun i s' p' c' _ _ S' => ?_
    exact no s' p' (i.N + 3) (i.N + 5) (i.N + 2) (i.N + 6) i.N m [([115, 101, 108, 102], .ref A.sf), ([109, 101, 115, 115, 97, 103, 101], .str m), ([99, 104, 97, 114], .ref x.a), ([108, 111, 99], .ref x.l)] (StD.mem_drop (e := lxD A false (p + 1) none ((crefs X).push (.ref x.a)) (crefs chs)) S' (fun a => by
      (simp only [ERS_e, cnt_append, cnt_two, hRx, Option.map_some, Option.map_none]) <;> ac_rfl))
  · rw [hp, List.getElem?_eq_none (Nat.le_refl _)] at no
    refine ERX Y A k (crefs X) (crefs chs) m tm hR0 ((StD.reord (d' := (lxD A true k none (crefs X) (crefs chs) ++ (chM chs ++ R))) S fun a => by simp only [cnt_append, cnt_two, cnt_nil, Nat.add_zero, Nat.zero_add, lxD, LX] <;> ac_rfl)) fun i s' p' c' _ _ S' => ?_
    exact no s' p' (i.N + 5) (i.N + 7) (i.N + 4) (i.N + 8) i.N m [([115, 101, 108, 102], .ref A.sf), ([109, 101, 115, 115, 97, 103, 101], .str m), ([99, 104, 97, 114], .none), ([108, 111, 99], .none)] (StD.mem_drop (e := lxD A true k none (crefs X) (crefs chs)) S' (fun a => by
      (simp only [ERX_e, cnt_append, cnt_two, Option.map_some, Option.map_none]) <;> ac_rfl))
end
end Mine
end
section
set_option maxRecDepth 100000
set_option maxHeartbeats 1000000
namespace Mine
open PySem PySem.W PySem.W.X
theorem StD.recast {K : Top} {a : Addr} {o o' : OD} (h : ∀ τ n, ∃ τ' n', o.obj K.w.params τ n = o'.obj K.w.params τ' n') {d : DM} {gm : GMem} {s : Shared} (S : StD K ((a, o) :: d) gm s) : StD K ((a, o') :: d) gm s := by
  obtain ⟨mem, F, S⟩ := S
  cases F with
  | cons τ n F =>
    obtain ⟨τ', n', e⟩ := h τ n
    rw [e] at S
    exact ⟨_, .cons τ' n' F, S⟩
theorem StD.unseq {K : Top} {a : Addr} {c : String} {vs : List VD} {d : DM} {gm : GMem} {s : Shared} (S : StD K ((a, .seq c vs) :: d) gm s) : ∃ τ, StD K ((a, .arr c ⟨vals τ 0 vs⟩) :: d) gm s := by
  obtain ⟨mem, F, S⟩ := S
  cases F with
  | cons τ n F => exact ⟨τ, _, .cons τ n F, S⟩
theorem StD.reseq {K : Top} {a : Addr} {c : String} {vs : List VD} {d : DM} {gm : GMem} {s : Shared} {τ : Nat → Tok} (S : StD K ((a, .arr c ⟨vals τ 0 vs⟩) :: d) gm s) : StD K ((a, .seq c vs) :: d) gm s :=
  S.recast fun _ n => ⟨τ, n, rfl⟩
section
variable {q : Qd} (Y : Sys (K4 q)) (A : LA) (chs : List Ch)
theorem exIn (v : SV) {M R : DM} {s : Shared} {pos : Pos} {rest : List Frame} (hR0 : RestB 300 rest) (S : StD (K4 q) ((smD A ++ M) ++ R) (GR A) s)
    (next : ∀ Le s' p', StD (K4 q) ((smD A ++ M) ++ (exF A Le v.val ++ R)) (GR A) s' → Y.H s' ⟨denF (cAcc A v.val), cAcc A v.val, p', fsE q.P A Le ++ rest⟩) : Y.H s ⟨denF (cExp A v.val), cExp A v.val, pos, rest⟩  := by
  have S0 := (StD.reord (d' := (smD A ++ (M ++ R))) S fun a => by simp only [cnt_append, cnt_two, cnt_nil, Nat.add_zero, Nat.zero_add] <;> ac_rfl)
  refine EX0 Y A v hR0 S0 fun i s' p' c' _ _ S' => ?_
  have h := next i.N s' p' ((StD.reord (d' := ((smD A ++ M) ++ (exF A i.N v.val ++ R))) S' fun a => by simp only [cnt_append, cnt_two, cnt_nil, Nat.add_zero, Nat.zero_add, EX0_e] <;> ac_rfl))
  simp only [EX0_e, SE.cd]
  exact h
theorem exT {M : DM} {Le : Nat} {c : Code} {s : Shared} {pos : Pos} {rest : List Frame} (hR0 : RestB 300 rest) (S : StD (K4 q) M (GR A) s) (next : ∀ s' p' c', StD (K4 q) M (GR A) s' → Y.H s' ⟨.pure (.done (.ret .none)), c', p', rest⟩) :
    Y.H s ⟨.pure (.done (.ret (.bool true))), c, pos, fsE q.P A Le ++ rest⟩ := by
  have S3 : StD (K4 q) (([] : DM) ++ M) (GR A) s := S
  have h := @EXt q Y A Le c M s pos rest hR0 S3
  simp only [EXt_a, EXt_e, SE.cd, List.nil_append] at h
  exact h fun i s' p' c' _ _ S' => next s' p' c' S'
theorem exStr (v : Str) (tv : Tok) (good : Nat → Bool) {p : Nat} (hin : ∀ x, chs[p]? = some x → inS v x.sg = good x.sg) {e : Bool} {k : Nat} {pb : Option Addr} (hat : AtS chs p e k pb) (X : List Ch) (hX : X.length ≤ 50) {R : DM} {s : Shared} {pos : Pos} {rest : List Frame} (hR : RestB 298 rest)
    (fl : ∀ {Le : Nat} {Lm : DM} {s : Shared} {pos : Pos} {c : Code}, StD (K4 q) ((smD A ++ exF A Le (.str v tv)) ++ Lm) (GR A) s → (∀ s' p' m tm, StD (K4 q) ((smD A ++ exF A Le (.str v tv)) ++ Lm) (GR A) s' → Y.H s' ⟨denF (cErr A (.str m tm)), cErr A (.str m tm), p', fsR q.P A Le ++ rest⟩) → Y.H s ⟨.pure (.done (.ret (.bool false))), c, pos, fsE q.P A Le ++ rest⟩)
    (S : StD (K4 q) (LX A chs e k pb X ++ R) (GR A) s)
    (yes : ∀ x, chs[p]? = some x → good x.sg = true → ∀ s' p' c', StD (K4 q) (LX A chs false (p + 1) none (X ++ [x]) ++ R) (GR A) s' → Y.H s' ⟨.pure (.done (.ret .none)), c', p', rest⟩)
    (no : (∀ x, chs[p]? = some x → good x.sg = false) → ∀ Le f2, Refu Y A chs ([(Le, .frq f2)] ++ R) (fsR q.P A Le ++ rest) chs[p]?) :
    Y.H s ⟨denF (cExp A (.str v tv)), cExp A (.str v tv), pos, rest⟩ := by
  have hR0 : RestB 300 rest := hR.le (by omega)
  refine exIn Y A (.s v tv) (M := lmD A e k pb (crefs X) (crefs chs) ++ chM chs) hR0 ((StD.reord (d' := ((smD A ++ (lmD A e k pb (crefs X) (crefs chs) ++ chM chs)) ++ R)) S fun a => by simp only [cnt_append, cnt_two, cnt_nil, Nat.add_zero, Nat.zero_add, LX, lxD] <;> ac_rfl)) fun Le s1 p1 S1 => ?_
  have hE : RestB 300 (fsE q.P A Le ++ rest) := (nf_E q.P A Le hR).le (by omega)
  have hG : RestB 300 (fsR q.P A Le ++ rest) := (nf_R q.P A Le hR).le (by omega)
  have hno : ∀ {e' : Bool} {k' : Nat} {pb' : Option Addr}, AtS chs p e' k' pb' → (∀ x, chs[p]? = some x → good x.sg = false) → ∀ s' p' c', StD (K4 q) (lxD A e' k' pb' (crefs X) (crefs chs) ++ (chM chs ++ (exF A Le (.str v tv) ++ R))) (GR A) s' → Y.H s' ⟨.pure (.done (.ret (.bool false))), c', p', fsE q.P A Le ++ rest⟩ := fun {e' k' pb'} hat' hg s' p' c' S' =>
    fl ((StD.reord (d' := ((smD A ++ exF A Le (.str v tv)) ++ (lmD A e' k' pb' (crefs X) (crefs chs) ++ (chM chs ++ R)))) S' fun a => by simp only [cnt_append, cnt_two, cnt_nil, Nat.add_zero, Nat.zero_add, lxD] <;> ac_rfl)) fun s2 p2 m tm S2 =>
      errGo Y A chs hat' X hX hG m tm ((StD.reord (d' := (LX A chs e' k' pb' X ++ (exF A Le (.str v tv) ++ R))) S2 fun a => by simp only [cnt_append, cnt_two, cnt_nil, Nat.add_zero, Nat.zero_add, lxD, LX] <;> ac_rfl)) (no hg Le _)
  have S1' := (StD.reord (d' := (lxD A e k pb (crefs X) (crefs chs) ++ (chM chs ++ (exF A Le (.str v tv) ++ R)))) S1 fun a => by simp only [cnt_append, cnt_two, cnt_nil, Nat.add_zero, Nat.zero_add, lxD, SV.val] <;> ac_rfl)
  rcases hat with ⟨x, hx, rfl, rfl, rfl⟩ | ⟨hp, rfl, rfl, rfl⟩
  · have hat2 : AtS chs p false (p + 1) (some x.a) := .inl ⟨x, hx, rfl, rfl, rfl⟩
    have hg := hin x hx
    refine accStr Y A chs v tv hx hat2.at X hX hE S1' (fun hb s2 p2 c2 S2 => ?_) fun hb s2 p2 c2 S2 => ?_
    · rw [hg] at hb
      have S3 := (StD.mem_drop (d' := (LX A chs false (p + 1) none (X ++ [x]) ++ R)) (e := (exF A Le (.str v tv))) S2 fun a => by simp only [cnt_append, cnt_two, cnt_nil, Nat.add_zero, Nat.zero_add, LX] <;> ac_rfl)
      exact exT Y A hR0 S3 fun s3 p3 c3 S4 => yes x hx hb s3 p3 c3 S4
    · rw [hg] at hb
      exact hno hat2 (fun y hy => by rw [hx] at hy; cases hy; exact hb) s2 p2 c2 S2
  · subst hp
    have hat2 : AtS chs chs.length true chs.length none := .inr ⟨rfl, rfl, rfl, rfl⟩
    exact accEnd Y A chs v tv hat2.at X hE S1' fun s2 p2 c2 S2 => hno hat2 (fun y hy => by rw [List.getElem?_eq_none (Nat.le_refl _)] at hy; cases hy) s2 p2 c2 S2
end
end Mine
end
section
set_option maxRecDepth 100000
set_option maxHeartbeats 1000000
namespace Mine
open PySem PySem.W PySem.W.X
section
variable {q : Qd} (Y : Sys (K4 q)) (A : LA) (chs : List Ch)
theorem exLst (va : Addr) (l : List VD) (good : Nat → Bool) {p : Nat} (hin : ∀ τ x, chs[p]? = some x → HasS ⟨vals τ 0 l⟩ ⟨⟨[x.sg]⟩⟩ (good x.sg)) {e : Bool} {k : Nat} {pb : Option Addr} (hat : AtS chs p e k pb) (X : List Ch) (hX : X.length ≤ 50) {R : DM} {s : Shared} {pos : Pos} {rest : List Frame} (hR : RestB 298 rest)
    (fl : ∀ {Le : Nat} {Lm : DM} {s : Shared} {pos : Pos} {c : Code}, StD (K4 q) ((smD A ++ (exF A Le (.ref va) ++ [(va, .seq c_list l)])) ++ Lm) (GR A) s → (∀ s' p' m tm, StD (K4 q) ((smD A ++ exF A Le (.ref va)) ++ Lm) (GR A) s' → Y.H s' ⟨denF (cErr A (.str m tm)), cErr A (.str m tm), p', fsR q.P A Le ++ rest⟩) → Y.H s ⟨.pure (.done (.ret (.bool false))), c, pos, fsE q.P A Le ++ rest⟩)
    (S : StD (K4 q) (LX A chs e k pb X ++ ([(va, .seq c_list l)] ++ R)) (GR A) s)
    (yes : ∀ x, chs[p]? = some x → good x.sg = true → ∀ s' p' c', StD (K4 q) (LX A chs false (p + 1) none (X ++ [x]) ++ R) (GR A) s' → Y.H s' ⟨.pure (.done (.ret .none)), c', p', rest⟩)
    (no : (∀ x, chs[p]? = some x → good x.sg = false) → ∀ Le f2, Refu Y A chs ([(Le, .frq f2)] ++ R) (fsR q.P A Le ++ rest) chs[p]?) :
    Y.H s ⟨denF (cExp A (.ref va)), cExp A (.ref va), pos, rest⟩ := by
  have hR0 : RestB 300 rest := hR.le (by omega)
  refine exIn Y A (.l va) (M := lmD A e k pb (crefs X) (crefs chs) ++ chM chs) hR0 ((StD.reord (d' := ((smD A ++ (lmD A e k pb (crefs X) (crefs chs) ++ chM chs)) ++ ([(va, .seq c_list l)] ++ R))) S fun a => by simp only [cnt_append, cnt_two, cnt_nil, Nat.add_zero, Nat.zero_add, LX, lxD] <;> ac_rfl)) fun Le s1 p1 S1 => ?_
  have hE : RestB 300 (fsE q.P A Le ++ rest) := (nf_E q.P A Le hR).le (by omega)
  have hG : RestB 300 (fsR q.P A Le ++ rest) := (nf_R q.P A Le hR).le (by omega)
  obtain ⟨τ, S1⟩ := ((StD.reord (d' := ([(va, .seq c_list l)] ++ (lxD A e k pb (crefs X) (crefs chs) ++ (chM chs ++ (exF A Le (.ref va) ++ R))))) S1 fun a => by simp only [cnt_append, cnt_two, cnt_nil, Nat.add_zero, Nat.zero_add, lxD, SV.val] <;> ac_rfl)).unseq
  have hno : ∀ {e' : Bool} {k' : Nat} {pb' : Option Addr}, AtS chs p e' k' pb' → (∀ x, chs[p]? = some x → good x.sg = false) → ∀ s' p' c', StD (K4 q) (lxD A e' k' pb' (crefs X) (crefs chs) ++ (chM chs ++ ([(va, .arr c_list ⟨vals τ 0 l⟩)] ++ (exF A Le (.ref va) ++ R)))) (GR A) s' → Y.H s' ⟨.pure (.done (.ret (.bool false))), c', p', fsE q.P A Le ++ rest⟩ := fun {e' k' pb'} hat' hg s' p' c' S' => by
    have S2 := ((StD.reord (d' := ([(va, .arr c_list ⟨vals τ 0 l⟩)] ++ (lxD A e' k' pb' (crefs X) (crefs chs) ++ (chM chs ++ (exF A Le (.ref va) ++ R))))) S' fun a => by simp only [cnt_append, cnt_two, cnt_nil, Nat.add_zero, Nat.zero_add, lxD] <;> ac_rfl)).reseq
    have S3 : StD (K4 q) ([(va, .seq c_list l)] ++ (lxD A e' k' pb' (crefs X) (crefs chs) ++ (chM chs ++ (exF A Le (.ref va) ++ R)))) (GR A) s' := S2
    exact fl ((StD.reord (d' := ((smD A ++ (exF A Le (.ref va) ++ [(va, .seq c_list l)])) ++ (lmD A e' k' pb' (crefs X) (crefs chs) ++ (chM chs ++ R)))) S3 fun a => by simp only [cnt_append, cnt_two, cnt_nil, Nat.add_zero, Nat.zero_add, lxD] <;> ac_rfl)) fun s2 p2 m tm S2 =>
      errGo Y A chs hat' X hX hG m tm ((StD.reord (d' := (LX A chs e' k' pb' X ++ (exF A Le (.ref va) ++ R))) S2 fun a => by simp only [cnt_append, cnt_two, cnt_nil, Nat.add_zero, Nat.zero_add, lxD, LX] <;> ac_rfl)) (no hg Le _)
  have S1 : StD (K4 q) ([(va, .arr c_list ⟨vals τ 0 l⟩)] ++ (lxD A e k pb (crefs X) (crefs chs) ++ (chM chs ++ (exF A Le (.ref va) ++ R)))) (GR A) s1 := S1
  have S1' := (StD.reord (d' := (lxD A e k pb (crefs X) (crefs chs) ++ (chM chs ++ ([(va, .arr c_list ⟨vals τ 0 l⟩)] ++ (exF A Le (.ref va) ++ R))))) S1 fun a => by simp only [cnt_append, cnt_two, cnt_nil, Nat.add_zero, Nat.zero_add, lxD] <;> ac_rfl)
  rcases hat with ⟨x, hx, rfl, rfl, rfl⟩ | ⟨hp, rfl, rfl, rfl⟩
  · have hat2 : AtS chs p false (p + 1) (some x.a) := .inl ⟨x, hx, rfl, rfl, rfl⟩
    have hlt : p < chs.length := (List.getElem?_eq_some_iff.mp hx).1
    refine accLst Y A chs va ⟨vals τ 0 l⟩ hat2 X hX hE S1' (good x.sg) (fun y hy => by rw [hx] at hy; cases hy; exact hin τ x hx) (fun h => by omega) (fun hb y hy s2 p2 c2 S2 => ?_) fun hb s2 p2 c2 S2 => ?_
    · rw [hx] at hy
      cases hy
      have S3 := (StD.mem_drop (d' := (LX A chs false (p + 1) none (X ++ [x]) ++ R)) (e := ([(va, .arr c_list ⟨vals τ 0 l⟩)] ++ exF A Le (.ref va))) S2 fun a => by simp only [cnt_append, cnt_two, cnt_nil, Nat.add_zero, Nat.zero_add, LX] <;> ac_rfl)
      exact exT Y A hR0 S3 fun s3 p3 c3 S4 => yes x hx hb s3 p3 c3 S4
    · exact hno hat2 (fun y hy => by rw [hx] at hy; cases hy; exact hb) s2 p2 c2 S2
  · subst hp
    have hat2 : AtS chs chs.length true chs.length none := .inr ⟨rfl, rfl, rfl, rfl⟩
    have hn : chs[chs.length]? = none := List.getElem?_eq_none (Nat.le_refl _)
    refine accLst Y A chs va ⟨vals τ 0 l⟩ hat2 X hX hE S1' false (fun y hy => by rw [hn] at hy; cases hy) (fun _ => rfl) (fun hb => by cases hb) fun hb s2 p2 c2 S2 => hno hat2 (fun y hy => by rw [hn] at hy; cases hy) s2 p2 c2 S2
end
end Mine
end
section
set_option maxRecDepth 100000
set_option maxHeartbeats 1000000
namespace Mine
open PySem PySem.W PySem.W.X
theorem inS_d : ∀ y ∈ [41, 93, 125], ∀ x ∈ alpha, inS ⟨⟨[y]⟩⟩ x = (x == y) := by unfold inS; decide +kernel
theorem inS_pd : ∀ y ∈ [41, 93, 125], ∀ x ∈ alpha, inS ⟨⟨[43, y]⟩⟩ x = (x == y) := by unfold inS; decide +kernel
theorem opd (j : Op) : j.d ∈ [41, 93, 125] := by cases j <;> decide
theorem isS_one (x y : Nat) (t : Tok) : isS ⟨⟨[x]⟩⟩ (.str ⟨⟨[y]⟩⟩ t) = (x == y) := by
  show ([y] == [x]) = (x == y)
  by_cases h : x = y
  · subst h; simp
  · rw [beq_eq_false_iff_ne.mpr h]
    exact beq_eq_false_iff_ne.mpr fun e => h (by cases e; rfl)
theorem has_d (j : Op) (x : Nat) (τ : Nat → Tok) : HasS ⟨vals τ 0 [.str ⟨⟨[j.d]⟩⟩]⟩ ⟨⟨[x]⟩⟩ (x == j.d) := by
  refine ⟨fun y hy => ?_, ?_⟩
  · simp [vals, VD.val] at hy
    exact ⟨_, _, hy⟩
  · simp [vals, VD.val, isS_one]
theorem has_dm (j : Op) (x : Nat) (hx : x ∈ alpha) (τ : Nat → Tok) : HasS ⟨vals τ 0 [.str ⟨⟨[j.d]⟩⟩, .str ⟨⟨[45]⟩⟩]⟩ ⟨⟨[x]⟩⟩ (x == j.d) := by
  refine ⟨fun y hy => ?_, ?_⟩
  · simp [vals, VD.val] at hy
    rcases hy with hy | hy <;> exact ⟨_, _, hy⟩
  · have h45 : (x == 45) = false := by
      revert x
      decide
    simp [vals, VD.val, isS_one, h45]
section
variable {q : Qd} (Y : Sys (K4 q)) (A : LA) (chs : List Ch)
noncomputable def fcD (q : Qd) (A : LA) : DM := [(A.fbr, .raw (brO q.P A)), (A.bcode, bcD A), (A.cbr, .cell (some (.ref A.fbr)))]
theorem rdB_cnt (a) : cnt a (rdB q.P A) = cnt a (fcD q A) + cnt a (hD A) := by
  simp only [rdB, fcD, hD, cnt_two]; ac_rfl
theorem xrT {M : DM} {L : Nat} {c : Code} {s : Shared} {pos : Pos} {rest : List Frame} (hR0 : RestB 300 rest) (S : StD (K4 q) M (GR A) s) (next : ∀ s' p' c', StD (K4 q) M (GR A) s' → Y.H s' ⟨.pure (.done (.ret (.bool true))), c', p', rest⟩) :
    Y.H s ⟨.pure (.done (.ret .none)), c, pos, fsX q.P A L ++ rest⟩ := by
  have S3 : StD (K4 q) (([] : DM) ++ M) (GR A) s := S
  have h := @XR q Y A L c M s pos rest hR0 S3
  simp only [XR_a, XR_e, SE.cd, List.nil_append] at h
  exact h fun i s' p' c' _ _ S' => next s' p' c' S'
noncomputable def lvP (L : Addr) (j : Op) : DM := [(L, .frq [([115, 105, 103, 110], .str ⟨⟨[j.o]⟩⟩), ([112, 97, 114, 116, 110, 101, 114], .str ⟨⟨[j.d]⟩⟩)])]
theorem wbf0 (j : Op) (L : Nat) (tn : Int) (hk : (tn + 1).fmod 4 = 0) {p : Nat} (hal : ∀ x, chs[p]? = some x → x.sg ∈ alpha) {e : Bool} {k : Nat} {pb : Option Addr} (hat : AtS chs p e k pb) (X : List Ch) (hX : X.length ≤ 50) {R : DM} {s : Shared} {c : Code} {pos : Pos} {rest : List Frame} (hR : RestB 290 rest)
    (S : StD (K4 q) (LX A chs e k pb X ++ (rdB q.P A ++ (tnD A tn ++ (lvF L j.o ++ R)))) (GR A) s)
    (yes : ∀ x, chs[p]? = some x → x.sg = j.d → ∀ s' p' c', StD (K4 q) (LX A chs false (p + 1) none (X ++ [x]) ++ (rdB q.P A ++ (tnD A (tn + 1) ++ (lvP L j ++ R)))) (GR A) s' → Y.H s' ⟨.pure (.done (.ret (.bool true))), c', p', rest⟩)
    (no : (∀ x, chs[p]? = some x → x.sg ≠ j.d) → ∀ Le f2, Refu Y A chs ([(Le, .frq f2)] ++ (rdB q.P A ++ (tnD A (tn + 1) ++ (lvP L j ++ R)))) (fsR q.P A Le ++ (fsX q.P A L ++ rest)) chs[p]?) :
    Y.H s ⟨.pure (.done (.ret (.bool false))), c, pos, fsO q.P A L ++ rest⟩ := by
  have hR0 : RestB 300 rest := hR.le (by omega)
  have hRX : RestB 298 (fsX q.P A L ++ rest) := (nf_X q.P A L hR).mono (by omega)
  have S0 := (StD.reord (d' := ((smD A ++ (hD A ++ (tnD A tn ++ lvF L j.o))) ++ (lmD A e k pb (crefs X) (crefs chs) ++ (chM chs ++ (fcD q A ++ R))))) S fun a => by simp only [cnt_append, cnt_two, cnt_nil, Nat.add_zero, Nat.zero_add, LX, lxD, rdB_cnt] <;> ac_rfl)
  have h := @WBf0 q Y A L tn j c hk _ s pos rest hR0 S0
  simp only [WBf0_a, WBf0_e, SE.cd] at h
  refine h fun i s1 p1 c1 _ _ S1 => ?_
  clear h
  refine exStr Y A chs _ _ (fun x => x == j.d) (fun x hx => inS_d _ (opd j) _ (hal x hx)) hat X hX hRX (fun {Le Lm s pos c} hS next => ?_) ((StD.reord (d' := (LX A chs e k pb X ++ (rdB q.P A ++ (tnD A (tn + 1) ++ (lvP L j ++ R))))) S1 fun a => by simp only [cnt_append, cnt_two, cnt_nil, Nat.add_zero, Nat.zero_add, LX, lxD, rdB_cnt, hD, lvP] <;> ac_rfl)) (fun x hx hg s2 p2 c2 S2 => ?_) fun hg Le f2 => no (fun x hx he => by have := hg x hx; rw [he, beq_self_eq_true] at this; cases this) Le f2
  · have h := @EXf0 q Y A Le j _ c Lm s pos (fsX q.P A L ++ rest) (hRX.le (by omega)) hS
    simp only [EXf0_a, EXf0_e, SE.cd] at h
    exact h fun i s' p' c' _ _ S' => next s' p' _ _ S'
  · exact xrT Y A hR0 S2 fun s3 p3 c3 S3 => yes x hx (beq_iff_eq.mp hg) s3 p3 c3 S3
theorem wbf1 (j : Op) (L : Nat) (tn : Int) (hk : (tn + 1).fmod 4 = 1) {p : Nat} (hal : ∀ x, chs[p]? = some x → x.sg ∈ alpha) {e : Bool} {k : Nat} {pb : Option Addr} (hat : AtS chs p e k pb) (X : List Ch) (hX : X.length ≤ 50) {R : DM} {s : Shared} {c : Code} {pos : Pos} {rest : List Frame} (hR : RestB 290 rest)
    (S : StD (K4 q) (LX A chs e k pb X ++ (rdB q.P A ++ (tnD A tn ++ (lvF L j.o ++ R)))) (GR A) s)
    (yes : ∀ x, chs[p]? = some x → x.sg = j.d → ∀ s' p' c', StD (K4 q) (LX A chs false (p + 1) none (X ++ [x]) ++ (rdB q.P A ++ (tnD A (tn + 1) ++ (lvP L j ++ R)))) (GR A) s' → Y.H s' ⟨.pure (.done (.ret (.bool true))), c', p', rest⟩)
    (no : (∀ x, chs[p]? = some x → x.sg ≠ j.d) → ∀ Le f2, Refu Y A chs ([(Le, .frq f2)] ++ (rdB q.P A ++ (tnD A (tn + 1) ++ (lvP L j ++ R)))) (fsR q.P A Le ++ (fsX q.P A L ++ rest)) chs[p]?) :
    Y.H s ⟨.pure (.done (.ret (.bool false))), c, pos, fsO q.P A L ++ rest⟩ := by
  have hR0 : RestB 300 rest := hR.le (by omega)
  have hRX : RestB 298 (fsX q.P A L ++ rest) := (nf_X q.P A L hR).mono (by omega)
  have S0 := (StD.reord (d' := ((smD A ++ (hD A ++ (tnD A tn ++ lvF L j.o))) ++ (lmD A e k pb (crefs X) (crefs chs) ++ (chM chs ++ (fcD q A ++ R))))) S fun a => by simp only [cnt_append, cnt_two, cnt_nil, Nat.add_zero, Nat.zero_add, LX, lxD, rdB_cnt] <;> ac_rfl)
  have h := @WBf1 q Y A L tn j c hk _ s pos rest hR0 S0
  simp only [WBf1_a, WBf1_e, SE.cd] at h
  refine h fun i s1 p1 c1 _ _ S1 => ?_
  clear h
  refine exLst Y A chs _ [.str ⟨⟨[j.d]⟩⟩] (fun x => x == j.d) (fun τ x hx => has_d j x.sg τ) hat X hX hRX (fun {Le Lm s pos c} hS next => ?_) ((StD.reord (d' := (LX A chs e k pb X ++ ([((i.N + 2), .seq c_list [.str ⟨⟨[j.d]⟩⟩])] ++ (rdB q.P A ++ (tnD A (tn + 1) ++ (lvP L j ++ R)))))) S1 fun a => by simp only [cnt_append, cnt_two, cnt_nil, Nat.add_zero, Nat.zero_add, LX, lxD, rdB_cnt, hD, lvP] <;> ac_rfl)) (fun x hx hg s2 p2 c2 S2 => ?_) fun hg Le f2 => no (fun x hx he => by have := hg x hx; rw [he, beq_self_eq_true] at this; cases this) Le f2
  · have h := @EXf1 q Y A Le j (i.N + 2) c Lm s pos (fsX q.P A L ++ rest) (hRX.le (by omega)) hS
    simp only [EXf1_a, EXf1_e, SE.cd] at h
    exact h fun i s' p' c' _ _ S' => next s' p' _ _ S'
  · exact xrT Y A hR0 S2 fun s3 p3 c3 S3 => yes x hx (beq_iff_eq.mp hg) s3 p3 c3 S3
theorem wbf2 (j : Op) (L : Nat) (tn : Int) (hk : (tn + 1).fmod 4 = 2) {p : Nat} (hal : ∀ x, chs[p]? = some x → x.sg ∈ alpha) {e : Bool} {k : Nat} {pb : Option Addr} (hat : AtS chs p e k pb) (X : List Ch) (hX : X.length ≤ 50) {R : DM} {s : Shared} {c : Code} {pos : Pos} {rest : List Frame} (hR : RestB 290 rest)
    (S : StD (K4 q) (LX A chs e k pb X ++ (rdB q.P A ++ (tnD A tn ++ (lvF L j.o ++ R)))) (GR A) s)
    (yes : ∀ x, chs[p]? = some x → x.sg = j.d → ∀ s' p' c', StD (K4 q) (LX A chs false (p + 1) none (X ++ [x]) ++ (rdB q.P A ++ (tnD A (tn + 1) ++ (lvP L j ++ R)))) (GR A) s' → Y.H s' ⟨.pure (.done (.ret (.bool true))), c', p', rest⟩)
    (no : (∀ x, chs[p]? = some x → x.sg ≠ j.d) → ∀ Le f2, Refu Y A chs ([(Le, .frq f2)] ++ (rdB q.P A ++ (tnD A (tn + 1) ++ (lvP L j ++ R)))) (fsR q.P A Le ++ (fsX q.P A L ++ rest)) chs[p]?) :
    Y.H s ⟨.pure (.done (.ret (.bool false))), c, pos, fsO q.P A L ++ rest⟩ := by
  have hR0 : RestB 300 rest := hR.le (by omega)
  have hRX : RestB 298 (fsX q.P A L ++ rest) := (nf_X q.P A L hR).mono (by omega)
  have S0 := (StD.reord (d' := ((smD A ++ (hD A ++ (tnD A tn ++ lvF L j.o))) ++ (lmD A e k pb (crefs X) (crefs chs) ++ (chM chs ++ (fcD q A ++ R))))) S fun a => by simp only [cnt_append, cnt_two, cnt_nil, Nat.add_zero, Nat.zero_add, LX, lxD, rdB_cnt] <;> ac_rfl)
  have h := @WBf2 q Y A L tn j c hk _ s pos rest hR0 S0
  simp only [WBf2_a, WBf2_e, SE.cd] at h
  refine h fun i s1 p1 c1 _ _ S1 => ?_
  clear h
  refine exStr Y A chs _ _ (fun x => x == j.d) (fun x hx => inS_pd _ (opd j) _ (hal x hx)) hat X hX hRX (fun {Le Lm s pos c} hS next => ?_) ((StD.reord (d' := (LX A chs e k pb X ++ (rdB q.P A ++ (tnD A (tn + 1) ++ (lvP L j ++ R))))) S1 fun a => by simp only [cnt_append, cnt_two, cnt_nil, Nat.add_zero, Nat.zero_add, LX, lxD, rdB_cnt, hD, lvP] <;> ac_rfl)) (fun x hx hg s2 p2 c2 S2 => ?_) fun hg Le f2 => no (fun x hx he => by have := hg x hx; rw [he, beq_self_eq_true] at this; cases this) Le f2
  · have h := @EXf2 q Y A Le j _ c Lm s pos (fsX q.P A L ++ rest) (hRX.le (by omega)) hS
    simp only [EXf2_a, EXf2_e, SE.cd] at h
    exact h fun i s' p' c' _ _ S' => next s' p' _ _ S'
  · exact xrT Y A hR0 S2 fun s3 p3 c3 S3 => yes x hx (beq_iff_eq.mp hg) s3 p3 c3 S3
theorem wbf3 (j : Op) (L : Nat) (tn : Int) (hk : (tn + 1).fmod 4 = 3) {p : Nat} (hal : ∀ x, chs[p]? = some x → x.sg ∈ alpha) {e : Bool} {k : Nat} {pb : Option Addr} (hat : AtS chs p e k pb) (X : List Ch) (hX : X.length ≤ 50) {R : DM} {s : Shared} {c : Code} {pos : Pos} {rest : List Frame} (hR : RestB 290 rest)
    (S : StD (K4 q) (LX A chs e k pb X ++ (rdB q.P A ++ (tnD A tn ++ (lvF L j.o ++ R)))) (GR A) s)
    (yes : ∀ x, chs[p]? = some x → x.sg = j.d → ∀ s' p' c', StD (K4 q) (LX A chs false (p + 1) none (X ++ [x]) ++ (rdB q.P A ++ (tnD A (tn + 1) ++ (lvP L j ++ R)))) (GR A) s' → Y.H s' ⟨.pure (.done (.ret (.bool true))), c', p', rest⟩)
    (no : (∀ x, chs[p]? = some x → x.sg ≠ j.d) → ∀ Le f2, Refu Y A chs ([(Le, .frq f2)] ++ (rdB q.P A ++ (tnD A (tn + 1) ++ (lvP L j ++ R)))) (fsR q.P A Le ++ (fsX q.P A L ++ rest)) chs[p]?) :
    Y.H s ⟨.pure (.done (.ret (.bool false))), c, pos, fsO q.P A L ++ rest⟩ := by
  have hR0 : RestB 300 rest := hR.le (by omega)
  have hRX : RestB 298 (fsX q.P A L ++ rest) := (nf_X q.P A L hR).mono (by omega)
  have S0 := (StD.reord (d' := ((smD A ++ (hD A ++ (tnD A tn ++ lvF L j.o))) ++ (lmD A e k pb (crefs X) (crefs chs) ++ (chM chs ++ (fcD q A ++ R))))) S fun a => by simp only [cnt_append, cnt_two, cnt_nil, Nat.add_zero, Nat.zero_add, LX, lxD, rdB_cnt] <;> ac_rfl)
  have h := @WBf3 q Y A L tn j c hk _ s pos rest hR0 S0
  simp only [WBf3_a, WBf3_e, SE.cd] at h
  refine h fun i s1 p1 c1 _ _ S1 => ?_
  clear h
  refine exLst Y A chs _ [.str ⟨⟨[j.d]⟩⟩, .str ⟨⟨[45]⟩⟩] (fun x => x == j.d) (fun τ x hx => has_dm j x.sg (hal x hx) τ) hat X hX hRX (fun {Le Lm s pos c} hS next => ?_) ((StD.reord (d' := (LX A chs e k pb X ++ ([((i.N + 3), .seq c_list [.str ⟨⟨[j.d]⟩⟩, .str ⟨⟨[45]⟩⟩])] ++ (rdB q.P A ++ (tnD A (tn + 1) ++ (lvP L j ++ R)))))) S1 fun a => by simp only [cnt_append, cnt_two, cnt_nil, Nat.add_zero, Nat.zero_add, LX, lxD, rdB_cnt, hD, lvP] <;> ac_rfl)) (fun x hx hg s2 p2 c2 S2 => ?_) fun hg Le f2 => no (fun x hx he => by have := hg x hx; rw [he, beq_self_eq_true] at this; cases this) Le f2
  · have h := @EXf3 q Y A Le j (i.N + 3) c Lm s pos (fsX q.P A L ++ rest) (hRX.le (by omega)) hS
    simp only [EXf3_a, EXf3_e, SE.cd] at h
    exact h fun i s' p' c' _ _ S' => next s' p' _ _ S'
  · exact xrT Y A hR0 S2 fun s3 p3 c3 S3 => yes x hx (beq_iff_eq.mp hg) s3 p3 c3 S3
theorem fmod4 (z : Int) : z.fmod 4 = 0 ∨ z.fmod 4 = 1 ∨ z.fmod 4 = 2 ∨ z.fmod 4 = 3 := by
  rw [Int.fmod_eq_emod_of_nonneg z (by decide : (0 : Int) ≤ 4)]
  omega
theorem wbf (j : Op) (L : Nat) (tn : Int) {p : Nat} (hal : ∀ x, chs[p]? = some x → x.sg ∈ alpha) {e : Bool} {k : Nat} {pb : Option Addr} (hat : AtS chs p e k pb) (X : List Ch) (hX : X.length ≤ 50) {R : DM} {s : Shared} {c : Code} {pos : Pos} {rest : List Frame} (hR : RestB 290 rest)
    (S : StD (K4 q) (LX A chs e k pb X ++ (rdB q.P A ++ (tnD A tn ++ (lvF L j.o ++ R)))) (GR A) s)
    (yes : ∀ x, chs[p]? = some x → x.sg = j.d → ∀ s' p' c', StD (K4 q) (LX A chs false (p + 1) none (X ++ [x]) ++ (rdB q.P A ++ (tnD A (tn + 1) ++ (lvP L j ++ R)))) (GR A) s' → Y.H s' ⟨.pure (.done (.ret (.bool true))), c', p', rest⟩)
    (no : (∀ x, chs[p]? = some x → x.sg ≠ j.d) → ∀ Le f2, Refu Y A chs ([(Le, .frq f2)] ++ (rdB q.P A ++ (tnD A (tn + 1) ++ (lvP L j ++ R)))) (fsR q.P A Le ++ (fsX q.P A L ++ rest)) chs[p]?) :
    Y.H s ⟨.pure (.done (.ret (.bool false))), c, pos, fsO q.P A L ++ rest⟩ := by
  rcases fmod4 (tn + 1) with hk | hk | hk | hk
  · exact wbf0 Y A chs j L tn hk hal hat X hX hR S yes no
  · exact wbf1 Y A chs j L tn hk hal hat X hX hR S yes no
  · exact wbf2 Y A chs j L tn hk hal hat X hX hR S yes no
  · exact wbf3 Y A chs j L tn hk hal hat X hX hR S yes no
end
end Mine
end
section
set_option maxRecDepth 100000
set_option maxHeartbeats 1000000
namespace Mine
open PySem PySem.W PySem.W.X
section
variable {d : DM} {rest : List Frame} {P : Params} {A : LA} {L : Nat}
theorem restE_cons {x : Env} {fs : List Frame} (h : envsOf ((fs ++ rest).map Frame.where_) = x :: envsOf (rest.map Frame.where_)) (hx : EnvOk d x) (hr : RestE d rest) : RestE d (fs ++ rest) := fun y hy => by
  rw [h] at hy
  rcases List.mem_cons.mp hy with rfl | hy
  · exact hx
  · exact hr y hy
theorem restE_O (hL : FrIn d L) (hr : RestE d rest) : RestE d (fsO P A L ++ rest) := by
  obtain ⟨r1, r2, r3, c1, c2, c3, hfs, ⟨h1, h2⟩, ⟨h3, h4⟩, -⟩ := fsO_err P A L
  refine restE_cons (x := brEnv P A L) ?_ (envOk_of (brEnv_ok _ _ _) rfl hL) hr
  rw [hfs]
  show envsOf ((c1, _) :: (c2, _) :: (c3, _) :: rest.map Frame.where_) = _
  rw [envsOf_no h1, envsOf_no h2, envsOf_yes h3 h4]
theorem restE_X (hL : FrIn d L) (hr : RestE d rest) : RestE d (fsX P A L ++ rest) := by
  obtain ⟨r1, r2, c1, c2, hfs, h1, ⟨h3, h4⟩, -⟩ := fsX_err P A L
  refine restE_cons (x := brEnv P A L) ?_ (envOk_of (brEnv_ok _ _ _) rfl hL) hr
  rw [hfs]
  show envsOf ((c1, _) :: (c2, _) :: rest.map Frame.where_) = _
  rw [envsOf_no h1, envsOf_yes h3 h4]
theorem restE_F {fs : List Frame} {env : Env} {f : Addr} (h : ∃ r c, fs = [RF.fr r c] ∧ (c.isFrame = true ∧ c.env? = some env) ∧ ∀ e, r.k (.error (.ref e)) = errF env e) (hk : isMod env.scope.kind = false) (hf : env.frame = some f) (hL : FrIn d f) (hr : RestE d rest) : RestE d (fs ++ rest) := by
  obtain ⟨r, c, rfl, ⟨h3, h4⟩, -⟩ := h
  refine restE_cons (x := env) ?_ (envOk_of hk hf hL) hr
  show envsOf ((c, _) :: rest.map Frame.where_) = _
  rw [envsOf_yes h3 h4]
theorem restE_B : ∀ (st : List (Addr × Op)), (∀ x ∈ st, FrIn d x.1) → RestE d rest → RestE d (frB P A st ++ rest)
  | [], _, hr => hr
  | x :: r, h, hr => by
    have e1 : frB P A (x :: r) ++ rest = fsO P A x.1 ++ (frB P A r ++ rest) := List.append_assoc ..
    rw [e1]
    exact restE_O (h x (List.mem_cons_self ..)) (restE_B r (fun y hy => h y (List.mem_cons_of_mem _ hy)) hr)
end
section
variable {q : Qd} (Y : Sys (K4 q)) (A : LA) {d : DM} {e dc ar : Addr}
theorem leaveX (N Le L : Nat) (st : List (Addr × Op)) {rest : List Frame} (hR : RestB 200 rest) (hst : st.length ≤ 20) (hN : FrIn d N) (hLe : FrIn d Le) (hL : FrIn d L) (hS : ∀ x ∈ st, FrIn d x.1) (hE : RestE d rest) {s : Shared} {p : Pos}
    (S : StD (K4 q) ([(e, .raw (excO dc ar .none))] ++ d) (GR A) s)
    (next : ∀ s' c' p', ExcAt (K4 q) e dc ar .none d (GR A) s' → Y.H s' ⟨.raise (.ref e), c', p', rest⟩) : Y.H s ⟨errF (errEnv q.P N) e, cErrB q.P N, p, fsR q.P A Le ++ (fsX q.P A L ++ (frB q.P A st ++ rest))⟩ := by
  have hEB := restE_B (P := q.P) (A := A) st hS hE
  have hEX := restE_X (P := q.P) (A := A) hL hEB
  have hER := restE_F (fsR_err q.P A Le) (expEnv_ok q.P Le) rfl hLe hEX
  have hRB : RestB 240 (frB q.P A st ++ rest) := (nf_frB q.P A st hR).mono (by omega)
  have h0 : StkOk d N ((cErrB q.P N, p) :: (fsR q.P A Le ++ (fsX q.P A L ++ (frB q.P A st ++ rest))).map Frame.where_) :=
    stkOk_of (e := errEnv q.P N) (envsOf_yes rfl rfl) (errEnv_ok _ _) rfl hN hER
  refine Y.leave0 rfl h0 S fun s1 S1 => ?_
  refine unwindF Y (fsR_err q.P A Le) (expEnv_ok q.P Le) rfl hLe hEX S1 fun s2 c2 p2 S2 => ?_
  refine unwindX Y A L (hRB.le (by omega)) hL hEB S2 fun s3 c3 p3 S3 => ?_
  refine unwindAll Y A st hS (fun st' hs => ?_) S3 next
  have hl := hs.length_le
  have hm : ∀ x ∈ st', FrIn d x.1 := fun x hx => hS x (hs.subset hx)
  exact ⟨(nf_frB q.P A st' hR).le (by omega), restE_B st' hm hE⟩
end
end Mine
end
section
set_option maxRecDepth 100000
set_option maxHeartbeats 1000000
namespace Mine
open PySem PySem.W PySem.W.X
section
variable {q : Qd} (Y : Sys (K4 q)) (A : LA) {e dc ar : Addr}
theorem leaveG {d1 : DM} {rest : List Frame} (hR : RestB 200 rest) (hLt : FrIn d1 A.Lt) (hLr : FrIn d1 A.Lr) (hE : RestE d1 rest) {s : Shared} {c : Code} {p : Pos} (S : ExcAt (K4 q) e dc ar .none (goT A ++ d1) (GR A) s)
    (next : ∀ s' p' t nx fr v, StD (K4 q) (([(t, .raw (tbO nx fr (rawInt A.Lr) v))] ++ [(e, .raw (excO dc ar (.ref t)))]) ++ d1) [] s' → Y.H s' ⟨trC q.P A e (.pure ()), cReadB q.P A, p', rest⟩) :
    Y.H s ⟨.raise (.ref e), c, p, fsG q.P A ++ rest⟩ := by
  obtain ⟨r1, r2, r4, r5, fg, c1, c2, c4, c5, hfs, h1, ⟨h2, h3⟩, ⟨h4, h5, h6, h7, h8⟩, hk⟩ := fsG_err q.P A
  have hR0 : RestB 300 rest := hR.le (by omega)
  have up : ∀ {x : Addr}, FrIn d1 x → FrIn (goT A ++ d1) x := fun ⟨kv, h⟩ => ⟨kv, List.mem_append_right _ h⟩
  have hE' : RestE (goT A ++ d1) rest := hE.mono fun x hx => List.mem_append_right _ hx
  have eR : ∀ (p₀ : Pos), envsOf ((c5, p₀) :: rest.map Frame.where_) = readEnv q.P A :: envsOf (rest.map Frame.where_) := fun p₀ => envsOf_yes h7 h8
  have e1 : fsG q.P A ++ rest = r1.fr c1 :: ((fsG q.P A).tail ++ rest) := by rw [hfs]; rfl
  have eT : ∀ p₀, envsOf ((c1, p₀) :: ((fsG q.P A).tail ++ rest).map Frame.where_) = tokEnv q.P A :: envsOf (((fsG q.P A).drop 2 ++ rest).map Frame.where_) := fun p₀ => by
    rw [hfs, envsOf_no h1]
    show envsOf ((c2, _) :: (fg.where_.1, _) :: (r4.where_.1, _) :: (c5, _) :: rest.map Frame.where_) = _
    rw [envsOf_yes h2 h3]
    rfl
  have e4 : ∀ x ∈ envsOf (((fsG q.P A).drop 2 ++ rest).map Frame.where_), EnvOk (goT A ++ d1) x := fun x hx => by
    rw [hfs] at hx
    replace hx : x ∈ envsOf ((fg.where_.1, fg.where_.2) :: (r4.where_.1, r4.where_.2) :: (c5, (r5.fr c5).where_.2) :: rest.map Frame.where_) := hx
    rw [envsOf_no h4, h5, envsOf_no h6, eR] at hx
    rcases List.mem_cons.mp hx with rfl | hx
    · exact envOk_of (readEnv_ok _ _) rfl (up hLr)
    · exact hE' x hx
  rw [e1]
  refine Y.pop ?_
  rw [hk e]
  refine Y.lot1 (env := tokEnv q.P A) (f := A.Lt) rfl (stkOk_of (eT _) (tokEnv_ok _ _) rfl (up hLt) e4) S fun s1 p1 S1 => ?_
  obtain ⟨t, nx, fr, v, S1⟩ := S1
  have S1' : StD (K4 q) (([(t, .raw (tbO nx fr (rawInt A.Lt) v))] ++ [(e, .raw (excO dc ar (.ref t)))]) ++ (goT A ++ d1)) (GR A) s1 := S1
  have h := @OwT q Y A e dc ar t nx fr (rawInt A.Lt) v c1 (goT A ++ d1) s1 p1 rest hR0 S1'
  simp only [OwT_a, OwT_e, SE.cd] at h
  refine h fun i s2 p2 c2' _ _ S2 => ?_
  clear h
  refine Y.leaveSame (env := tokEnv q.P A) (f := A.Lt) rfl ⟨t, nx, fr, v, S2⟩ fun s3 S3 => ?_
  obtain ⟨t, nx, fr, v, S3⟩ := S3
  have S3 : StD (K4 q) (([(t, .raw (tbO nx fr .none v))] ++ [(e, .raw (excO dc ar (.ref t)))]) ++ (goT A ++ d1)) (GR A) s3 := S3
  have S3' := (StD.reord (d' := ((goT A ++ [(e, .raw (excO dc ar (.ref t)))]) ++ ([(t, .raw (tbO nx fr .none v))] ++ d1))) S3 fun a => by simp only [cnt_append, cnt_two, cnt_nil, Nat.add_zero, Nat.zero_add] <;> ac_rfl)
  have e7 : (fsG q.P A).tail.tail = (fsG q.P A).drop 2 := by rw [hfs]; rfl
  rw [e7]
  have h := @XG q Y A e dc ar t (frC (fsG q.P A).tail) ([(t, .raw (tbO nx fr .none v))] ++ d1) s3 p2 rest hR0 S3'
  simp only [XG_a, XG_e, SE.cd] at h
  refine h fun i s4 p4 c4' _ _ S4 => ?_
  clear h
  have e5 : (fsG q.P A).drop 4 ++ rest = r5.fr c5 :: rest := by rw [hfs]; rfl
  have S4' : StD (K4 q) (([(t, .raw (tbO nx fr .none v))] ++ [(e, .raw (excO dc ar (.ref t)))]) ++ d1) [] s4 := (StD.reord (d' := (([(t, .raw (tbO nx fr .none v))] ++ [(e, .raw (excO dc ar (.ref t)))]) ++ d1)) S4 fun a => by simp only [cnt_append, cnt_two, cnt_nil, Nat.add_zero, Nat.zero_add] <;> ac_rfl)
  have hF : (cReadFor q.P A).isFrame = false := rfl
  have e6 : ∀ p₀, envsOf ((cReadFor q.P A, p₀) :: ((fsG q.P A).drop 4 ++ rest).map Frame.where_) = readEnv q.P A :: envsOf (rest.map Frame.where_) := fun p₀ => by
    rw [e5, envsOf_no hF]
    exact eR _
  refine Y.lot1 (env := readEnv q.P A) (f := A.Lr) rfl (stkOk_of (e6 _) (readEnv_ok _ _) rfl hLr hE) ⟨t, nx, fr, v, S4'⟩ fun s5 p5 S5 => ?_
  obtain ⟨t, nx, fr, v, S5⟩ := S5
  have S5' : StD (K4 q) (([(t, .raw (tbO nx fr (rawInt A.Lr) v))] ++ [(e, .raw (excO dc ar (.ref t)))]) ++ d1) [] s5 := S5
  have h := @XH q Y A e dc ar t nx fr (rawInt A.Lr) v (cReadFor q.P A) d1 s5 p5 rest hR0 S5'
  simp only [XH_a, XH_e, SE.cd, List.nil_append] at h
  refine h fun i s6 p6 c6 _ _ S6 => ?_
  refine Y.noteC (C := trC q.P A e) (fun _ _ _ => rfl) (env := readEnv q.P A) (f := A.Lr) rfl ⟨t, nx, fr, v, S6⟩ ?_
  exact next s6 p6 t nx fr v S6
end
end Mine
end
section
set_option maxRecDepth 100000
set_option maxHeartbeats 1000000
namespace Mine
open PySem PySem.W PySem.W.X
noncomputable def sRf : Str := ⟨⟨[114, 101, 102, 117, 115, 101, 100]⟩⟩
noncomputable def refD (a b : Addr) : Option Ch → DM
  | none => [(a, .seq c_tuple [.str sRf, .none])]
  | some x => [(a, .seq c_tuple [.str sRf, .ref b])] ++ tupL b x.f x.x x.y x.z
section
variable {q : Qd} (Y : Sys (K4 q)) (A : LA) (chs : List Ch) {e dc ar t hl : Addr}
theorem hand {loc : Option Ch} (hloc : ∀ x, loc = some x → x ∈ chs) (nx fr : Value) (v : Six) (m : Str) (tu : Int) (to : Option Addr) (sn : Array Value) (hs : sn.size ≤ sizeLine) {R : DM} {s : Shared} {p : Pos} {rest : List Frame} (hR0 : RestB 300 rest)
    (S : StD (K4 q) (([(t, .raw (tbO nx fr (rawInt A.Lr) v))] ++ [(e, .raw (excO dc ar (.ref t)))]) ++ (exD dc m (loc.map Ch.l) hl ++ (chM chs ++ (lrF A tu to ++ ([(A.seen, .arr c_list sn)] ++ R))))) [] s)
    (next : ∀ s' p' c' a b, StD (K4 q) ([(A.seen, .arr c_list (sn.push (.ref a)))] ++ (refD a b loc ++ R)) [] s' → Y.H s' ⟨.pure (.done (.ret (.ref A.seen))), c', p', rest⟩) :
    Y.H s ⟨trC q.P A e (.pure ()), cReadB q.P A, p, rest⟩ := by
  cases loc with
  | none =>
    have S1 := (StD.reord (d' := ((([(t, .raw (tbO nx fr (rawInt A.Lr) v))] ++ [(e, .raw (excO dc ar (.ref t)))]) ++ (exD dc m none hl ++ (lrF A tu to ++ ([(A.seen, .arr c_list sn)] ++ ([] : DM))))) ++ (chM chs ++ R))) S fun a => by simp only [cnt_append, cnt_two, cnt_nil, Nat.add_zero, Nat.zero_add] <;> ac_rfl)
    have h := @HXn q Y A e dc ar t hl nx fr v m tu to sn hs _ s p rest hR0 S1
    simp only [HXn_a, HXn_e, SE.cd, List.nil_append] at h
    refine h fun i s' p' c' _ _ S' => ?_
    exact next s' p' c' (i.N + 0) 0 (StD.mem_drop (e := chM chs) S' fun a => by simp only [cnt_append, cnt_nil, refD, sRf]; omega)
  | some x =>
    obtain ⟨Rx, hRx⟩ := ch_split (hloc x rfl)
    have S1 := (StD.reord (d' := ((([(t, .raw (tbO nx fr (rawInt A.Lr) v))] ++ [(e, .raw (excO dc ar (.ref t)))]) ++ (exD dc m (some x.l) hl ++ (lrF A tu to ++ ([(A.seen, .arr c_list sn)] ++ locD x.l x.ld x.f x.x x.y x.z)))) ++ (chD x.a x.d x.l ⟨⟨[x.sg]⟩⟩ ++ (Rx ++ R)))) S fun a => by simp only [cnt_append, cnt_two, cnt_nil, Nat.add_zero, Nat.zero_add, hRx, Option.map_some] <;> ac_rfl)
    have h := @HXs q Y A e dc ar t hl nx fr v m tu to sn x.l x.ld x.f x.x x.y x.z hs _ s p rest hR0 S1
    simp only [HXs_a, HXs_e, SE.cd, List.nil_append] at h
    refine h fun i s' p' c' _ _ S' => ?_
    exact next s' p' c' (i.N + 1) (i.N + 0) (StD.mem_drop (e := chD x.a x.d x.l ⟨⟨[x.sg]⟩⟩ ++ Rx) S' fun a => by simp only [cnt_append, cnt_nil, refD, sRf]; omega)
end
end Mine
end
section
set_option maxRecDepth 100000
set_option maxHeartbeats 1000000
namespace Mine
open PySem PySem.W PySem.W.X
section
variable {q : Qd} (Y : Sys (K4 q)) (A : LA) (chs : List Ch)
noncomputable def lowD (A : LA) (tu : Int) (to : Option Addr) (sn : Array Value) : DM := goT A ++ (ltF A ++ (lrF A tu to ++ [(A.seen, .arr c_list sn)]))
theorem frIn_of {d : DM} {f : Addr} {kv : List (List Nat × VD)} (h : (f, OD.frq kv) ∈ d) : FrIn d f := ⟨kv, h⟩
theorem low1 {tu : Int} {to : Option Addr} {sn : Array Value} {R : DM} : FrIn (ltF A ++ (lrF A tu to ++ R)) A.Lt := frIn_of (by unfold ltF; exact List.mem_append_left _ (List.mem_cons_self ..))
theorem low2 {tu : Int} {to : Option Addr} {R : DM} : FrIn (ltF A ++ (lrF A tu to ++ R)) A.Lr := frIn_of (by unfold lrF; exact List.mem_append_right _ (List.mem_append_left _ (List.mem_cons_self ..)))
theorem lvM_in : ∀ (st : List (Addr × Op)), ∀ x ∈ st, FrIn (lvM st) x.1
  | y :: r, x, hx => by
    rcases List.mem_cons.mp hx with rfl | hx
    · exact frIn_of (kv := [([115, 105, 103, 110], .str ⟨⟨[x.2.o]⟩⟩)]) (by unfold lvM lvF; exact List.mem_append_left _ (List.mem_cons_self ..))
    · obtain ⟨kv, h⟩ := lvM_in r x hx
      exact ⟨kv, by unfold lvM; exact List.mem_append_right _ h⟩
theorem FrIn.mono {d d' : DM} {f : Addr} (h : FrIn d f) (hd : ∀ x ∈ d, x ∈ d') : FrIn d' f := ⟨h.choose, hd _ h.choose_spec⟩
theorem restE_G {P : Params} {d : DM} {rest : List Frame} (hLt : FrIn d A.Lt) (hLr : FrIn d A.Lr) (hr : RestE d rest) : RestE d (fsG P A ++ rest) := fun x hx => by
  obtain ⟨r1, r2, r4, r5, fg, c1, c2, c4, c5, hfs, h1, ⟨h2, h3⟩, ⟨h4, h5, h6, h7, h8⟩, -⟩ := fsG_err P A
  rw [hfs] at hx
  replace hx : x ∈ envsOf ((c1, (r1.fr c1).where_.2) :: (c2, (r2.fr c2).where_.2) :: (fg.where_.1, fg.where_.2) :: (r4.where_.1, r4.where_.2) :: (c5, (r5.fr c5).where_.2) :: rest.map Frame.where_) := hx
  rw [envsOf_no h1, envsOf_yes h2 h3, envsOf_no h4, h5, envsOf_no h6, envsOf_yes h7 h8] at hx
  rcases List.mem_cons.mp hx with rfl | hx
  · exact envOk_of (tokEnv_ok _ _) rfl hLt
  · rcases List.mem_cons.mp hx with rfl | hx
    · exact envOk_of (readEnv_ok _ _) rfl hLr
    · exact hr x hx
theorem refuseX {loc : Option Ch} (hloc : ∀ x, loc = some x → x ∈ chs) (st : List (Addr × Op)) (hst : st.length ≤ 20) (L Le Ls : Nat) (f2 f3 f4 : List (List Nat × VD)) (tu : Int) (to : Option Addr) (sn : Array Value) (hs : sn.size ≤ sizeLine) {R : DM} {rest : List Frame} (hR : RestB 190 rest) (hE : RestE R rest)
    (next : ∀ s' p' c' a b, StD (K4 q) ([(A.seen, .arr c_list (sn.push (.ref a)))] ++ (refD a b loc ++ R)) [] s' → Y.H s' ⟨.pure (.done (.ret (.ref A.seen))), c', p', rest⟩) :
    Refu Y A chs ([(Le, .frq f2)] ++ ([(L, .frq f3)] ++ (lvM st ++ ([(Ls, .frq f4)] ++ (lowD A tu to sn ++ R))))) (fsR q.P A Le ++ (fsX q.P A L ++ (frB q.P A st ++ (fsS4 q.P A Ls ++ (fsG q.P A ++ rest))))) loc := by
  intro s p e dc ar hl N m f1 S
  have hRG : RestB 192 (fsG q.P A ++ rest) := nf_G q.P A hR
  have hRS : RestB 200 (fsS4 q.P A Ls ++ (fsG q.P A ++ rest)) := (nf_S4 q.P A Ls hRG).mono (by omega)
  have hLt0 : FrIn (lowD A tu to sn ++ R) A.Lt := FrIn.mono (d := ltF A) (frIn_of (by unfold ltF; exact List.mem_cons_self ..)) fun x hx => by simp only [lowD, List.mem_append]; exact .inl (.inr (.inl hx))
  have hLr0 : FrIn (lowD A tu to sn ++ R) A.Lr := FrIn.mono (d := lrF A tu to) (frIn_of (by unfold lrF; exact List.mem_cons_self ..)) fun x hx => by simp only [lowD, List.mem_append]; exact .inl (.inr (.inr (.inl hx)))
  let D : DM := exD dc m (loc.map Ch.l) hl ++ ([(N, .frq f1)] ++ (chM chs ++ ([(Le, .frq f2)] ++ ([(L, .frq f3)] ++ (lvM st ++ ([(Ls, .frq f4)] ++ (lowD A tu to sn ++ R)))))))
  have up : ∀ {x : Addr} {d : DM}, FrIn d x → (∀ y ∈ d, y ∈ D) → FrIn D x := fun h hd => h.mono hd
  have one : ∀ {x : Addr} {kv : List (List Nat × VD)}, FrIn [(x, OD.frq kv)] x := fun {x kv} => ⟨kv, List.mem_cons_self ..⟩
  have hN : FrIn D N := up one fun y hy => by simp only [D, List.mem_append]; exact .inr (.inl hy)
  have hLe : FrIn D Le := up one fun y hy => by simp only [D, List.mem_append]; exact .inr (.inr (.inr (.inl hy)))
  have hL : FrIn D L := up one fun y hy => by simp only [D, List.mem_append]; exact .inr (.inr (.inr (.inr (.inl hy))))
  have hSt : ∀ x ∈ st, FrIn D x.1 := fun x hx => up (lvM_in st x hx) fun y hy => by simp only [D, List.mem_append]; exact .inr (.inr (.inr (.inr (.inr (.inl hy)))))
  have hLs : FrIn D Ls := up one fun y hy => by simp only [D, List.mem_append]; exact .inr (.inr (.inr (.inr (.inr (.inr (.inl hy))))))
  have tail : ∀ y ∈ lowD A tu to sn ++ R, y ∈ D := fun y hy => List.mem_append_right _ (List.mem_append_right _ (List.mem_append_right _ (List.mem_append_right _ (List.mem_append_right _ (List.mem_append_right _ (List.mem_append_right _ hy))))))
  have hE0 : RestE D rest := hE.mono fun y hy => tail y (List.mem_append_right _ hy)
  have hEG : RestE D (fsG q.P A ++ rest) := restE_G A (up hLt0 tail) (up hLr0 tail) hE0
  have hES : RestE D (fsS4 q.P A Ls ++ (fsG q.P A ++ rest)) := restE_F (fsS4_err q.P A Ls) (startEnv_ok _ _ _) rfl hLs hEG
  refine leaveX Y A (d := D) N Le L st hRS hst hN hLe hL hSt hES S fun s1 c1 p1 S1 => ?_
  refine unwindF Y (fsS4_err q.P A Ls) (startEnv_ok _ _ _) rfl hLs hEG S1 fun s2 c2 p2 S2 => ?_
  obtain ⟨t, nx, fr, v, S2⟩ := S2
  let J : DM := [(N, .frq f1)] ++ ([(Le, .frq f2)] ++ ([(L, .frq f3)] ++ (lvM st ++ ([(Ls, .frq f4)] ++ ltF A))))
  let d1 : DM := exD dc m (loc.map Ch.l) hl ++ (chM chs ++ (lrF A tu to ++ ([(A.seen, .arr c_list sn)] ++ (J ++ R))))
  have S2 : StD (K4 q) (([(t, .raw (tbO nx fr .none v))] ++ [(e, .raw (excO dc ar (.ref t)))]) ++ D) (GR A) s2 := S2
  have S3 := (StD.reord (d' := (([(t, .raw (tbO nx fr .none v))] ++ [(e, .raw (excO dc ar (.ref t)))]) ++ (goT A ++ d1))) S2 fun a => by simp only [cnt_append, cnt_two, cnt_nil, Nat.add_zero, Nat.zero_add, D, lowD, d1, J] <;> ac_rfl)
  have hRd : ∀ y ∈ R, y ∈ d1 := fun y hy => by simp only [d1, List.mem_append]; exact .inr (.inr (.inr (.inr (.inr hy))))
  have hLt1 : FrIn d1 A.Lt := FrIn.mono (d := ltF A) (frIn_of (by unfold ltF; exact List.mem_cons_self ..)) fun y hy => by simp only [d1, J, List.mem_append]; exact .inr (.inr (.inr (.inr (.inl (.inr (.inr (.inr (.inr (.inr hy)))))))))
  have hLr1 : FrIn d1 A.Lr := FrIn.mono (d := lrF A tu to) (frIn_of (by unfold lrF; exact List.mem_cons_self ..)) fun y hy => by simp only [d1, List.mem_append]; exact .inr (.inr (.inl hy))
  refine leaveG Y A (hR.mono (by omega)) hLt1 hLr1 (hE.mono hRd) ⟨t, nx, fr, v, S3⟩ fun s4 p4 t nx fr v S4 => ?_
  refine hand Y A chs hloc nx fr v m tu to sn hs (hR.le (by omega)) S4 fun s5 p5 c5 a b S5 => next s5 p5 c5 a b ((StD.mem_drop (d' := ([(A.seen, .arr c_list (sn.push (.ref a)))] ++ (refD a b loc ++ R))) (e := J) S5 fun a => by simp only [cnt_append, cnt_two, cnt_nil, Nat.add_zero, Nat.zero_add, J] <;> ac_rfl))
end
end Mine
end
section
set_option maxRecDepth 100000
set_option maxHeartbeats 1000000
namespace Mine
open PySem PySem.W PySem.W.X
section
variable {q : Qd} (Y : Sys (K4 q)) (A : LA) (chs : List Ch)
theorem refuseS {loc : Option Ch} (hloc : ∀ x, loc = some x → x ∈ chs) (Le Ls : Nat) (f2 f4 : List (List Nat × VD)) (tu : Int) (to : Option Addr) (sn : Array Value) (hs : sn.size ≤ sizeLine) {R : DM} {rest : List Frame} (hR : RestB 190 rest) (hE : RestE R rest)
    (next : ∀ s' p' c' a b, StD (K4 q) ([(A.seen, .arr c_list (sn.push (.ref a)))] ++ (refD a b loc ++ R)) [] s' → Y.H s' ⟨.pure (.done (.ret (.ref A.seen))), c', p', rest⟩) :
    Refu Y A chs ([(Le, .frq f2)] ++ ([(Ls, .frq f4)] ++ (lowD A tu to sn ++ R))) (fsR q.P A Le ++ (fsS6 q.P A Ls ++ (fsG q.P A ++ rest))) loc := by
  intro s p e dc ar hl N m f1 S
  have hRG : RestB 192 (fsG q.P A ++ rest) := nf_G q.P A hR
  have hRS : RestB 200 (fsS6 q.P A Ls ++ (fsG q.P A ++ rest)) := (nf_S6 q.P A Ls hRG).mono (by omega)
  have hLt0 : FrIn (lowD A tu to sn ++ R) A.Lt := FrIn.mono (d := ltF A) (frIn_of (by unfold ltF; exact List.mem_cons_self ..)) fun x hx => by simp only [lowD, List.mem_append]; exact .inl (.inr (.inl hx))
  have hLr0 : FrIn (lowD A tu to sn ++ R) A.Lr := FrIn.mono (d := lrF A tu to) (frIn_of (by unfold lrF; exact List.mem_cons_self ..)) fun x hx => by simp only [lowD, List.mem_append]; exact .inl (.inr (.inr (.inl hx)))
  let D : DM := exD dc m (loc.map Ch.l) hl ++ ([(N, .frq f1)] ++ (chM chs ++ ([(Le, .frq f2)] ++ ([(Ls, .frq f4)] ++ (lowD A tu to sn ++ R)))))
  have up : ∀ {x : Addr} {d : DM}, FrIn d x → (∀ y ∈ d, y ∈ D) → FrIn D x := fun h hd => h.mono hd
  have one : ∀ {x : Addr} {kv : List (List Nat × VD)}, FrIn [(x, OD.frq kv)] x := fun {x kv} => ⟨kv, List.mem_cons_self ..⟩
  have hN : FrIn D N := up one fun y hy => by simp only [D, List.mem_append]; exact .inr (.inl hy)
  have hLe : FrIn D Le := up one fun y hy => by simp only [D, List.mem_append]; exact .inr (.inr (.inr (.inl hy)))
  have hLs : FrIn D Ls := up one fun y hy => by simp only [D, List.mem_append]; exact .inr (.inr (.inr (.inr (.inl hy))))
  have tail : ∀ y ∈ lowD A tu to sn ++ R, y ∈ D := fun y hy => List.mem_append_right _ (List.mem_append_right _ (List.mem_append_right _ (List.mem_append_right _ (List.mem_append_right _ hy))))
  have hE0 : RestE D rest := hE.mono fun y hy => tail y (List.mem_append_right _ hy)
  have hEG : RestE D (fsG q.P A ++ rest) := restE_G A (up hLt0 tail) (up hLr0 tail) hE0
  have hES : RestE D (fsS6 q.P A Ls ++ (fsG q.P A ++ rest)) := restE_F (fsS6_err q.P A Ls) (startEnv_ok _ _ _) rfl hLs hEG
  have hER := restE_F (fsR_err q.P A Le) (expEnv_ok q.P Le) rfl hLe hES
  have h0 : StkOk D N ((cErrB q.P N, p) :: (fsR q.P A Le ++ (fsS6 q.P A Ls ++ (fsG q.P A ++ rest))).map Frame.where_) :=
    stkOk_of (e := errEnv q.P N) (envsOf_yes rfl rfl) (errEnv_ok _ _) rfl hN hER
  refine Y.leave0 rfl h0 S fun s0 S0 => ?_
  refine unwindF Y (fsR_err q.P A Le) (expEnv_ok q.P Le) rfl hLe hES S0 fun s1 c1 p1 S1 => ?_
  refine unwindF Y (fsS6_err q.P A Ls) (startEnv_ok _ _ _) rfl hLs hEG S1 fun s2 c2 p2 S2 => ?_
  obtain ⟨t, nx, fr, v, S2⟩ := S2
  let J : DM := [(N, .frq f1)] ++ ([(Le, .frq f2)] ++ ([(Ls, .frq f4)] ++ ltF A))
  let d1 : DM := exD dc m (loc.map Ch.l) hl ++ (chM chs ++ (lrF A tu to ++ ([(A.seen, .arr c_list sn)] ++ (J ++ R))))
  have S2 : StD (K4 q) (([(t, .raw (tbO nx fr .none v))] ++ [(e, .raw (excO dc ar (.ref t)))]) ++ D) (GR A) s2 := S2
  have S3 := (StD.reord (d' := (([(t, .raw (tbO nx fr .none v))] ++ [(e, .raw (excO dc ar (.ref t)))]) ++ (goT A ++ d1))) S2 fun a => by simp only [cnt_append, cnt_two, cnt_nil, Nat.add_zero, Nat.zero_add, D, lowD, d1, J] <;> ac_rfl)
  have hRd : ∀ y ∈ R, y ∈ d1 := fun y hy => by simp only [d1, List.mem_append]; exact .inr (.inr (.inr (.inr (.inr hy))))
  have hLt1 : FrIn d1 A.Lt := FrIn.mono (d := ltF A) (frIn_of (by unfold ltF; exact List.mem_cons_self ..)) fun y hy => by simp only [d1, J, List.mem_append]; exact .inr (.inr (.inr (.inr (.inl (.inr (.inr (.inr hy)))))))
  have hLr1 : FrIn d1 A.Lr := FrIn.mono (d := lrF A tu to) (frIn_of (by unfold lrF; exact List.mem_cons_self ..)) fun y hy => by simp only [d1, List.mem_append]; exact .inr (.inr (.inl hy))
  refine leaveG Y A (hR.mono (by omega)) hLt1 hLr1 (hE.mono hRd) ⟨t, nx, fr, v, S3⟩ fun s4 p4 t nx fr v S4 => ?_
  refine hand Y A chs hloc nx fr v m tu to sn hs (hR.le (by omega)) S4 fun s5 p5 c5 a b S5 => next s5 p5 c5 a b ((StD.mem_drop (d' := ([(A.seen, .arr c_list (sn.push (.ref a)))] ++ (refD a b loc ++ R))) (e := J) S5 fun a => by simp only [cnt_append, cnt_two, cnt_nil, Nat.add_zero, Nat.zero_add, J] <;> ac_rfl))
end
end Mine
end
section
set_option linter.unusedVariables false
set_option maxRecDepth 100000
set_option maxHeartbeats 1000000
namespace Mine
open PySem PySem.W PySem.W.X
noncomputable def sgS (X : List Ch) : Str := ⟨⟨X.map (·.sg)⟩⟩
noncomputable def valsL (l : List (Nat × Tok)) : Array Value := ⟨l.map fun x => .str ⟨⟨[x.1]⟩⟩ x.2⟩
noncomputable def gmE (q : Qd) (A : LA) (g2 it3 Lg co : Nat) : GMem := [(g2, genS q.P A it3 Lg co), (A.g, .running)]
noncomputable def EMp_a (q : Qd) (A : LA) (go g2 it3 Lg co lst : Nat) (pp : Pos) (l : List (Nat × Tok)) (x : Nat) (t : Tok) (c₀ : Code) : SG := ⟨5, .pure (.done (.ret (.str ⟨⟨[x]⟩⟩ t))), c₀, fsN q.P lst go pp, [(lst, .arr c_list (valsL l))], gmE q A g2 it3 Lg co, hz 3 0x000, [0]⟩
noncomputable def EMp_e (q : Qd) (A : LA) (go g2 it3 Lg co lst : Nat) (pp : Pos) (l : List (Nat × Tok)) (x : Nat) (t : Tok) (c₀ : Code) (i : In) : SE := ⟨denF (cExt lst go), some (cExt lst go), [], [(lst, .arr c_list (valsL (l ++ [(x, t)])))], gmE q A g2 it3 Lg co⟩
theorem EMp_r (q : Qd) (A : LA) (go g2 it3 Lg co lst : Nat) (pp : Pos) (l : List (Nat × Tok)) (h : l.length ≤ 13) (x : Nat) (t : Tok) (c₀ : Code) : RunsTo (K4 q) (EMp_a q A go g2 it3 Lg co lst pp l x t c₀) (fun _ => []) (EMp_e q A go g2 it3 Lg co lst pp l x t c₀) := by
  intro W i
  match l, h with
  | [], _ => kernel_rfl
  | [_], _ => kernel_rfl
  | [_, _], _ => kernel_rfl
  | [_, _, _], _ => kernel_rfl
  | [_, _, _, _], _ => kernel_rfl
  | [_, _, _, _, _], _ => kernel_rfl
  | [_, _, _, _, _, _], _ => kernel_rfl
  | [_, _, _, _, _, _, _], _ => kernel_rfl
  | [_, _, _, _, _, _, _, _], _ => kernel_rfl
  | [_, _, _, _, _, _, _, _, _], _ => kernel_rfl
  | [_, _, _, _, _, _, _, _, _, _], _ => kernel_rfl
  | [_, _, _, _, _, _, _, _, _, _, _], _ => kernel_rfl
  | [_, _, _, _, _, _, _, _, _, _, _, _], _ => kernel_rfl
  | [_, _, _, _, _, _, _, _, _, _, _, _, _], _ => kernel_rfl
  | _ :: _ :: _ :: _ :: _ :: _ :: _ :: _ :: _ :: _ :: _ :: _ :: _ :: _ :: _, h => simp only [List.length_cons] at h; omega
theorem EMp {q : Qd} (Y : Sys (K4 q)) (A : LA) (go g2 it3 Lg co lst : Nat) (pp : Pos) (l : List (Nat × Tok)) (h : l.length ≤ 13) (x : Nat) (t : Tok) (c₀ : Code) : SegT Y (EMp_a q A go g2 it3 Lg co lst pp l x t c₀) (EMp_e q A go g2 it3 Lg co lst pp l x t c₀) :=
  Y.seg (EMp_r q A go g2 it3 Lg co lst pp l h x t c₀) (show List.Nodup [0] by decide) (fun i hN => AllOk.nil)
end Mine
end
section
set_option linter.unusedVariables false
set_option maxRecDepth 100000
set_option maxHeartbeats 1000000
namespace Mine
open PySem PySem.W PySem.W.X
theorem take_snoc {α : Type} (X : List α) {k : Nat} {x : α} (h : X[k]? = some x) : X.take (k + 1) = X.take k ++ [x] := by
  rw [List.take_add_one, h]; rfl
theorem valsL_len {l : List (Nat × Tok)} {X : List Ch} (h : l.map (·.1) = X.map (·.sg)) : l.length = X.length := by
  have := congrArg List.length h
  simpa using this
section
variable {q : Qd} (Y : Sys (K4 q)) (A : LA) (chs : List Ch)
theorem emLoop (go g2 it3 Lg co lst : Nat) (X : List Ch) (hX : X.length ≤ 14) (hm : ∀ x ∈ X, x ∈ chs) {R : DM} {rest : List Frame} (hR0 : RestB 300 rest)
    (next : ∀ s' p' c' (pl : List (Nat × Tok)), pl.map (·.1) = X.map (·.sg) → StD (K4 q) ([(A.ct, .arr c_list (crefs X))] ++ ([(lst, .arr c_list (valsL pl))] ++ (chM chs ++ R))) (GR A) s' → Y.H s' ⟨.pure (.done (.ret (.ref lst))), c', p', rest⟩) :
    ∀ (n k : Nat), k + n = X.length → ∀ (pl : List (Nat × Tok)), pl.map (·.1) = (X.take k).map (·.sg) → ∀ (fo : Option Addr) {s : Shared} {pos : Pos},
      StD (K4 q) (goD go g2 ++ (itF A it3 k ++ (gxF Lg it3 fo ++ ([(A.ct, .arr c_list (crefs X))] ++ ([(lst, .arr c_list (valsL pl))] ++ (chM chs ++ R)))))) (gmE q A g2 it3 Lg co) s → Y.H s ⟨denF (cExt lst go), cExt lst go, pos, rest⟩
  | 0, k, hk, pl, hpl, fo, s, pos, S => by
    have hno : (crefs X)[k]? = none := by rw [crefs_get, List.getElem?_eq_none (by omega)]; rfl
    have S1 := (StD.reord (d' := ((goD go g2 ++ (itF A it3 k ++ [(A.ct, .arr c_list (crefs X))])) ++ (gxF Lg it3 fo ++ ([(lst, .arr c_list (valsL pl))] ++ (chM chs ++ R))))) S fun a => by simp only [cnt_append, cnt_two, cnt_nil, Nat.add_zero, Nat.zero_add] <;> (try dsimp only [Addr]) <;> with_reducible ac_rfl)
    have h := @EMz q Y A go g2 it3 Lg co lst k (crefs X) hno _ s pos rest hR0 S1
    simp only [EMz_a, EMz_e, SE.cd, List.nil_append] at h
    refine h fun i s1 p1 c1 _ _ S2 => ?_
    have e : X.take k = X := List.take_of_length_le (by omega)
    rw [e] at hpl
    exact next s1 p1 c1 pl hpl ((StD.mem_drop (d' := ([(A.ct, .arr c_list (crefs X))] ++ ([(lst, .arr c_list (valsL pl))] ++ (chM chs ++ R)))) (e := (gxF Lg it3 fo)) S2 fun a => by simp only [cnt_append, cnt_two, cnt_nil, Nat.add_zero, Nat.zero_add] <;> (try dsimp only [Addr]) <;> with_reducible ac_rfl))
  | n + 1, k, hk, pl, hpl, fo, s, pos, S => by
    have hlt : k < X.length := by omega
    obtain ⟨x, hx⟩ : ∃ x, X[k]? = some x := ⟨_, List.getElem?_eq_getElem hlt⟩
    obtain ⟨Rx, hRx⟩ := ch_split (hm x (List.mem_of_getElem? hx))
    have hget : (crefs X)[k]? = some (.ref x.a) := by rw [crefs_get, hx]; rfl
    have hl : pl.length = k := by have := congrArg List.length hpl; simpa [Nat.le_of_lt hlt] using this
    have S1 := (StD.reord (d' := ((goD go g2 ++ (itF A it3 k ++ (gxF Lg it3 fo ++ ([(A.ct, .arr c_list (crefs X))] ++ chD x.a x.d x.l ⟨⟨[x.sg]⟩⟩)))) ++ ([(lst, .arr c_list (valsL pl))] ++ (locD x.l x.ld x.f x.x x.y x.z ++ (Rx ++ R))))) S fun a => by simp only [cnt_append, cnt_two, cnt_nil, Nat.add_zero, Nat.zero_add, hRx] <;> (try dsimp only [Addr]) <;> with_reducible ac_rfl)
    have h := @EMt q Y A go g2 it3 Lg co lst k fo (crefs X) x.a x.d x.l ⟨⟨[x.sg]⟩⟩ hget _ s pos rest hR0 S1
    simp only [EMt_a, EMt_e, SE.cd] at h
    refine h fun i s1 p1 c1 _ _ S2 => ?_
    clear h
    have S3 := (StD.reord (d' := ([(lst, .arr c_list (valsL pl))] ++ ((goD go g2 ++ (itF A it3 (k + 1) ++ (gxF Lg it3 (some x.a) ++ ([(A.ct, .arr c_list (crefs X))] ++ chD x.a x.d x.l ⟨⟨[x.sg]⟩⟩)))) ++ (locD x.l x.ld x.f x.x x.y x.z ++ (Rx ++ R))))) S2 fun a => by simp only [cnt_append, cnt_two, cnt_nil, Nat.add_zero, Nat.zero_add] <;> (try dsimp only [Addr]) <;> with_reducible ac_rfl)
    have h := @EMp q Y A go g2 it3 Lg co lst i.p pl (by omega) x.sg (i.τ 5 1) c1 _ s1 p1 rest hR0 S3
    simp only [EMp_a, EMp_e, SE.cd, List.nil_append] at h
    refine h fun i2 s2 p2 c2 _ _ S4 => ?_
    clear h
    exact emLoop go g2 it3 Lg co lst X hX hm hR0 next n (k + 1) (by omega) (pl ++ [(x.sg, i.τ 5 1)]) (by rw [take_snoc X hx, List.map_append, List.map_append, hpl]; rfl) (some x.a)
      ((StD.reord (d' := (goD go g2 ++ (itF A it3 (k + 1) ++ (gxF Lg it3 (some x.a) ++ ([(A.ct, .arr c_list (crefs X))] ++ ([(lst, .arr c_list (valsL (pl ++ [(x.sg, i.τ 5 1)])))] ++ (chM chs ++ R))))))) S4 fun a => by simp only [cnt_append, cnt_two, cnt_nil, Nat.add_zero, Nat.zero_add, hRx] <;> (try dsimp only [Addr]) <;> with_reducible ac_rfl))
theorem emAll (go g2 it3 Lg co lst : Nat) (X : List Ch) (h1 : 1 ≤ X.length) (hX : X.length ≤ 14) (hm : ∀ x ∈ X, x ∈ chs) {R : DM} {rest : List Frame} (hR0 : RestB 300 rest)
    (next : ∀ s' p' c' (pl : List (Nat × Tok)), pl.map (·.1) = X.map (·.sg) → StD (K4 q) ([(A.ct, .arr c_list (crefs X))] ++ ([(lst, .arr c_list (valsL pl))] ++ (chM chs ++ R))) (GR A) s' → Y.H s' ⟨.pure (.done (.ret (.ref lst))), c', p', rest⟩)
    {s : Shared} {pos : Pos} (S : StD (K4 q) (goD go g2 ++ (itF A it3 0 ++ (gxF Lg it3 none ++ ([(A.ct, .arr c_list (crefs X))] ++ ([(lst, .arr c_list #[])] ++ (chM chs ++ R)))))) [(g2, genC q.P A it3 Lg co), (A.g, .running)] s) : Y.H s ⟨denF (cExt lst go), cExt lst go, pos, rest⟩ := by
  obtain ⟨x, hx⟩ : ∃ x, X[0]? = some x := ⟨_, List.getElem?_eq_getElem h1⟩
  obtain ⟨Rx, hRx⟩ := ch_split (hm x (List.mem_of_getElem? hx))
  have hget : (crefs X)[0]? = some (.ref x.a) := by rw [crefs_get, hx]; rfl
  have S1 := (StD.reord (d' := ((goD go g2 ++ (itF A it3 0 ++ (gxF Lg it3 none ++ ([(A.ct, .arr c_list (crefs X))] ++ chD x.a x.d x.l ⟨⟨[x.sg]⟩⟩)))) ++ ([(lst, .arr c_list #[])] ++ (locD x.l x.ld x.f x.x x.y x.z ++ (Rx ++ R))))) S fun a => by simp only [cnt_append, cnt_two, cnt_nil, Nat.add_zero, Nat.zero_add, hRx] <;> (try dsimp only [Addr]) <;> with_reducible ac_rfl)
  have h := @EMf q Y A go g2 it3 Lg co lst (crefs X) x.a x.d x.l ⟨⟨[x.sg]⟩⟩ hget _ s pos rest hR0 S1
  simp only [EMf_a, EMf_e, SE.cd] at h
  refine h fun i s1 p1 c1 _ _ S2 => ?_
  clear h
  have ev : valsL [] = #[] := rfl
  have S3 := (StD.reord (d' := ([(lst, .arr c_list (valsL []))] ++ ((goD go g2 ++ (itF A it3 1 ++ (gxF Lg it3 (some x.a) ++ ([(A.ct, .arr c_list (crefs X))] ++ chD x.a x.d x.l ⟨⟨[x.sg]⟩⟩)))) ++ (locD x.l x.ld x.f x.x x.y x.z ++ (Rx ++ R))))) S2 fun a => by simp only [cnt_append, cnt_two, cnt_nil, Nat.add_zero, Nat.zero_add, ev] <;> (try dsimp only [Addr]) <;> with_reducible ac_rfl)
  have h := @EMp q Y A go g2 it3 Lg co lst i.p [] (by decide) x.sg (i.τ 5 1) c1 _ s1 p1 rest hR0 S3
  simp only [EMp_a, EMp_e, SE.cd, List.nil_append] at h
  refine h fun i2 s2 p2 c2 _ _ S4 => ?_
  clear h
  exact emLoop Y A chs go g2 it3 Lg co lst X hX hm hR0 next (X.length - 1) 1 (by omega) [(x.sg, i.τ 5 1)] (by rw [take_snoc X hx]; rfl) (some x.a)
    ((StD.reord (d' := (goD go g2 ++ (itF A it3 1 ++ (gxF Lg it3 (some x.a) ++ ([(A.ct, .arr c_list (crefs X))] ++ ([(lst, .arr c_list (valsL [(x.sg, i.τ 5 1)]))] ++ (chM chs ++ R))))))) S4 fun a => by simp only [cnt_append, cnt_two, cnt_nil, Nat.add_zero, Nat.zero_add, hRx] <;> (try dsimp only [Addr]) <;> with_reducible ac_rfl))
theorem emTail (L : Nat) (tk : Tok) (nm : Str) (go g2 it3 Lg co lst : Nat) {e : Bool} {k : Nat} {pb : Option Addr} (X : List Ch) (h1 : 1 ≤ X.length) (hX : X.length ≤ 14) (hm : ∀ x ∈ X, x ∈ chs) {R : DM} {rest : List Frame} (hR : RestB 290 rest)
    (next : ∀ s' p' c' tok td (x : Ch), X[0]? = some x → StD (K4 q) (LX A chs e k pb [] ++ (tabD (some co) ++ ([(A.tb, .seq c_list [.ref tok])] ++ (tokD tok td nm (sgS X) x.l ++ R)))) (GR A) s' → Y.H s' ⟨.pure (.done (.ret .none)), c', p', rest⟩)
    {s : Shared} {pos : Pos} (S : StD (K4 q) (goD go g2 ++ (itF A it3 0 ++ (gxF Lg it3 none ++ (emF A L nm none ++ ([(lst, .arr c_list #[])] ++ (LX A chs e k pb X ++ (tabD (some co) ++ ([(A.tb, .seq c_list [])] ++ R)))))))) [(g2, genC q.P A it3 Lg co), (A.g, .running)] s) : Y.H s ⟨denF (cExt lst go), cExt lst go, pos, fsJ q.P A L tk go ++ (fsM q.P A L ++ rest)⟩ := by
  have hR0 : RestB 300 rest := hR.le (by omega)
  have hRM : RestB 292 (fsM q.P A L ++ rest) := nf_M q.P A L hR
  have hRJ : RestB 294 (fsJ q.P A L tk go ++ (fsM q.P A L ++ rest)) := nf_J q.P A L tk go hRM
  obtain ⟨x, hx⟩ : ∃ x, X[0]? = some x := ⟨_, List.getElem?_eq_getElem h1⟩
  obtain ⟨Rx, hRx⟩ := ch_split (hm x (List.mem_of_getElem? hx))
  have hit : ItemAt (crefs X) 0 (.ref x.a) := ⟨by decide, by decide, by show (crefs X)[0]? = _; rw [crefs_get, hx]; rfl⟩
  have hsz : (crefs X).size ≤ sizeLine := by rw [crefs_size]; exact le_line (by omega)
  let Q : DM := emF A L nm none ++ (smD A ++ ([(A.pb, .seq c_list (oneL pb))] ++ ([(A.it, .fields c_listit [cond e .none (.ref A.cl), .raw (.int ((k : Nat) : Int) 0)])] ++ ([(A.cl, .arr c_list (crefs chs))] ++ (tabD (some co) ++ ([(A.tb, .seq c_list [])] ++ R))))))
  have S1 := (StD.reord (d' := (goD go g2 ++ (itF A it3 0 ++ (gxF Lg it3 none ++ ([(A.ct, .arr c_list (crefs X))] ++ ([(lst, .arr c_list #[])] ++ (chM chs ++ Q))))))) S fun a => by simp only [cnt_append, cnt_two, cnt_nil, Nat.add_zero, Nat.zero_add, LX, lxD, lmD, Q] <;> (try dsimp only [Addr]) <;> with_reducible ac_rfl)
  refine emAll Y A chs go g2 it3 Lg co lst X h1 hX hm (hRJ.le (by omega)) (fun s1 p1 c1 pl hpl S2 => ?_) S1
  have hl := valsL_len hpl
  have S3 := (StD.reord (d' := ([(lst, .arr c_list ⟨pl.map fun x => .str ⟨⟨[x.1]⟩⟩ x.2⟩)] ++ ([(A.ct, .arr c_list (crefs X))] ++ (chM chs ++ Q)))) S2 fun a => by simp only [cnt_append, cnt_two, cnt_nil, Nat.add_zero, Nat.zero_add, valsL] <;> (try dsimp only [Addr]) <;> with_reducible ac_rfl)
  have h := @JT q Y A L tk go lst pl (by omega) (by omega) c1 _ s1 p1 (fsM q.P A L ++ rest) (hRM.le (by omega)) S3
  simp only [JT_a, JT_e, SE.cd, List.nil_append, hpl] at h
  refine h fun i s2 p2 c2 _ _ S4 => ?_
  clear h
  have S5 := (StD.reord (d' := ((smD A ++ (emF A L nm none ++ ([(A.ct, .arr c_list (crefs X))] ++ ((chD x.a x.d x.l ⟨⟨[x.sg]⟩⟩ ++ locD x.l x.ld x.f x.x x.y x.z) ++ [(A.tb, .seq c_list [])])))) ++ ([(lst, .arr c_list ⟨pl.map fun x => .str ⟨⟨[x.1]⟩⟩ x.2⟩)] ++ ([(A.pb, .seq c_list (oneL pb))] ++ ([(A.it, .fields c_listit [cond e .none (.ref A.cl), .raw (.int ((k : Nat) : Int) 0)])] ++ ([(A.cl, .arr c_list (crefs chs))] ++ (tabD (some co) ++ (Rx ++ R)))))))) S4 fun a => by simp only [cnt_append, cnt_two, cnt_nil, Nat.add_zero, Nat.zero_add, Q, hRx] <;> (try dsimp only [Addr]) <;> with_reducible ac_rfl)
  have h := @EM2 q Y A L (crefs X) nm (sgS X) (jtk pl i.T) x.a x.d x.l x.ld ⟨⟨[x.sg]⟩⟩ x.f x.x x.y x.z c2 hit hsz _ s2 p2 rest hR0 S5
  simp only [EM2_a, EM2_e, SE.cd, List.nil_append] at h
  refine h fun i s3 p3 c3 _ _ S6 => ?_
  clear h
  have e0 : crefs [] = #[] := rfl
  exact next s3 p3 c3 (i.N + 1) (i.N + 0) x hx ((StD.mem_drop (d' := (LX A chs e k pb [] ++ (tabD (some co) ++ ([(A.tb, .seq c_list [.ref (i.N + 1)])] ++ (tokD (i.N + 1) (i.N + 0) nm (sgS X) x.l ++ R))))) (e := [(lst, .arr c_list ⟨pl.map fun x => .str ⟨⟨[x.1]⟩⟩ x.2⟩)]) S6 fun a => by simp only [cnt_append, cnt_two, cnt_nil, Nat.add_zero, Nat.zero_add, LX, lxD, lmD, hRx, e0] <;> (try dsimp only [Addr]) <;> with_reducible ac_rfl))
end
end Mine
end
section
set_option linter.unusedVariables false
set_option maxRecDepth 100000
set_option maxHeartbeats 1000000
namespace Mine
open PySem PySem.W PySem.W.X
section
variable {q : Qd} (Y : Sys (K4 q)) (A : LA) (chs : List Ch)
theorem emit (Ls : Nat) (nm : Str) (tn : Tok) (fo : Option Addr) {e : Bool} {k : Nat} {pb : Option Addr} (X : List Ch) (h1 : 1 ≤ X.length) (hX : X.length ≤ 14) (hm : ∀ x ∈ X, x ∈ chs) {R : DM} {rest : List Frame} (hcs : rest.map (·.where_.1) = cStB q.P A Ls :: lowCs q.P A) (hR : RestB 290 rest)
    {s : Shared} {pos : Pos} (S : StD (K4 q) (LX A chs e k pb X ++ (tabD fo ++ ([(A.tb, .seq c_list [])] ++ R))) (GR A) s)
    (next : ∀ s' p' c' co tok td (x : Ch), X[0]? = some x → StD (K4 q) (LX A chs e k pb [] ++ (tabD (some co) ++ ([(A.tb, .seq c_list [.ref tok])] ++ (tokD tok td nm (sgS X) x.l ++ R)))) (GR A) s' → Y.H s' ⟨.pure (.done (.ret .none)), c', p', rest⟩) :
    Y.H s ⟨denF (cEmit A (.str nm tn)), cEmit A (.str nm tn), pos, rest⟩ := by
  have hR0 : RestB 300 rest := hR.le (by omega)
  let Q : DM := [(A.pb, .seq c_list (oneL pb))] ++ ([(A.it, .fields c_listit [cond e .none (.ref A.cl), .raw (.int ((k : Nat) : Int) 0)])] ++ ([(A.cl, .arr c_list (crefs chs))] ++ (chM chs ++ ([(A.tb, .seq c_list [])] ++ R))))
  have S1 := (StD.reord (d' := ((smD A ++ ([(A.ct, .arr c_list (crefs X))] ++ tabD fo)) ++ Q)) S fun a => by simp only [cnt_append, cnt_two, cnt_nil, Nat.add_zero, Nat.zero_add, LX, lxD, lmD, Q] <;> (try dsimp only [Addr]) <;> with_reducible ac_rfl)
  cases fo with
  | none =>
    have h := @EM0a q Y A Ls (crefs X) nm tn _ s pos rest hcs hR0 S1
    simp only [EM0a_a, EM0a_e, SE.cd, List.append_assoc, List.nil_append] at h
    refine h fun i s1 p1 c1 _ _ S2 => ?_
    exact emTail Y A chs i.N (i.T + 2) nm (i.N + 6) i.G (i.N + 1) (i.N + 5) (i.N + 4) (i.N + 7) X h1 hX hm hR (fun s' p' c' tok td x hx S3 => next s' p' c' _ tok td x hx S3)
      ((StD.reord (d' := (goD (i.N + 6) i.G ++ (itF A (i.N + 1) 0 ++ (gxF (i.N + 5) (i.N + 1) none ++ (emF A i.N nm none ++ ([(i.N + 7, .arr c_list #[])] ++ (LX A chs e k pb X ++ (tabD (some (i.N + 4)) ++ ([(A.tb, .seq c_list [])] ++ R))))))))) S2 fun a => by simp only [cnt_append, cnt_two, cnt_nil, Nat.add_zero, Nat.zero_add, LX, lxD, lmD, Q] <;> (try dsimp only [Addr]) <;> with_reducible ac_rfl))
  | some co =>
    have h := @EM0b q Y A Ls (crefs X) nm tn co _ s pos rest hcs hR0 S1
    simp only [EM0b_a, EM0b_e, SE.cd, List.append_assoc, List.nil_append] at h
    refine h fun i s1 p1 c1 _ _ S2 => ?_
    exact emTail Y A chs i.N (i.T + 2) nm (i.N + 3) i.G (i.N + 1) (i.N + 2) co (i.N + 4) X h1 hX hm hR (fun s' p' c' tok td x hx S3 => next s' p' c' _ tok td x hx S3)
      ((StD.reord (d' := (goD (i.N + 3) i.G ++ (itF A (i.N + 1) 0 ++ (gxF (i.N + 2) (i.N + 1) none ++ (emF A i.N nm none ++ ([(i.N + 4, .arr c_list #[])] ++ (LX A chs e k pb X ++ (tabD (some co) ++ ([(A.tb, .seq c_list [])] ++ R))))))))) S2 fun a => by simp only [cnt_append, cnt_two, cnt_nil, Nat.add_zero, Nat.zero_add, LX, lxD, lmD, Q] <;> (try dsimp only [Addr]) <;> with_reducible ac_rfl))
theorem Refu.mono {R R' E : DM} {rest : List Frame} {loc : Option Ch} (h : Refu Y A chs R rest loc) (hd : ∀ a, cnt a R' = cnt a (R ++ E)) : Refu Y A chs R' rest loc := fun s p e dc ar hl N m f1 S =>
  h s p e dc ar hl N m f1 (StD.mem_drop (e := E) S fun a => by simp only [cnt_append, hd]; omega)
end
inductive Res where
  | tok (nm : Str) (X : List Ch)
  | ref (loc : Option Ch)
noncomputable def sLet : Str := ⟨⟨[108, 101, 116, 116, 101, 114]⟩⟩
noncomputable def sGrp : Str := ⟨⟨[103, 114, 111, 117, 112]⟩⟩
noncomputable def opOf (c : Nat) : Option Op := if c = 40 then some .p else if c = 91 then some .b else if c = 123 then some .c else none
noncomputable def goR : List Op → List Ch → List Ch → List Res
  | st, _, [] => match st with
    | [] => []
    | _ :: _ => [.ref none]
  | [], _, x :: r => if x.sg = 32 then goR [] [] r else if x.sg = 97 then .tok sLet [x] :: goR [] [] r else match opOf x.sg with
    | some j => goR [j] [x] r
    | none => [.ref (some x)]
  | j :: st, X, x :: r => if x.sg = 97 ∨ x.sg = 32 then goR (j :: st) (X ++ [x]) r else match opOf x.sg with
    | some j' => goR (j' :: j :: st) (X ++ [x]) r
    | none => if x.sg = j.d then (match st with
      | [] => .tok sGrp (X ++ [x]) :: goR [] [] r
      | _ :: _ => goR st (X ++ [x]) r) else [.ref (some x)]
theorem opOf_o (j : Op) : opOf j.o = some j := by cases j <;> rfl
theorem opOf_none {c : Nat} (h1 : c ≠ 40) (h2 : c ≠ 91) (h3 : c ≠ 123) : opOf c = none := by simp [opOf, h1, h2, h3]
theorem inS_as : ∀ x ∈ alpha, inS sAS x = (x == 97 || x == 32) := by unfold inS sAS; decide +kernel
theorem o_ne (j : Op) : ¬ (j.o = 97 ∨ j.o = 32) := by cases j <;> decide
theorem d_ne (j : Op) : ¬ (j.d = 97 ∨ j.d = 32) := by cases j <;> decide
theorem d_op (j : Op) : opOf j.d = none := by cases j <;> rfl
theorem drop_cons {α : Type} {l : List α} {p : Nat} {x : α} (h : l[p]? = some x) : l.drop p = x :: l.drop (p + 1) := by
  obtain ⟨h1, h2⟩ := List.getElem?_eq_some_iff.mp h
  rw [List.drop_eq_getElem_cons h1, h2]
end Mine
end
section
set_option linter.unusedVariables false
set_option maxRecDepth 100000
set_option maxHeartbeats 1000000
namespace Mine
open PySem PySem.W PySem.W.X
theorem goR_in1 {j : Op} {st : List Op} {X : List Ch} {x : Ch} {r : List Ch} (h : x.sg = 97 ∨ x.sg = 32) : goR (j :: st) X (x :: r) = goR (j :: st) (X ++ [x]) r := by
  conv => lhs; unfold goR
  rw [if_pos h]
theorem goR_in2 {j j' : Op} {st : List Op} {X : List Ch} {x : Ch} {r : List Ch} (h : x.sg = j'.o) : goR (j :: st) X (x :: r) = goR (j' :: j :: st) (X ++ [x]) r := by
  conv => lhs; unfold goR
  rw [h, if_neg (o_ne j'), opOf_o]
theorem goR_in3 {j : Op} {X : List Ch} {x : Ch} {r : List Ch} (h : x.sg = j.d) : goR [j] X (x :: r) = .tok sGrp (X ++ [x]) :: goR [] [] r := by
  conv => lhs; unfold goR
  rw [h, if_neg (d_ne j), d_op, if_pos rfl]
theorem goR_in4 {j j' : Op} {st : List Op} {X : List Ch} {x : Ch} {r : List Ch} (h : x.sg = j.d) : goR (j :: j' :: st) X (x :: r) = goR (j' :: st) (X ++ [x]) r := by
  conv => lhs; unfold goR
  rw [h, if_neg (d_ne j), d_op, if_pos rfl]
theorem goR_in5 {j : Op} {st : List Op} {X : List Ch} {x : Ch} {r : List Ch} (h1 : ¬ (x.sg = 97 ∨ x.sg = 32)) (h2 : opOf x.sg = none) (h3 : x.sg ≠ j.d) : goR (j :: st) X (x :: r) = [.ref (some x)] := by
  unfold goR
  rw [if_neg h1, h2, if_neg h3]
theorem goR_in6 {j : Op} {st : List Op} {X : List Ch} : goR (j :: st) X [] = [.ref none] := rfl
section
variable {q : Qd} (Y : Sys (K4 q)) (A : LA) (chs : List Ch)
theorem inner (hal : ∀ x ∈ chs, x.sg ∈ alpha) (hlen : chs.length ≤ 14) {R : DM} {B : List Frame} (hB : RestB 230 B) (g : List Res)
    (p0 : Nat) (yes : ∀ p' X' tn' s' pos' c', g = .tok sGrp X' :: goR [] [] (chs.drop p') → p0 < p' → p' ≤ chs.length → X'.length ≤ p' → 1 ≤ X'.length → (∀ x ∈ X', x ∈ chs) → StD (K4 q) (LX A chs false p' none X' ++ (rdB q.P A ++ (tnD A tn' ++ R))) (GR A) s' → Y.H s' ⟨.pure (.done (.ret (.bool true))), c', pos', B⟩)
    (no : ∀ loc, g = [.ref loc] → (∀ x, loc = some x → x ∈ chs) → ∀ (st : List (Addr × Op)) (L Le : Nat) f2 f3, st.length ≤ 14 → Refu Y A chs ([(Le, .frq f2)] ++ ([(L, .frq f3)] ++ (lvM st ++ R))) (fsR q.P A Le ++ (fsX q.P A L ++ (frB q.P A st ++ B))) loc) :
    ∀ (n p : Nat), p + n = chs.length → p0 ≤ p → ∀ (L : Nat) (j : Op) (st : List (Addr × Op)) (X : List Ch) (tn : Int) (e : Bool) (k : Nat) (pb : Option Addr), At chs p e k pb → X.length ≤ p → st.length + 1 ≤ p → (∀ x ∈ X, x ∈ chs) →
      g = goR (j :: st.map (·.2)) X (chs.drop p) → ∀ {s : Shared} {pos : Pos} (t : Tok), StD (K4 q) (LX A chs e k pb X ++ (rdB q.P A ++ (tnD A tn ++ (lvM ((L, j) :: st) ++ R)))) (GR A) s → Y.H s ⟨denF (cAcc A (.str sAS t)), cAcc A (.str sAS t), pos, fsW q.P A L ++ (frB q.P A st ++ B)⟩
  | 0, p, hp, hp0, L, j, st, X, tn, e, k, pb, hat, hX, hst, hm, hg, s, pos, t, S => by
    obtain rfl : p = chs.length := by omega
    have hRB : RestB 258 (frB q.P A st ++ B) := (nf_frB q.P A st hB).mono (by omega)
    have hRW : RestB 260 (fsW q.P A L ++ (frB q.P A st ++ B)) := nf_W q.P A L hRB
    have hRO : RestB 260 (fsO q.P A L ++ (frB q.P A st ++ B)) := nf_O q.P A L hRB
    have hg' : g = [.ref none] := by rw [hg, List.drop_length, goR_in6]
    have S1 := (StD.reord (d' := (lxD A e k pb (crefs X) (crefs chs) ++ (chM chs ++ (rdB q.P A ++ (tnD A tn ++ (lvM ((L, j) :: st) ++ R)))))) S fun a => by simp only [cnt_append, cnt_two, cnt_nil, Nat.add_zero, Nat.zero_add, LX] <;> (try dsimp only [Addr]) <;> with_reducible ac_rfl)
    refine accEnd Y A chs sAS t hat X (hRW.le (by omega)) S1 fun s2 p2 c2 S2 => ?_
    have S3 := (StD.reord (d' := (([(A.fbr, .raw (brO q.P A)), (A.cbr, .cell (some (.ref A.fbr)))] : DM) ++ (lxD A true chs.length none (crefs X) (crefs chs) ++ (chM chs ++ (([(A.bcode, bcD A), (A.ch, .cell (some (.ref A.sf)))] : DM) ++ (tnD A tn ++ (lvM ((L, j) :: st) ++ R))))))) S2 fun a => by simp only [cnt_append, cnt_two, cnt_nil, Nat.add_zero, Nat.zero_add, rdB] <;> (try dsimp only [Addr]) <;> with_reducible ac_rfl)
    have h := @WHf q Y A L c2 _ s2 p2 (frB q.P A st ++ B) (hRB.le (by omega)) S3
    simp only [WHf_a, WHf_e, SE.cd] at h
    refine h fun i s4 p4 c4 _ _ S4 => ?_
    clear h
    have hat2 : At chs chs.length true chs.length none := .inr (.inr ⟨rfl, rfl, rfl, rfl⟩)
    refine brEnd Y A chs hat2 X (hRO.mono (by omega)) ((StD.reord (d' := (LX A chs true chs.length none X ++ (rdB q.P A ++ (tnD A tn ++ (lvM ((L, j) :: st) ++ R))))) S4 fun a => by simp only [cnt_append, cnt_two, cnt_nil, Nat.add_zero, Nat.zero_add, LX, rdB] <;> (try dsimp only [Addr]) <;> with_reducible ac_rfl)) fun s5 p5 c5 S5 => ?_
    have hno : chs[chs.length]? = none := List.getElem?_eq_none (Nat.le_refl _)
    refine wbf Y A chs j L tn (p := chs.length) (fun x hx => by rw [hno] at hx; cases hx) (.inr ⟨rfl, rfl, rfl, rfl⟩) X (by omega) (hRB.mono (by omega)) ((StD.reord (d' := (LX A chs true chs.length none X ++ (rdB q.P A ++ (tnD A tn ++ (lvF L j.o ++ (lvM st ++ R)))))) S5 fun a => by simp only [cnt_append, cnt_two, cnt_nil, Nat.add_zero, Nat.zero_add, lvM] <;> (try dsimp only [Addr]) <;> with_reducible ac_rfl)) (fun x hx => by rw [hno] at hx; cases hx) fun _ Le f2 => ?_
    rw [hno]
    exact Refu.mono Y A chs (no none hg' (fun x hx => by cases hx) st L Le f2 [([115, 105, 103, 110], .str ⟨⟨[j.o]⟩⟩), ([112, 97, 114, 116, 110, 101, 114], .str ⟨⟨[j.d]⟩⟩)] (by omega)) (E := rdB q.P A ++ tnD A (tn + 1)) fun a => by
      simp only [cnt_append, lvP]; dsimp only [Addr]; ac_rfl
  | n + 1, p, hp, hp0, L, j, st, X, tn, e, k, pb, hat, hX, hst, hm, hg, s, pos, t, S => by
    obtain ⟨x, hx⟩ : ∃ x, chs[p]? = some x := ⟨_, List.getElem?_eq_getElem (by omega)⟩
    have hmx : x ∈ chs := List.mem_of_getElem? hx
    have hax := hal x hmx
    have hRB : RestB 258 (frB q.P A st ++ B) := (nf_frB q.P A st hB).mono (by omega)
    have hRW : RestB 260 (fsW q.P A L ++ (frB q.P A st ++ B)) := nf_W q.P A L hRB
    have hRO : RestB 260 (fsO q.P A L ++ (frB q.P A st ++ B)) := nf_O q.P A L hRB
    rw [drop_cons hx] at hg
    have hm2 : ∀ y ∈ X ++ [x], y ∈ chs := fun y hy => by
      rcases List.mem_append.mp hy with h | h
      · exact hm y h
      · cases List.mem_singleton.mp h; exact hmx
    have hX2 : (X ++ [x]).length ≤ p + 1 := by rw [List.length_append]; simp only [List.length_singleton]; omega
    have S1 := (StD.reord (d' := (lxD A e k pb (crefs X) (crefs chs) ++ (chM chs ++ (rdB q.P A ++ (tnD A tn ++ (lvM ((L, j) :: st) ++ R)))))) S fun a => by simp only [cnt_append, cnt_two, cnt_nil, Nat.add_zero, Nat.zero_add, LX] <;> (try dsimp only [Addr]) <;> with_reducible ac_rfl)
    refine accStr Y A chs sAS t hx hat X (by omega) (hRW.le (by omega)) S1 (fun hb s2 p2 c2 S2 => ?_) fun hb s2 p2 c2 S2 => ?_
    · have hs : x.sg = 97 ∨ x.sg = 32 := by
        rw [inS_as x.sg hax, Bool.or_eq_true, beq_iff_eq, beq_iff_eq] at hb
        exact hb
      have S3 := (StD.reord (d' := ((smD A ++ ([(A.ch, .cell (some (.ref A.sf)))] : DM)) ++ (lmD A false (p + 1) none (crefs (X ++ [x])) (crefs chs) ++ (chM chs ++ (([(A.fbr, .raw (brO q.P A)), (A.bcode, bcD A), (A.cbr, .cell (some (.ref A.fbr)))] : DM) ++ (tnD A tn ++ (lvM ((L, j) :: st) ++ R))))))) S2 fun a => by simp only [cnt_append, cnt_two, cnt_nil, Nat.add_zero, Nat.zero_add, rdB, lxD] <;> (try dsimp only [Addr]) <;> with_reducible ac_rfl)
      have h := @WHt q Y A L c2 _ s2 p2 (frB q.P A st ++ B) (hRB.le (by omega)) S3
      simp only [WHt_a, WHt_e, SE.cd] at h
      refine h fun i s4 p4 c4 _ _ S4 => ?_
      clear h
      exact inner hal hlen hB g p0 yes no n (p + 1) (by omega) (by omega) L j st (X ++ [x]) tn false (p + 1) none (.inl ⟨rfl, rfl, rfl⟩) hX2 (by omega) hm2 (by rw [hg, goR_in1 hs]) _
        ((StD.reord (d' := (LX A chs false (p + 1) none (X ++ [x]) ++ (rdB q.P A ++ (tnD A tn ++ (lvM ((L, j) :: st) ++ R))))) S4 fun a => by simp only [cnt_append, cnt_two, cnt_nil, Nat.add_zero, Nat.zero_add, LX, lxD, rdB] <;> (try dsimp only [Addr]) <;> with_reducible ac_rfl))
    · have hs : ¬ (x.sg = 97 ∨ x.sg = 32) := by
        rw [inS_as x.sg hax] at hb
        intro h
        rw [Bool.or_eq_false_iff] at hb
        rcases h with h | h
        · rw [h] at hb; cases hb.1
        · rw [h] at hb; cases hb.2
      have S3 := (StD.reord (d' := (([(A.fbr, .raw (brO q.P A)), (A.cbr, .cell (some (.ref A.fbr)))] : DM) ++ (lxD A false (p + 1) (some x.a) (crefs X) (crefs chs) ++ (chM chs ++ (([(A.bcode, bcD A), (A.ch, .cell (some (.ref A.sf)))] : DM) ++ (tnD A tn ++ (lvM ((L, j) :: st) ++ R))))))) S2 fun a => by simp only [cnt_append, cnt_two, cnt_nil, Nat.add_zero, Nat.zero_add, rdB] <;> (try dsimp only [Addr]) <;> with_reducible ac_rfl)
      have h := @WHf q Y A L c2 _ s2 p2 (frB q.P A st ++ B) (hRB.le (by omega)) S3
      simp only [WHf_a, WHf_e, SE.cd] at h
      refine h fun i s4 p4 c4 _ _ S4 => ?_
      clear h
      have hat2 : At chs p false (p + 1) (some x.a) := .inr (.inl ⟨x, hx, rfl, rfl, rfl⟩)
      refine brTry Y A chs hx hax hat2 X (by omega) (hRO.mono (by omega)) ((StD.reord (d' := (LX A chs false (p + 1) (some x.a) X ++ (rdB q.P A ++ (tnD A tn ++ (lvM ((L, j) :: st) ++ R))))) S4 fun a => by simp only [cnt_append, cnt_two, cnt_nil, Nat.add_zero, Nat.zero_add, LX, rdB] <;> (try dsimp only [Addr]) <;> with_reducible ac_rfl)) (fun j' L' hj s5 p5 t5 S5 => ?_) fun n1 n2 n3 s5 p5 c5 S5 => ?_
      · have e1 : fsW q.P A L' ++ (fsO q.P A L ++ (frB q.P A st ++ B)) = fsW q.P A L' ++ (frB q.P A ((L, j) :: st) ++ B) := by
          show _ = fsW q.P A L' ++ ((fsO q.P A L ++ frB q.P A st) ++ B)
          rw [List.append_assoc]
        rw [e1]
        exact inner hal hlen hB g p0 yes no n (p + 1) (by omega) (by omega) L' j' ((L, j) :: st) (X ++ [x]) tn false (p + 1) none (.inl ⟨rfl, rfl, rfl⟩) hX2 (by simp only [List.length_cons]; omega) hm2 (by rw [hg, goR_in2 hj]; rfl) _
          ((StD.reord (d' := (LX A chs false (p + 1) none (X ++ [x]) ++ (rdB q.P A ++ (tnD A tn ++ (lvM ((L', j') :: (L, j) :: st) ++ R))))) S5 fun a => by simp only [cnt_append, cnt_two, cnt_nil, Nat.add_zero, Nat.zero_add, lvM] <;> (try dsimp only [Addr]) <;> with_reducible ac_rfl))
      · refine wbf Y A chs j L tn (p := p) (fun y hy => by rw [hx] at hy; cases hy; exact hax) (.inl ⟨x, hx, rfl, rfl, rfl⟩) X (by omega) (hRB.mono (by omega)) ((StD.reord (d' := (LX A chs false (p + 1) (some x.a) X ++ (rdB q.P A ++ (tnD A tn ++ (lvF L j.o ++ (lvM st ++ R)))))) S5 fun a => by simp only [cnt_append, cnt_two, cnt_nil, Nat.add_zero, Nat.zero_add, lvM] <;> (try dsimp only [Addr]) <;> with_reducible ac_rfl)) (fun y hy hd s6 p6 c6 S6 => ?_) fun hd Le f2 => ?_
        · rw [hx] at hy
          cases hy
          cases st with
          | nil => exact yes (p + 1) (X ++ [x]) (tn + 1) s6 p6 c6 (by rw [hg]; exact goR_in3 hd) (by omega) (by omega) hX2 (by rw [List.length_append]; simp) hm2 ((StD.mem_drop (d' := (LX A chs false (p + 1) none (X ++ [x]) ++ (rdB q.P A ++ (tnD A (tn + 1) ++ R)))) (e := (lvP L j)) S6 fun a => by simp only [cnt_append, cnt_two, cnt_nil, Nat.add_zero, Nat.zero_add, lvM] <;> (try dsimp only [Addr]) <;> with_reducible ac_rfl))
          | cons y st =>
            obtain ⟨L2, j2⟩ := y
            have e1 : frB q.P A ((L2, j2) :: st) ++ B = fsO q.P A L2 ++ (frB q.P A st ++ B) := List.append_assoc ..
            rw [e1]
            have hRB2 : RestB 258 (frB q.P A st ++ B) := (nf_frB q.P A st hB).mono (by simp only [List.length_cons] at hst; omega)
            have S7 := (StD.reord (d' := ((smD A ++ ([(A.ch, .cell (some (.ref A.sf)))] : DM)) ++ (lmD A false (p + 1) none (crefs (X ++ [x])) (crefs chs) ++ (chM chs ++ (([(A.fbr, .raw (brO q.P A)), (A.bcode, bcD A), (A.cbr, .cell (some (.ref A.fbr)))] : DM) ++ (tnD A (tn + 1) ++ (lvP L j ++ (lvM ((L2, j2) :: st) ++ R)))))))) S6 fun a => by simp only [cnt_append, cnt_two, cnt_nil, Nat.add_zero, Nat.zero_add, rdB, lxD, LX] <;> (try dsimp only [Addr]) <;> with_reducible ac_rfl)
            have h := @WBt q Y A L2 c6 _ s6 p6 (frB q.P A st ++ B) (hRB2.le (by omega)) S7
            simp only [WBt_a, WBt_e, SE.cd] at h
            refine h fun i s8 p8 c8 _ _ S8 => ?_
            clear h
            exact inner hal hlen hB g p0 yes no n (p + 1) (by omega) (by omega) L2 j2 st (X ++ [x]) (tn + 1) false (p + 1) none (.inl ⟨rfl, rfl, rfl⟩) hX2 (by simp only [List.length_cons] at hst; omega) hm2 (by rw [hg]; exact goR_in4 hd) _
              ((StD.mem_drop (d' := (LX A chs false (p + 1) none (X ++ [x]) ++ (rdB q.P A ++ (tnD A (tn + 1) ++ (lvM ((L2, j2) :: st) ++ R))))) (e := (lvP L j)) S8 fun a => by simp only [cnt_append, cnt_two, cnt_nil, Nat.add_zero, Nat.zero_add, LX, lxD, rdB] <;> (try dsimp only [Addr]) <;> with_reducible ac_rfl))
        · rw [hx]
          have hd2 : x.sg ≠ j.d := hd x hx
          exact Refu.mono Y A chs (no (some x) (by rw [hg]; exact goR_in5 hs (opOf_none n1 n2 n3) hd2) (fun y hy => by cases hy; exact hmx) st L Le f2 [([115, 105, 103, 110], .str ⟨⟨[j.o]⟩⟩), ([112, 97, 114, 116, 110, 101, 114], .str ⟨⟨[j.d]⟩⟩)] (by omega)) (E := rdB q.P A ++ tnD A (tn + 1)) fun a => by
            simp only [cnt_append, lvP]; dsimp only [Addr]; ac_rfl
end
end Mine
end
section
set_option linter.unusedVariables false
set_option maxRecDepth 100000
set_option maxHeartbeats 1000000
namespace Mine
open PySem PySem.W PySem.W.X
noncomputable def sNv : Str := ⟨⟨[43, 45, 59]⟩⟩
noncomputable def nvV : Array Value := ⟨[.str ⟨⟨[43]⟩⟩ 508, .str ⟨⟨[45]⟩⟩ 509]⟩
noncomputable def nvD : DM := [(242, .raw (listO nvV 0))]
noncomputable def AccNv_a (q : Qd) (A : LA) (k : Nat) (xs cs : Array Value) (e : Bool) (c cd lc : Addr) (sg : Str) : SG := ⟨350, denF (cAcc A (.ref 242)), cAcc A (.ref 242), [], lxD A e k (some c) xs cs ++ chD c cd lc sg ++ nvD, (GR A), hz 207 0x5555055554f33fff3fff3083d82d66664f33fff3fff30fff9fff90e0000fff132ffff2fff2fff2181daa19f88fff8fff81fff8fff81110080d055553f22fff2fff20fff8fff80004444444443f22fff2fff20444443f22fff2fff20e0000ffff21ffff1fff1fff10e0000ff, [3, 4, 5, 6, 7, 8, 9, 10, 11]⟩
noncomputable def AccNv_s (q : Qd) (A : LA) (k : Nat) (xs cs : Array Value) (e : Bool) (c cd lc : Addr) (sg : Str) (i : In) : List Spec := [spPush A.ct 5 xs (i.ν 3).n (.ref c),
  spHas 242 10 nvV 0 (.str (sg) (i.τ 7 1)) false,
  spV (callB "int.__neg__" [.int (1) (i.T + 16)]) (.int (-(1))) 1,
  spPop A.ct 6 xs ((i.ν 3).n + 1) (.ref c) (i.T + 17)]
noncomputable def AccNv_e (q : Qd) (A : LA) (k : Nat) (xs cs : Array Value) (e : Bool) (c cd lc : Addr) (sg : Str) (i : In) : SE := ⟨.pure (.done (.ret (.bool false))), none, [], lxD A e k (some c) xs cs ++ chD c cd lc sg ++ nvD, (GR A)⟩
theorem AccNv_r (q : Qd) (A : LA) (k : Nat) (xs cs : Array Value) (e : Bool) (c cd lc : Addr) (sg : Str)  : RunsA (K4 q) (AccNv_a q A k xs cs e c cd lc sg) (AccNv_s q A k xs cs e c cd lc sg) (fun _ => []) (AccNv_e q A k xs cs e c cd lc sg) := by
  intro W i; cases e <;> kernel_rfl
theorem AccNv {q : Qd} (Y : Sys (K4 q)) (A : LA) (k : Nat) (xs cs : Array Value) (e : Bool) (c cd lc : Addr) (sg : Str) (h0 : xs.size ≤ sizeLine) (h1 : HasS nvV (sg) false) (h2 : xs.size < sizeLine) : SegT Y (AccNv_a q A k xs cs e c cd lc sg) (AccNv_e q A k xs cs e c cd lc sg) :=
  Y.seg (AccNv_r q A k xs cs e c cd lc sg ) (show List.Nodup [3, 4, 5, 6, 7, 8, 9, 10, 11] by decide) (fun i hN => .cons (ok1 rfl rfl rfl (sok_push _ _ _ _ _ h0)) (.cons (ok_has _ _ _ _ _ _ _ h1) (.cons (okv (sok_neg _ _)) (.cons (ok_pop _ _ _ _ _ _ h2) (AllOk.nil)))))
noncomputable def EXr1_a (q : Qd) (A : LA) (L : Nat) (c₀ : Code) : SG := ⟨48, .pure (.done (.ret (.bool false))), c₀, fsE q.P A L, smD A ++ (exF A L (.ref 242) ++ nvD), (GR A), hz 20 0xf33210ffff0fff0fff02, [0, 1, 2, 3]⟩
noncomputable def EXr1_e (q : Qd) (A : LA) (L : Nat) (c₀ : Code) (i : In) : SE := ⟨denF (cErr A (.str ⟨⟨[69, 120, 112, 101, 99, 116, 101, 100, 32, 43, 44, 32, 45]⟩⟩ (i.T + 3))), some (cErr A (.str ⟨⟨[69, 120, 112, 101, 99, 116, 101, 100, 32, 43, 44, 32, 45]⟩⟩ (i.T + 3))), fsR q.P A L, smD A ++ (exF A L (.ref 242) ++ nvD), (GR A)⟩
theorem EXr1_r (q : Qd) (A : LA) (L : Nat) (c₀ : Code) : RunsA (K4 q) (EXr1_a q A L c₀) (fun _ => []) (fun _ => []) (EXr1_e q A L c₀) := by
  intro W i; obtain ⟨w, s₀, b1, b2⟩ := q; cases b1 <;> kernel_rfl
theorem EXr1 {q : Qd} (Y : Sys (K4 q)) (A : LA) (L : Nat) (c₀ : Code) : SegT Y (EXr1_a q A L c₀) (EXr1_e q A L c₀) :=
  Y.seg (EXr1_r q A L c₀) (show List.Nodup [0, 1, 2, 3] by decide) (fun i hN => AllOk.nil)
theorem inS_nv : ∀ x ∈ alpha, inS sNv x = false := by unfold inS sNv; decide +kernel
theorem has_nv (x : Nat) (hx : x ∈ alpha) : HasS nvV ⟨⟨[x]⟩⟩ false := by
  refine ⟨fun y hy => ?_, ?_⟩
  · simp [nvV] at hy
    rcases hy with hy | hy <;> exact ⟨_, _, hy⟩
  · have h : (x == 43) = false ∧ (x == 45) = false := by
      revert x
      decide
    simp [nvV, isS_one, h.1, h.2]
theorem fmod2 (z : Int) : z.fmod 2 = 0 ∨ z.fmod 2 = 1 := by
  rw [Int.fmod_eq_emod_of_nonneg z (by decide : (0 : Int) ≤ 2)]
  omega
section
variable {q : Qd} (Y : Sys (K4 q)) (A : LA) (chs : List Ch)
theorem never (Ls : Nat) (tn : Int) {p : Nat} {x : Ch} (hx : chs[p]? = some x) (hax : x.sg ∈ alpha) {R : DM} {rest : List Frame} (hR : RestB 230 rest) {s : Shared} {c : Code} {pos : Pos}
    (S : StD (K4 q) (LX A chs false (p + 1) (some x.a) [] ++ (rdB q.P A ++ (tnD A tn ++ (nvD ++ R)))) (GR A) s)
    (no : ∀ Le f2, Refu Y A chs ([(Le, .frq f2)] ++ (nvD ++ R)) (fsR q.P A Le ++ (fsS6 q.P A Ls ++ rest)) (some x)) :
    Y.H s ⟨.pure (.done (.ret (.bool false))), c, pos, fsS4 q.P A Ls ++ rest⟩ := by
  have hR0 : RestB 300 rest := hR.le (by omega)
  have hR6 : RestB 232 (fsS6 q.P A Ls ++ rest) := nf_S6 q.P A Ls hR
  have hat : AtS chs p false (p + 1) (some x.a) := .inl ⟨x, hx, rfl, rfl, rfl⟩
  have S1 := (StD.reord (d' := ((smD A ++ (([(A.ch, .cell (some (.ref A.sf)))] : DM) ++ tnD A tn)) ++ (lmD A false (p + 1) (some x.a) (crefs []) (crefs chs) ++ (chM chs ++ (([(A.fbr, .raw (brO q.P A)), (A.bcode, bcD A), (A.cbr, .cell (some (.ref A.fbr)))] : DM) ++ (nvD ++ R)))))) S fun a => by simp only [cnt_append, cnt_two, cnt_nil, Nat.add_zero, Nat.zero_add, LX, lxD, rdB] <;> (try dsimp only [Addr]) <;> with_reducible ac_rfl)
  rcases fmod2 tn with hk | hk
  · have h := @ST3f0 q Y A Ls tn c hk _ s pos rest hR0 S1
    simp only [ST3f0_a, ST3f0_e, SE.cd] at h
    refine h fun i s1 p1 c1 _ _ S2 => ?_
    clear h
    refine exStr Y A chs sNv _ (fun _ => false) (fun y hy => by rw [hx] at hy; cases hy; exact inS_nv _ hax) hat [] (by simp) (hR6.mono (by omega)) (fun {Le Lm s pos c} hS next => ?_) ((StD.reord (d' := (LX A chs false (p + 1) (some x.a) [] ++ (rdB q.P A ++ (tnD A tn ++ (nvD ++ R))))) S2 fun a => by simp only [cnt_append, cnt_two, cnt_nil, Nat.add_zero, Nat.zero_add, LX, lxD, rdB] <;> (try dsimp only [Addr]) <;> with_reducible ac_rfl)) (fun y hy hg => by cases hg) fun _ Le f2 => ?_
    · have h := @EXn0 q Y A Le _ c Lm s pos (fsS6 q.P A Ls ++ rest) (hR6.le (by omega)) hS
      simp only [EXn0_a, EXn0_e, SE.cd] at h
      exact h fun i s' p' c' _ _ S' => next s' p' _ _ S'
    · rw [hx]
      exact Refu.mono Y A chs (no Le f2) (E := rdB q.P A ++ tnD A tn) fun a => by
        simp only [cnt_append]; ac_rfl
  · have h := @ST3f1 q Y A Ls tn c hk _ s pos rest hR0 S1
    simp only [ST3f1_a, ST3f1_e, SE.cd] at h
    refine h fun i s1 p1 c1 _ _ S2 => ?_
    clear h
    have S3 := (StD.reord (d' := ((smD A ++ (lmD A false (p + 1) (some x.a) (crefs []) (crefs chs) ++ chM chs)) ++ (rdB q.P A ++ (tnD A tn ++ (nvD ++ R))))) S2 fun a => by simp only [cnt_append, cnt_two, cnt_nil, Nat.add_zero, Nat.zero_add, lxD, rdB] <;> (try dsimp only [Addr]) <;> with_reducible ac_rfl)
    refine exIn Y A (.l 242) (M := lmD A false (p + 1) (some x.a) (crefs []) (crefs chs) ++ chM chs) (hR6.le (by omega)) S3 fun Le s3 p3 S4 => ?_
    have hE : RestB 234 (fsE q.P A Le ++ (fsS6 q.P A Ls ++ rest)) := nf_E q.P A Le hR6
    have hG : RestB 234 (fsR q.P A Le ++ (fsS6 q.P A Ls ++ rest)) := nf_R q.P A Le hR6
    obtain ⟨Rx, hRx⟩ := ch_split (List.mem_of_getElem? hx)
    have S5 := (StD.reord (d' := ((lxD A false (p + 1) (some x.a) (crefs []) (crefs chs) ++ chD x.a x.d x.l ⟨⟨[x.sg]⟩⟩ ++ nvD) ++ (locD x.l x.ld x.f x.x x.y x.z ++ (Rx ++ (exF A Le (.ref 242) ++ (rdB q.P A ++ (tnD A tn ++ R))))))) S4 fun a => by simp only [cnt_append, cnt_two, cnt_nil, Nat.add_zero, Nat.zero_add, SV.val, hRx, lxD] <;> (try dsimp only [Addr]) <;> with_reducible ac_rfl)
    have h := @AccNv q Y A (p + 1) (crefs []) (crefs chs) false x.a x.d x.l ⟨⟨[x.sg]⟩⟩ (Nat.zero_le _) (has_nv _ hax) (by decide) _ s3 p3 (fsE q.P A Le ++ (fsS6 q.P A Ls ++ rest)) (hE.le (by omega)) S5
    simp only [AccNv_a, AccNv_e, SE.cd, List.nil_append] at h
    refine h fun i4 s4 p4 c4 _ _ S6 => ?_
    clear h
    have S7 := (StD.reord (d' := ((smD A ++ (exF A Le (.ref 242) ++ nvD)) ++ (lmD A false (p + 1) (some x.a) (crefs []) (crefs chs) ++ (chM chs ++ (rdB q.P A ++ (tnD A tn ++ R)))))) S6 fun a => by simp only [cnt_append, cnt_two, cnt_nil, Nat.add_zero, Nat.zero_add, hRx, lxD] <;> (try dsimp only [Addr]) <;> with_reducible ac_rfl)
    have h := @EXr1 q Y A Le c4 _ s4 p4 (fsS6 q.P A Ls ++ rest) (hR6.le (by omega)) S7
    simp only [EXr1_a, EXr1_e, SE.cd, List.nil_append] at h
    refine h fun i5 s5 p5 c5 _ _ S8 => ?_
    clear h
    have S9 := (StD.reord (d' := (LX A chs false (p + 1) (some x.a) [] ++ (exF A Le (.ref 242) ++ (nvD ++ (rdB q.P A ++ (tnD A tn ++ R)))))) S8 fun a => by simp only [cnt_append, cnt_two, cnt_nil, Nat.add_zero, Nat.zero_add, LX, lxD] <;> (try dsimp only [Addr]) <;> with_reducible ac_rfl)
    refine errGo Y A chs hat [] (by simp) (hG.le (by omega)) _ _ S9 ?_
    rw [hx]
    exact Refu.mono Y A chs (no Le [([115, 101, 108, 102], .ref A.sf), ([118, 97, 108, 105, 100], .raw (.ref 242))]) (E := rdB q.P A ++ tnD A tn) fun a => by
      simp only [cnt_append, exF]; dsimp only [Addr]; ac_rfl
end
noncomputable def resD : Addr × Addr × Res → DM
  | (u, l, .tok nm X) => tupK u nm (sgS X) l ++ (match X with | [] => [] | x :: _ => tupL l x.f x.x x.y x.z)
  | (u, l, .ref loc) => refD u l loc
noncomputable def resM (D : List (Addr × Addr × Res)) : DM := D.flatMap resD
noncomputable def refsR (D : List (Addr × Addr × Res)) : Array Value := ⟨D.map fun x => .ref x.1⟩
theorem refsR_push (D : List (Addr × Addr × Res)) (x : Addr × Addr × Res) : (refsR D).push (.ref x.1) = refsR (D ++ [x]) := by simp [refsR]
theorem refsR_size (D : List (Addr × Addr × Res)) : (refsR D).size = D.length := by simp [refsR]
theorem resM_push (D : List (Addr × Addr × Res)) (x : Addr × Addr × Res) (a) : cnt a (resM (D ++ [x])) = cnt a (resM D) + cnt a (resD x) := by
  unfold resM
  rw [cnt_flatMap, List.flatMap_cons, List.flatMap_nil, List.append_nil]
theorem resD_tok (u l : Addr) (nm : Str) {X : List Ch} {x : Ch} (h : X[0]? = some x) : resD (u, l, .tok nm X) = tupK u nm (sgS X) l ++ tupL l x.f x.x x.y x.z := by
  cases X with
  | nil => cases h
  | cons y r => cases h; rfl
noncomputable def hdM (P : Params) (A : LA) (chs : List Ch) (p : Nat) (tu tn : Int) (to : Option Addr) (D : List (Addr × Addr × Res)) (fo : Option Addr) : DM := LX A chs false p none [] ++ (rdM P A tu tn to (refsR D) ++ (tabD fo ++ (nvD ++ resM D)))
theorem fsG_cs (P : Params) (A : LA) : (fsG P A).map (·.where_.1) = [cOuter P A, cTokB P A, cGnext A, cReadFor P A, cReadB P A] := by kernel_rfl
theorem fsS3_cs (P : Params) (A : LA) (L : Nat) : (fsS3 P A L).map (·.where_.1) = [cStB P A L] := by kernel_rfl
theorem fsS5_cs (P : Params) (A : LA) (L : Nat) : (fsS5 P A L).map (·.where_.1) = [cStB P A L] := by kernel_rfl
theorem low_cs {P : Params} {A : LA} {rest : List Frame} (h : rest.map (·.where_.1) = [cLawB P A, cCaller]) : (fsG P A ++ rest).map (·.where_.1) = lowCs P A := by
  rw [List.map_append, fsG_cs, h]; rfl
end Mine
end
section
set_option linter.unusedVariables false
set_option maxRecDepth 100000
set_option maxHeartbeats 1000000
namespace Mine
open PySem PySem.W PySem.W.X
theorem inS_sp : ∀ x ∈ alpha, inS ⟨⟨[32]⟩⟩ x = (x == 32) := by unfold inS; decide +kernel
theorem inS_a : ∀ x ∈ alpha, inS ⟨⟨[97]⟩⟩ x = (x == 97) := by unfold inS; decide +kernel
theorem goR_t1 {x : Ch} {r : List Ch} (h : x.sg = 32) : goR [] [] (x :: r) = goR [] [] r := by
  conv => lhs; unfold goR
  rw [if_pos h]
theorem goR_t2 {x : Ch} {r : List Ch} (h : x.sg = 97) : goR [] [] (x :: r) = .tok sLet [x] :: goR [] [] r := by
  conv => lhs; unfold goR
  rw [if_neg (by rw [h]; decide), if_pos h]
theorem goR_t3 {x : Ch} {r : List Ch} {j : Op} (h : x.sg = j.o) : goR [] [] (x :: r) = goR [j] [x] r := by
  conv => lhs; unfold goR
  rw [h, if_neg (by cases j <;> decide), if_neg (by cases j <;> decide), opOf_o]
theorem goR_t4 {x : Ch} {r : List Ch} (h1 : x.sg ≠ 32) (h2 : x.sg ≠ 97) (h3 : opOf x.sg = none) : goR [] [] (x :: r) = [.ref (some x)] := by
  conv => lhs; unfold goR
  rw [if_neg h1, if_neg h2, h3]
section
variable {q : Qd} (Y : Sys (K4 q)) (A : LA) (chs : List Ch)
noncomputable def kpD (P : Params) (A : LA) (fo : Option Addr) (D : List (Addr × Addr × Res)) : DM := fsD P A ++ (([(A.cst, .cell (some (.ref A.fst)))] : DM) ++ (tabD fo ++ (nvD ++ resM D)))
theorem tkNext (tu tn : Int) (to : Option Addr) (D : List (Addr × Addr × Res)) (fo : Option Addr) {p' : Nat} (nm : Str) (X : List Ch) (x : Ch) (hx : X[0]? = some x) (hm : x ∈ chs) (hD : D.length ≤ 50) (tok td : Addr) {R : DM} {rest : List Frame} (hR : RestB 190 rest) {s : Shared} {c : Code} {pos : Pos}
    (S : StD (K4 q) (LX A chs false p' none [] ++ (([(A.tb, .seq c_list [.ref tok])] : DM) ++ (tokD tok td nm (sgS X) x.l ++ (rdB q.P A ++ (tnD A tn ++ (lowD A tu to (refsR D) ++ (kpD q.P A fo D ++ R))))))) (GR A) s)
    (next : ∀ s' p'' to' u l, StD (K4 q) (hdM q.P A chs p' tu tn to' (D ++ [(u, l, .tok nm X)]) fo ++ R) (GR A) s' → Y.H s' ⟨denF (cSt A), cSt A, p'', fsG q.P A ++ rest⟩) :
    Y.H s ⟨.pure (.done (.ret (.ref A.fst))), c, pos, fsG q.P A ++ rest⟩ := by
  have hR0 : RestB 300 rest := hR.le (by omega)
  obtain ⟨Rx, hRx⟩ := ch_split hm
  have hsz : (refsR D).size ≤ sizeLine := by rw [refsR_size]; exact le_line (by omega)
  let Q : DM := lmD A false p' none (crefs []) (crefs chs) ++ (chD x.a x.d x.l ⟨⟨[x.sg]⟩⟩ ++ (Rx ++ (rdB q.P A ++ (([(A.scode, scD A)] : DM) ++ (tnD A tn ++ (tabD fo ++ (nvD ++ (resM D ++ R))))))))
  have S1 := (StD.reord (d' := (((smD A ++ (([(A.cst, .cell (some (.ref A.fst)))] : DM) ++ (ltF A ++ (([(A.tb, .seq c_list [.ref tok])] : DM) ++ [(A.fst, .raw (startO q.P A))])))) ++ (lrF A tu to ++ (goT A ++ (([(A.seen, .arr c_list (refsR D))] : DM) ++ (tokD tok td nm (sgS X) x.l ++ locD x.l x.ld x.f x.x x.y x.z))))) ++ Q)) S fun a => by simp only [cnt_append, cnt_two, cnt_nil, Nat.add_zero, Nat.zero_add, LX, lxD, hRx, lowD, kpD, fsD, Q] <;> (try dsimp only [Addr]) <;> with_reducible ac_rfl)
  have h := @TKy q Y A tu to (refsR D) tok td nm (sgS X) x.l x.ld x.f x.x x.y x.z c hsz _ s pos rest hR0 S1
  simp only [TKy_a, TKy_e, SE.cd] at h
  refine h fun i s1 p1 c1 _ _ S2 => ?_
  clear h
  have e1 : (refsR D).push (.ref (i.N + 1)) = refsR (D ++ [(i.N + 1, i.N, .tok nm X)]) := refsR_push D (i.N + 1, i.N, .tok nm X)
  have e2 := resM_push D (i.N + 1, i.N, .tok nm X)
  have e3 := resD_tok (i.N + 1) (i.N) nm hx
  have S5 := (StD.reord (d' := (hdM q.P A chs p' tu tn (some tok) (D ++ [(i.N + 1, i.N, Res.tok nm X)]) fo ++ R)) S2 fun a => by simp only [cnt_append, cnt_two, cnt_nil, Nat.add_zero, Nat.zero_add, hdM, rdM, LX, lxD, hRx, fsD, Q, e1, e2, e3] <;> (try dsimp only [Addr]) <;> with_reducible ac_rfl)
  exact next s1 p1 (some tok) (i.N + 1) i.N S5
end
end Mine
end
section
set_option linter.unusedVariables false
set_option maxRecDepth 100000
set_option maxHeartbeats 1000000
namespace Mine
open PySem PySem.W PySem.W.X
section
variable {q : Qd} (Y : Sys (K4 q)) (A : LA) (chs : List Ch)
theorem letter (Ls : Nat) (tu tn : Int) (to : Option Addr) (D : List (Addr × Addr × Res)) (fo : Option Addr) {p' : Nat} (x : Ch) (hm : x ∈ chs) (hD : D.length ≤ 50) {R : DM} {rest : List Frame} (hcs : rest.map (·.where_.1) = [cLawB q.P A, cCaller]) (hR : RestB 190 rest) {s : Shared} {c : Code} {pos : Pos}
    (S : StD (K4 q) (LX A chs false p' none [x] ++ (([(A.tb, .seq c_list [])] : DM) ++ (rdB q.P A ++ (tnD A tn ++ (lowD A tu to (refsR D) ++ (kpD q.P A fo D ++ R)))))) (GR A) s)
    (next : ∀ fo' s' p'' to' u l, StD (K4 q) (hdM q.P A chs p' tu tn to' (D ++ [(u, l, .tok sLet [x])]) fo' ++ R) (GR A) s' → Y.H s' ⟨denF (cSt A), cSt A, p'', fsG q.P A ++ rest⟩) :
    Y.H s ⟨.pure (.done (.ret (.bool true))), c, pos, fsS2 q.P A Ls ++ (fsG q.P A ++ rest)⟩ := by
  have hRG : RestB 192 (fsG q.P A ++ rest) := nf_G q.P A hR
  have hR3 : RestB 194 (fsS3 q.P A Ls ++ (fsG q.P A ++ rest)) := nf_S3 q.P A Ls hRG
  let Q : DM := tnD A tn ++ (lowD A tu to (refsR D) ++ (fsD q.P A ++ (([(A.cst, .cell (some (.ref A.fst)))] : DM) ++ (nvD ++ (resM D ++ R)))))
  have S1 := (StD.reord (d' := ((smD A ++ ([(A.ch, .cell (some (.ref A.sf)))] : DM)) ++ (lmD A false p' none (crefs [x]) (crefs chs) ++ (chM chs ++ (tabD fo ++ (([(A.tb, .seq c_list [])] : DM) ++ (([(A.fbr, .raw (brO q.P A)), (A.bcode, bcD A), (A.cbr, .cell (some (.ref A.fbr)))] : DM) ++ Q))))))) S fun a => by simp only [cnt_append, cnt_two, cnt_nil, Nat.add_zero, Nat.zero_add, LX, lxD, rdB, kpD, Q] <;> (try dsimp only [Addr]) <;> with_reducible ac_rfl)
  have h := @ST2t q Y A Ls c _ s pos (fsG q.P A ++ rest) (hRG.le (by omega)) S1
  simp only [ST2t_a, ST2t_e, SE.cd] at h
  refine h fun i s1 p1 c1 _ _ S2 => ?_
  clear h
  have S3 := (StD.reord (d' := (LX A chs false p' none [x] ++ (tabD fo ++ (([(A.tb, .seq c_list [])] : DM) ++ (rdB q.P A ++ Q))))) S2 fun a => by simp only [cnt_append, cnt_two, cnt_nil, Nat.add_zero, Nat.zero_add, LX, lxD, rdB] <;> (try dsimp only [Addr]) <;> with_reducible ac_rfl)
  have hcs3 : (fsS3 q.P A Ls ++ (fsG q.P A ++ rest)).map (·.where_.1) = cStB q.P A Ls :: lowCs q.P A := by rw [List.map_append, fsS3_cs, low_cs hcs]; rfl
  refine emit Y A chs Ls sLet _ fo [x] (by simp) (by simp) (fun y hy => by cases List.mem_singleton.mp hy; exact hm) hcs3 (hR3.mono (by omega)) S3 fun s2 p2 c2 co tok td y hy S4 => ?_
  cases hy
  have S5 := (StD.reord (d' := (([(A.cst, .cell (some (.ref A.fst)))] : DM) ++ (LX A chs false p' none [] ++ (([(A.tb, .seq c_list [.ref tok])] : DM) ++ (tokD tok td sLet (sgS [x]) x.l ++ (rdB q.P A ++ (tnD A tn ++ (lowD A tu to (refsR D) ++ (fsD q.P A ++ (tabD (some co) ++ (nvD ++ (resM D ++ R)))))))))))) S4 fun a => by simp only [cnt_append, cnt_two, cnt_nil, Nat.add_zero, Nat.zero_add, Q] <;> (try dsimp only [Addr]) <;> with_reducible ac_rfl)
  have h := @ST4a q Y A Ls c2 _ s2 p2 (fsG q.P A ++ rest) (hRG.le (by omega)) S5
  simp only [ST4a_a, ST4a_e, SE.cd, List.nil_append] at h
  refine h fun i s3 p3 c3 _ _ S6 => ?_
  clear h
  have S7 := (StD.reord (d' := (LX A chs false p' none [] ++ (([(A.tb, .seq c_list [.ref tok])] : DM) ++ (tokD tok td sLet (sgS [x]) x.l ++ (rdB q.P A ++ (tnD A tn ++ (lowD A tu to (refsR D) ++ (kpD q.P A (some co) D ++ R)))))))) S6 fun a => by simp only [cnt_append, cnt_two, cnt_nil, Nat.add_zero, Nat.zero_add, kpD] <;> (try dsimp only [Addr]) <;> with_reducible ac_rfl)
  exact tkNext Y A chs tu tn to D (some co) sLet [x] x rfl hm hD tok td hR S7 (next (some co))
theorem group (Ls : Nat) (tu tn : Int) (to : Option Addr) (D : List (Addr × Addr × Res)) (fo : Option Addr) {p' : Nat} (X : List Ch) (h1 : 1 ≤ X.length) (hX : X.length ≤ 14) (hm : ∀ x ∈ X, x ∈ chs) (hD : D.length ≤ 50) {R : DM} {rest : List Frame} (hcs : rest.map (·.where_.1) = [cLawB q.P A, cCaller]) (hR : RestB 190 rest) {s : Shared} {c : Code} {pos : Pos}
    (S : StD (K4 q) (LX A chs false p' none X ++ (([(A.tb, .seq c_list [])] : DM) ++ (rdB q.P A ++ (tnD A tn ++ (lowD A tu to (refsR D) ++ (kpD q.P A fo D ++ R)))))) (GR A) s)
    (next : ∀ fo' s' p'' to' u l, StD (K4 q) (hdM q.P A chs p' tu tn to' (D ++ [(u, l, .tok sGrp X)]) fo' ++ R) (GR A) s' → Y.H s' ⟨denF (cSt A), cSt A, p'', fsG q.P A ++ rest⟩) :
    Y.H s ⟨.pure (.done (.ret (.bool true))), c, pos, fsS4 q.P A Ls ++ (fsG q.P A ++ rest)⟩ := by
  have hRG : RestB 192 (fsG q.P A ++ rest) := nf_G q.P A hR
  have hR3 : RestB 194 (fsS5 q.P A Ls ++ (fsG q.P A ++ rest)) := nf_S5 q.P A Ls hRG
  let Q : DM := tnD A tn ++ (lowD A tu to (refsR D) ++ (fsD q.P A ++ (([(A.cst, .cell (some (.ref A.fst)))] : DM) ++ (nvD ++ (resM D ++ R)))))
  have S1 := (StD.reord (d' := ((smD A ++ ([(A.ch, .cell (some (.ref A.sf)))] : DM)) ++ (lmD A false p' none (crefs X) (crefs chs) ++ (chM chs ++ (tabD fo ++ (([(A.tb, .seq c_list [])] : DM) ++ (([(A.fbr, .raw (brO q.P A)), (A.bcode, bcD A), (A.cbr, .cell (some (.ref A.fbr)))] : DM) ++ Q))))))) S fun a => by simp only [cnt_append, cnt_two, cnt_nil, Nat.add_zero, Nat.zero_add, LX, lxD, rdB, kpD, Q] <;> (try dsimp only [Addr]) <;> with_reducible ac_rfl)
  have h := @ST3t q Y A Ls c _ s pos (fsG q.P A ++ rest) (hRG.le (by omega)) S1
  simp only [ST3t_a, ST3t_e, SE.cd] at h
  refine h fun i s1 p1 c1 _ _ S2 => ?_
  clear h
  have S3 := (StD.reord (d' := (LX A chs false p' none X ++ (tabD fo ++ (([(A.tb, .seq c_list [])] : DM) ++ (rdB q.P A ++ Q))))) S2 fun a => by simp only [cnt_append, cnt_two, cnt_nil, Nat.add_zero, Nat.zero_add, LX, lxD, rdB] <;> (try dsimp only [Addr]) <;> with_reducible ac_rfl)
  have hcs3 : (fsS5 q.P A Ls ++ (fsG q.P A ++ rest)).map (·.where_.1) = cStB q.P A Ls :: lowCs q.P A := by rw [List.map_append, fsS5_cs, low_cs hcs]; rfl
  refine emit Y A chs Ls sGrp _ fo X h1 hX hm hcs3 (hR3.mono (by omega)) S3 fun s2 p2 c2 co tok td x hx S4 => ?_
  have S5 := (StD.reord (d' := (([(A.cst, .cell (some (.ref A.fst)))] : DM) ++ (LX A chs false p' none [] ++ (([(A.tb, .seq c_list [.ref tok])] : DM) ++ (tokD tok td sGrp (sgS X) x.l ++ (rdB q.P A ++ (tnD A tn ++ (lowD A tu to (refsR D) ++ (fsD q.P A ++ (tabD (some co) ++ (nvD ++ (resM D ++ R)))))))))))) S4 fun a => by simp only [cnt_append, cnt_two, cnt_nil, Nat.add_zero, Nat.zero_add, Q] <;> (try dsimp only [Addr]) <;> with_reducible ac_rfl)
  have h := @ST4b q Y A Ls c2 _ s2 p2 (fsG q.P A ++ rest) (hRG.le (by omega)) S5
  simp only [ST4b_a, ST4b_e, SE.cd, List.nil_append] at h
  refine h fun i s3 p3 c3 _ _ S6 => ?_
  clear h
  have S7 := (StD.reord (d' := (LX A chs false p' none [] ++ (([(A.tb, .seq c_list [.ref tok])] : DM) ++ (tokD tok td sGrp (sgS X) x.l ++ (rdB q.P A ++ (tnD A tn ++ (lowD A tu to (refsR D) ++ (kpD q.P A (some co) D ++ R)))))))) S6 fun a => by simp only [cnt_append, cnt_two, cnt_nil, Nat.add_zero, Nat.zero_add, kpD] <;> (try dsimp only [Addr]) <;> with_reducible ac_rfl)
  exact tkNext Y A chs tu tn to D (some co) sGrp X x hx (hm x (List.mem_of_getElem? hx)) hD tok td hR S7 (next (some co))
end
end Mine
end
section
set_option linter.unusedVariables false
set_option maxRecDepth 100000
set_option maxHeartbeats 2000000
namespace Mine
open PySem PySem.W PySem.W.X
section
variable {q : Qd} (Y : Sys (K4 q)) (A : LA) (chs : List Ch)
theorem g_step (D : List (Addr × Addr × Res)) (u l : Addr) (r : Res) (z : List Res) : D.map (·.2.2) ++ (r :: z) = (D ++ [(u, l, r)]).map (·.2.2) ++ z := by simp
theorem g_last (D : List (Addr × Addr × Res)) (u l : Addr) (r : Res) : (D ++ [(u, l, r)]).map (·.2.2) = D.map (·.2.2) ++ [r] := by simp
theorem stF_frq (L c : Addr) : stF L c = [(L, .frq [([99], .ref c)])] := rfl
theorem inner0 (hal : ∀ x ∈ chs, x.sg ∈ alpha) (hlen : chs.length ≤ 14) {R : DM} {B : List Frame} (hB : RestB 230 B) (p : Nat) (L : Nat) (j : Op) (x : Ch) (hx : x ∈ chs) (tn : Int) (hp : p + 1 ≤ chs.length) {s : Shared} {pos : Pos} (t : Tok)
    (S : StD (K4 q) (LX A chs false (p + 1) none [x] ++ (rdB q.P A ++ (tnD A tn ++ (lvM [(L, j)] ++ R)))) (GR A) s)
    (yes : ∀ p' X' tn' s' pos' c', goR [j] [x] (chs.drop (p + 1)) = .tok sGrp X' :: goR [] [] (chs.drop p') → p < p' → p' ≤ chs.length → X'.length ≤ p' → 1 ≤ X'.length → (∀ x ∈ X', x ∈ chs) → StD (K4 q) (LX A chs false p' none X' ++ (rdB q.P A ++ (tnD A tn' ++ R))) (GR A) s' → Y.H s' ⟨.pure (.done (.ret (.bool true))), c', pos', B⟩)
    (no : ∀ loc, goR [j] [x] (chs.drop (p + 1)) = [.ref loc] → (∀ x, loc = some x → x ∈ chs) → ∀ (st : List (Addr × Op)) (L Le : Nat) f2 f3, st.length ≤ 14 → Refu Y A chs ([(Le, .frq f2)] ++ ([(L, .frq f3)] ++ (lvM st ++ R))) (fsR q.P A Le ++ (fsX q.P A L ++ (frB q.P A st ++ B))) loc) :
    Y.H s ⟨denF (cAcc A (.str sAS t)), cAcc A (.str sAS t), pos, fsW q.P A L ++ B⟩ :=
  inner Y A chs hal hlen hB (goR [j] [x] (chs.drop (p + 1))) p yes no (chs.length - (p + 1)) (p + 1) (by omega) (by omega) L j [] [x] tn false (p + 1) none (.inl ⟨rfl, rfl, rfl⟩) (by simp) (by simp) (fun y hy => by cases List.mem_singleton.mp hy; exact hx) rfl t S
theorem readGo (hal : ∀ x ∈ chs, x.sg ∈ alpha) (hlen : chs.length ≤ 14) (tu : Int) {R : DM} {rest : List Frame} (hcs : rest.map (·.where_.1) = [cLawB q.P A, cCaller]) (hR : RestB 190 rest) (hE : RestE R rest) (g : List Res)
    (next : ∀ s' p' c' fo' (D2 : List (Addr × Addr × Res)), D2.map (·.2.2) = g → StD (K4 q) (([(A.seen, .arr c_list (refsR D2))] : DM) ++ (resM D2 ++ (tabD fo' ++ (nvD ++ R)))) [] s' → Y.H s' ⟨.pure (.done (.ret (.ref A.seen))), c', p', rest⟩) :
    ∀ (m p : Nat), chs.length - p < m → p ≤ chs.length → ∀ (tn : Int) (to : Option Addr) (D : List (Addr × Addr × Res)) (fo : Option Addr), D.length ≤ p → g = D.map (·.2.2) ++ goR [] [] (chs.drop p) →
      ∀ {s : Shared} {pos : Pos}, StD (K4 q) (hdM q.P A chs p tu tn to D fo ++ R) (GR A) s → Y.H s ⟨denF (cSt A), cSt A, pos, fsG q.P A ++ rest⟩
  | 0, p, hm, hp, tn, to, D, fo, hD, hg, s, pos, S => absurd hm (Nat.not_lt_zero _)
  | m + 1, p, hm, hp, tn, to, D, fo, hD, hg, s, pos, S => by
    have hR0 : RestB 300 rest := hR.le (by omega)
    have hRG : RestB 192 (fsG q.P A ++ rest) := nf_G q.P A hR
    have hsz : (refsR D).size ≤ sizeLine := by rw [refsR_size]; exact le_line (by omega)
    by_cases hpe : p = chs.length
    · subst hpe
      have hno : (crefs chs)[chs.length]? = none := by rw [crefs_get, List.getElem?_eq_none (Nat.le_refl _)]; rfl
      rw [List.drop_length, show goR [] [] [] = [] from rfl, List.append_nil] at hg
      have S1 := (StD.reord (d' := ((fsD q.P A ++ (([(A.ch, .cell (some (.ref A.sf)))] : DM) ++ lxD A false chs.length none (crefs []) (crefs chs))) ++ (chM chs ++ (([(A.fbr, .raw (brO q.P A)), (A.bcode, bcD A), (A.cbr, .cell (some (.ref A.fbr)))] : DM) ++ (tnD A tn ++ (([(A.cst, .cell (some (.ref A.fst)))] : DM) ++ (ltF A ++ (lrF A tu to ++ (goT A ++ (([(A.tb, .seq c_list [])] : DM) ++ (([(A.seen, .arr c_list (refsR D))] : DM) ++ (tabD fo ++ (nvD ++ (resM D ++ R)))))))))))))) S fun a => by simp only [cnt_append, cnt_two, cnt_nil, Nat.add_zero, Nat.zero_add, hdM, rdM, LX, rdB] <;> (try dsimp only [Addr]) <;> with_reducible ac_rfl)
      have h := @ST0E q Y A chs.length (crefs []) (crefs chs) hno _ s pos (fsG q.P A ++ rest) (hRG.le (by omega)) S1
      simp only [ST0E_a, ST0E_e, SE.cd, List.nil_append] at h
      refine h fun i s1 p1 c1 _ _ S2 => ?_
      clear h
      have S3 := (StD.reord (d' := ((smD A ++ (ltF A ++ (([(A.tb, .seq c_list [])] : DM) ++ (lrF A tu to ++ goT A)))) ++ (([(A.seen, .arr c_list (refsR D))] : DM) ++ (resM D ++ (tabD fo ++ (nvD ++ R))) ++ (fsD q.P A ++ (([(A.ch, .cell (some (.ref A.sf)))] : DM) ++ (lmD A true chs.length none (crefs []) (crefs chs) ++ (chM chs ++ (([(A.fbr, .raw (brO q.P A)), (A.bcode, bcD A), (A.cbr, .cell (some (.ref A.fbr)))] : DM) ++ (tnD A tn ++ ([(A.cst, .cell (some (.ref A.fst)))] : DM)))))))))) S2 fun a => by simp only [cnt_append, cnt_two, cnt_nil, Nat.add_zero, Nat.zero_add, lxD] <;> (try dsimp only [Addr]) <;> with_reducible ac_rfl)
      have h := @TKn q Y A tu to c1 _ s1 p1 rest hR0 S3
      simp only [TKn_a, TKn_e, SE.cd, List.nil_append] at h
      refine h fun i2 s2 p2 c2 _ _ S4 => ?_
      clear h
      exact next s2 p2 c2 fo D hg.symm S4.drop
    · have hlt : p < chs.length := by omega
      obtain ⟨x, hx⟩ : ∃ x, chs[p]? = some x := ⟨_, List.getElem?_eq_getElem hlt⟩
      have hmx : x ∈ chs := List.mem_of_getElem? hx
      have hax := hal x hmx
      rw [drop_cons hx] at hg
      obtain ⟨Rx, hRx⟩ := ch_split hmx
      have hk : (crefs chs)[p]? = some (.ref x.a) := by rw [crefs_get, hx]; rfl
      have hat2 : At chs p false (p + 1) (some x.a) := .inr (.inl ⟨x, hx, rfl, rfl, rfl⟩)
      have S1 := (StD.reord (d' := ((fsD q.P A ++ (([(A.ch, .cell (some (.ref A.sf)))] : DM) ++ (lxD A false p none (crefs []) (crefs chs) ++ chD x.a x.d x.l ⟨⟨[x.sg]⟩⟩))) ++ (locD x.l x.ld x.f x.x x.y x.z ++ (Rx ++ (([(A.fbr, .raw (brO q.P A)), (A.bcode, bcD A), (A.cbr, .cell (some (.ref A.fbr)))] : DM) ++ (tnD A tn ++ (([(A.cst, .cell (some (.ref A.fst)))] : DM) ++ (ltF A ++ (lrF A tu to ++ (goT A ++ (([(A.tb, .seq c_list [])] : DM) ++ (([(A.seen, .arr c_list (refsR D))] : DM) ++ (tabD fo ++ (nvD ++ (resM D ++ R))))))))))))))) S fun a => by simp only [cnt_append, cnt_two, cnt_nil, Nat.add_zero, Nat.zero_add, hdM, rdM, LX, rdB, hRx] <;> (try dsimp only [Addr]) <;> with_reducible ac_rfl)
      have h := @ST0 q Y A p (crefs []) (crefs chs) x.a x.d x.l ⟨⟨[x.sg]⟩⟩ hk (Nat.zero_le _) (by decide) _ s pos (fsG q.P A ++ rest) (hRG.le (by omega)) S1
      simp only [ST0_a, ST0_e, SE.cd, List.nil_append] at h
      refine h fun i s1 p1 c1 _ _ S2 => ?_
      clear h
      generalize i.N = Ls at S2 ⊢
      have hR1 : RestB 194 (fsS1 q.P A Ls ++ (fsG q.P A ++ rest)) := nf_S1 q.P A Ls hRG
      have hR2 : RestB 194 (fsS2 q.P A Ls ++ (fsG q.P A ++ rest)) := nf_S2 q.P A Ls hRG
      have hR4 : RestB 194 (fsS4 q.P A Ls ++ (fsG q.P A ++ rest)) := nf_S4 q.P A Ls hRG
      let M : DM := stF Ls x.a ++ (([(A.tb, .seq c_list [])] : DM) ++ (rdB q.P A ++ (tnD A tn ++ (lowD A tu to (refsR D) ++ (kpD q.P A fo D ++ R)))))
      have S3 := (StD.reord (d' := (lxD A false (p + 1) (some x.a) (crefs []) (crefs chs) ++ (chM chs ++ M))) S2 fun a => by simp only [cnt_append, cnt_two, cnt_nil, Nat.add_zero, Nat.zero_add, hRx, rdB, lowD, kpD, M] <;> (try dsimp only [Addr]) <;> with_reducible ac_rfl)
      refine accStr Y A chs ⟨⟨[32]⟩⟩ _ hx hat2 [] (by simp) (hR1.le (by omega)) S3 (fun hb s2 p2 c2 S4 => ?_) fun hb s2 p2 c2 S4 => ?_
      · have hs : x.sg = 32 := by rw [inS_sp x.sg hax] at hb; exact beq_iff_eq.mp hb
        have hs1 : (crefs [x]).size ≤ sizeLine := by rw [crefs_size]; exact le_line (by simp)
        let Q : DM := ([(A.pb, .seq c_list (oneL none))] : DM) ++ (([(A.it, .fields c_listit [cond false .none (.ref A.cl), .raw (.int (((p + 1 : Nat)) : Int) 0)])] : DM) ++ (([(A.cl, .arr c_list (crefs chs))] : DM) ++ (chM chs ++ (stF Ls x.a ++ (([(A.tb, .seq c_list [])] : DM) ++ (([(A.fbr, .raw (brO q.P A)), (A.bcode, bcD A), (A.cbr, .cell (some (.ref A.fbr)))] : DM) ++ (tnD A tn ++ (lowD A tu to (refsR D) ++ (fsD q.P A ++ (tabD fo ++ (nvD ++ (resM D ++ R))))))))))))
        have S5 := (StD.reord (d' := ((smD A ++ (([(A.ch, .cell (some (.ref A.sf)))] : DM) ++ (([(A.ct, .arr c_list (crefs ([] ++ [x])))] : DM) ++ ([(A.cst, .cell (some (.ref A.fst)))] : DM)))) ++ Q)) S4 fun a => by simp only [cnt_append, cnt_two, cnt_nil, Nat.add_zero, Nat.zero_add, M, lxD, lmD, rdB, kpD, Q] <;> (try dsimp only [Addr]) <;> with_reducible ac_rfl)
        have h := @ST1t q Y A Ls (crefs ([] ++ [x])) c2 hs1 _ s2 p2 (fsG q.P A ++ rest) (hRG.le (by omega)) S5
        simp only [ST1t_a, ST1t_e, SE.cd, List.nil_append] at h
        refine h fun i2 s3 p3 c3 _ _ S6 => ?_
        clear h
        have S7 := (StD.reord (d' := ((smD A ++ (([(A.cst, .cell (some (.ref A.fst)))] : DM) ++ (ltF A ++ (([(A.tb, .seq c_list [])] : DM) ++ [(A.fst, .raw (startO q.P A))])))) ++ (([(A.scode, scD A)] : DM) ++ (([(A.ch, .cell (some (.ref A.sf)))] : DM) ++ (([(A.ct, .arr c_list #[])] : DM) ++ (([(A.pb, .seq c_list (oneL none))] : DM) ++ (([(A.it, .fields c_listit [cond false .none (.ref A.cl), .raw (.int (((p + 1 : Nat)) : Int) 0)])] : DM) ++ (([(A.cl, .arr c_list (crefs chs))] : DM) ++ (chM chs ++ (stF Ls x.a ++ (([(A.fbr, .raw (brO q.P A)), (A.bcode, bcD A), (A.cbr, .cell (some (.ref A.fbr)))] : DM) ++ (tnD A tn ++ (goT A ++ (lrF A tu to ++ (([(A.seen, .arr c_list (refsR D))] : DM) ++ (tabD fo ++ (nvD ++ (resM D ++ R)))))))))))))))))) S6 fun a => by simp only [cnt_append, cnt_two, cnt_nil, Nat.add_zero, Nat.zero_add, Q, lowD, fsD] <;> (try dsimp only [Addr]) <;> with_reducible ac_rfl)
        have h := @TKe q Y A c3 _ s3 p3 rest hR0 S7
        simp only [TKe_a, TKe_e, SE.cd] at h
        refine h fun i3 s4 p4 c4 _ _ S8 => ?_
        clear h
        have e0 : crefs [] = #[] := rfl
        have S9 := (StD.mem_drop (d' := (hdM q.P A chs (p + 1) tu tn to D fo ++ R)) (e := (stF Ls x.a)) S8 fun a => by simp only [cnt_append, cnt_two, cnt_nil, Nat.add_zero, Nat.zero_add, hdM, rdM, LX, lxD, lmD, rdB, fsD, e0] <;> (try dsimp only [Addr]) <;> with_reducible ac_rfl)
        exact readGo hal hlen tu hcs hR hE g next m (p + 1) (by omega) (by omega) tn to D fo (by omega) (by rw [hg, goR_t1 hs]) S9
      · have hns : x.sg ≠ 32 := by
          intro e; rw [inS_sp x.sg hax, e] at hb; cases hb
        have S5 := (StD.reord (d' := ((smD A ++ ([(A.ch, .cell (some (.ref A.sf)))] : DM)) ++ (lmD A false (p + 1) (some x.a) (crefs []) (crefs chs) ++ (chM chs ++ (stF Ls x.a ++ (([(A.tb, .seq c_list [])] : DM) ++ (([(A.fbr, .raw (brO q.P A)), (A.bcode, bcD A), (A.cbr, .cell (some (.ref A.fbr)))] : DM) ++ (tnD A tn ++ (lowD A tu to (refsR D) ++ (kpD q.P A fo D ++ R)))))))))) S4 fun a => by simp only [cnt_append, cnt_two, cnt_nil, Nat.add_zero, Nat.zero_add, M, lxD, rdB] <;> (try dsimp only [Addr]) <;> with_reducible ac_rfl)
        have h := @ST1f q Y A Ls c2 _ s2 p2 (fsG q.P A ++ rest) (hRG.le (by omega)) S5
        simp only [ST1f_a, ST1f_e, SE.cd] at h
        refine h fun i2 s3 p3 c3 _ _ S6 => ?_
        clear h
        have S7 := (StD.reord (d' := (lxD A false (p + 1) (some x.a) (crefs []) (crefs chs) ++ (chM chs ++ M))) S6 fun a => by simp only [cnt_append, cnt_two, cnt_nil, Nat.add_zero, Nat.zero_add, M, lxD, rdB] <;> (try dsimp only [Addr]) <;> with_reducible ac_rfl)
        refine accStr Y A chs ⟨⟨[97]⟩⟩ _ hx hat2 [] (by simp) (hR2.le (by omega)) S7 (fun hb2 s4 p4 c4 S8 => ?_) fun hb2 s4 p4 c4 S8 => ?_
        · have hs : x.sg = 97 := by rw [inS_a x.sg hax] at hb2; exact beq_iff_eq.mp hb2
          have S9 := (StD.mem_drop (d' := (LX A chs false (p + 1) none ([] ++ [x]) ++ (([(A.tb, .seq c_list [])] : DM) ++ (rdB q.P A ++ (tnD A tn ++ (lowD A tu to (refsR D) ++ (kpD q.P A fo D ++ R))))))) (e := (stF Ls x.a)) S8 fun a => by simp only [cnt_append, cnt_two, cnt_nil, Nat.add_zero, Nat.zero_add, M, LX] <;> (try dsimp only [Addr]) <;> with_reducible ac_rfl)
          refine letter Y A chs Ls tu tn to D fo x hmx (by omega) hcs hR S9 fun fo' s5 p5 to' u l S10 => ?_
          have q1 : (D ++ [(u, l, Res.tok sLet [x])]).length ≤ p + 1 := by rw [List.length_append]; simp only [List.length_singleton]; omega
          have q2 : g = (D ++ [(u, l, Res.tok sLet [x])]).map (·.2.2) ++ goR [] [] (chs.drop (p + 1)) := by rw [hg, goR_t2 hs]; exact g_step D u l _ _
          exact readGo hal hlen tu hcs hR hE g next m (p + 1) (by omega) (by omega) tn to' (D ++ [(u, l, Res.tok sLet [x])]) fo' q1 q2 S10
        · have hna : x.sg ≠ 97 := by
            intro e; rw [inS_a x.sg hax, e] at hb2; cases hb2
          have S9 := (StD.reord (d' := (([(A.fbr, .raw (brO q.P A)), (A.cbr, .cell (some (.ref A.fbr)))] : DM) ++ (lxD A false (p + 1) (some x.a) (crefs []) (crefs chs) ++ (chM chs ++ (([(A.bcode, bcD A), (A.ch, .cell (some (.ref A.sf)))] : DM) ++ (stF Ls x.a ++ (([(A.tb, .seq c_list [])] : DM) ++ (tnD A tn ++ (lowD A tu to (refsR D) ++ (kpD q.P A fo D ++ R)))))))))) S8 fun a => by simp only [cnt_append, cnt_two, cnt_nil, Nat.add_zero, Nat.zero_add, M, rdB] <;> (try dsimp only [Addr]) <;> with_reducible ac_rfl)
          have h := @ST2f q Y A Ls c4 _ s4 p4 (fsG q.P A ++ rest) (hRG.le (by omega)) S9
          simp only [ST2f_a, ST2f_e, SE.cd] at h
          refine h fun i5 s5 p5 c5 _ _ S10 => ?_
          clear h
          have S11 := (StD.reord (d' := (LX A chs false (p + 1) (some x.a) [] ++ (rdB q.P A ++ (stF Ls x.a ++ (([(A.tb, .seq c_list [])] : DM) ++ (tnD A tn ++ (lowD A tu to (refsR D) ++ (kpD q.P A fo D ++ R)))))))) S10 fun a => by simp only [cnt_append, cnt_two, cnt_nil, Nat.add_zero, Nat.zero_add, M, LX, rdB] <;> (try dsimp only [Addr]) <;> with_reducible ac_rfl)
          let R2 : DM := ([(A.tb, .seq c_list [])] : DM) ++ (kpD q.P A fo D ++ R)
          have hE2 : RestE R2 rest := hE.mono fun y hy => List.mem_append_right _ (List.mem_append_right _ hy)
          have fin : ∀ loc, g = D.map (·.2.2) ++ [.ref loc] → ∀ s' p' c' a b, StD (K4 q) ([(A.seen, .arr c_list ((refsR D).push (.ref a)))] ++ (refD a b loc ++ R2)) [] s' → Y.H s' ⟨.pure (.done (.ret (.ref A.seen))), c', p', rest⟩ := fun loc hgl s' p' c' a b S' => by
            have e1 : (refsR D).push (.ref a) = refsR (D ++ [(a, b, .ref loc)]) := refsR_push D (a, b, .ref loc)
            have e2 := resM_push D (a, b, .ref loc)
            have e3 : resD (a, b, .ref loc) = refD a b loc := rfl
            have S'' := (StD.mem_drop (d' := (([(A.seen, .arr c_list (refsR (D ++ [(a, b, Res.ref loc)])))] : DM) ++ (resM (D ++ [(a, b, Res.ref loc)]) ++ (tabD fo ++ (nvD ++ R))))) (e := (([(A.tb, .seq c_list [])] : DM) ++ (fsD q.P A ++ ([(A.cst, .cell (some (.ref A.fst)))] : DM)))) S' fun a => by simp only [cnt_append, cnt_two, cnt_nil, Nat.add_zero, Nat.zero_add, R2, kpD, e1, e2, e3] <;> (try dsimp only [Addr]) <;> with_reducible ac_rfl)
            exact next s' p' c' fo (D ++ [(a, b, .ref loc)]) (by rw [hgl]; exact g_last D a b _) S''
          refine brTry Y A chs hx hax hat2 [] (by simp) (hR4.mono (by omega)) S11 (fun j L hj s6 p6 t6 S12 => ?_) fun n1 n2 n3 s6 p6 c6 S12 => ?_
          · have hg2 : g = D.map (·.2.2) ++ goR [j] [x] (chs.drop (p + 1)) := by rw [hg, goR_t3 hj]
            have S13 := (StD.reord (d' := (LX A chs false (p + 1) none [x] ++ (rdB q.P A ++ (tnD A tn ++ (lvM [(L, j)] ++ (([(Ls, .frq [([99], .ref x.a)])] : DM) ++ (lowD A tu to (refsR D) ++ R2))))))) S12 fun a => by simp only [cnt_append, cnt_two, cnt_nil, Nat.add_zero, Nat.zero_add, lvM, R2, stF_frq] <;> (try dsimp only [Addr]) <;> with_reducible ac_rfl)
            refine inner0 Y A chs hal hlen (B := fsS4 q.P A Ls ++ (fsG q.P A ++ rest)) (hR4.mono (by omega)) p L j x hmx tn hlt t6 S13 (fun p' X' tn' s7 p7 c7 hg3 hpp hp' hX' h1X hmX S14 => ?_) fun loc hg3 hloc st L' Le f2 f3 hst => ?_
            · have S15 := (StD.mem_drop (d' := (LX A chs false p' none X' ++ (([(A.tb, .seq c_list [])] : DM) ++ (rdB q.P A ++ (tnD A tn' ++ (lowD A tu to (refsR D) ++ (kpD q.P A fo D ++ R))))))) (e := ([(Ls, .frq [([99], .ref x.a)])] : DM)) S14 fun a => by simp only [cnt_append, cnt_two, cnt_nil, Nat.add_zero, Nat.zero_add, R2] <;> (try dsimp only [Addr]) <;> with_reducible ac_rfl)
              refine group Y A chs Ls tu tn' to D fo X' h1X (by omega) hmX (by omega) hcs hR S15 fun fo' s8 p8 to' u l S16 => ?_
              have q1 : (D ++ [(u, l, Res.tok sGrp X')]).length ≤ p' := by rw [List.length_append]; simp only [List.length_singleton]; omega
              have q2 : g = (D ++ [(u, l, Res.tok sGrp X')]).map (·.2.2) ++ goR [] [] (chs.drop p') := by rw [hg2, hg3]; exact g_step D u l _ _
              exact readGo hal hlen tu hcs hR hE g next m p' (by omega) hp' tn' to' (D ++ [(u, l, Res.tok sGrp X')]) fo' q1 q2 S16
            · exact refuseX Y A chs hloc st (by omega) L' Le Ls f2 f3 [([99], .ref x.a)] tu to (refsR D) hsz hR hE2 (fin loc (by rw [hg2, hg3]))
          · have S13 := (StD.reord (d' := (LX A chs false (p + 1) (some x.a) [] ++ (rdB q.P A ++ (tnD A tn ++ (nvD ++ (([(Ls, .frq [([99], .ref x.a)])] : DM) ++ (lowD A tu to (refsR D) ++ (([(A.tb, .seq c_list [])] : DM) ++ (fsD q.P A ++ (([(A.cst, .cell (some (.ref A.fst)))] : DM) ++ (tabD fo ++ (resM D ++ R)))))))))))) S12 fun a => by simp only [cnt_append, cnt_two, cnt_nil, Nat.add_zero, Nat.zero_add, R2, stF_frq, kpD] <;> (try dsimp only [Addr]) <;> with_reducible ac_rfl)
            refine never Y A chs Ls tn hx hax (hRG.mono (by omega)) S13 fun Le f2 => ?_
            have hgl : g = D.map (·.2.2) ++ [.ref (some x)] := by rw [hg, goR_t4 hns hna (opOf_none n1 n2 n3)]
            exact Refu.mono Y A chs (refuseS Y A chs (loc := some x) (fun y hy => by cases hy; exact hmx) Le Ls f2 [([99], .ref x.a)] tu to (refsR D) hsz hR (R := ([(A.tb, .seq c_list [])] : DM) ++ (fsD q.P A ++ (([(A.cst, .cell (some (.ref A.fst)))] : DM) ++ (tabD fo ++ (resM D ++ R)))) ++ nvD) (hE.mono fun y hy => List.mem_append_left _ (List.mem_append_right _ (List.mem_append_right _ (List.mem_append_right _ (List.mem_append_right _ (List.mem_append_right _ hy)))))) fun s' p' c' a b S' => by
              have e1 : (refsR D).push (.ref a) = refsR (D ++ [(a, b, .ref (some x))]) := refsR_push D (a, b, .ref (some x))
              have e2 := resM_push D (a, b, .ref (some x))
              have e3 : resD (a, b, .ref (some x)) = refD a b (some x) := rfl
              have S'' := (StD.mem_drop (d' := (([(A.seen, .arr c_list (refsR (D ++ [(a, b, Res.ref (some x))])))] : DM) ++ (resM (D ++ [(a, b, Res.ref (some x))]) ++ (tabD fo ++ (nvD ++ R))))) (e := (([(A.tb, .seq c_list [])] : DM) ++ (fsD q.P A ++ ([(A.cst, .cell (some (.ref A.fst)))] : DM)))) S' fun a => by simp only [cnt_append, cnt_two, cnt_nil, Nat.add_zero, Nat.zero_add, e1, e2, e3] <;> (try dsimp only [Addr]) <;> with_reducible ac_rfl)
              exact next s' p' c' fo (D ++ [(a, b, .ref (some x))]) (by rw [hgl]; exact g_last D a b _) S'') (E := []) fun a => by simp only [cnt_append, cnt_nil, Nat.add_zero]; dsimp only [Addr]; ac_rfl
end
end Mine
end
section
set_option linter.unusedVariables false
set_option maxRecDepth 100000
set_option maxHeartbeats 2000000
namespace Mine
open PySem PySem.W PySem.W.X
theorem at_law (P : Params) (A : LA) (b g : Nat) (zb zs : Int) : cLawB P (A.at b g zb zs) = cLawB P A := rfl
section
variable {q : Qd} (Y : Sys (K4 q)) (A : LA) (chs : List Ch)
theorem readAll (hal : ∀ x ∈ chs, x.sg ∈ alpha) (hlen : chs.length ≤ 14) (tu : Int) (tt : Tok) {R : DM} {rest : List Frame} (hcs : rest.map (·.where_.1) = [cLawB q.P A, cCaller]) (hR : RestB 190 rest) (hE : RestE R rest)
    (next : ∀ s' p' c' se fo' vt (D2 : List (Addr × Addr × Res)), D2.map (·.2.2) = goR [] [] chs → StD (K4 q) (([(se, .arr c_list (refsR D2))] : DM) ++ (resM D2 ++ (tabD fo' ++ (nvD ++ (([(252, .tab vt)] : DM) ++ R))))) [] s' → Y.H s' ⟨.pure (.done (.ret (.ref se))), c', p', rest⟩)
    {s : Shared} {pos : Pos} (S : StD (K4 q) (([(A.cl, .arr c_list (crefs chs))] : DM) ++ (([(252, .tab [])] : DM) ++ (chM chs ++ (tabD none ++ (nvD ++ R))))) [] s) :
    Y.H s ⟨denF (cRead A.cl tu tt), cRead A.cl tu tt, pos, rest⟩ := by
  have S1 := (StD.reord (d' := ((([(A.cl, .arr c_list (crefs chs))] : DM) ++ [(252, .tab [])]) ++ (chM chs ++ (tabD none ++ (nvD ++ R))))) S fun a => by simp only [cnt_append, cnt_two, cnt_nil, Nat.add_zero, Nat.zero_add] <;> (try dsimp only [Addr]) <;> with_reducible ac_rfl)
  have h := @RD0 q Y A tu tt (crefs chs) _ s pos rest (hR.le (by omega)) S1
  simp only [RD0_a, RD0_e, SE.cd, List.nil_append] at h
  refine h fun i s1 p1 c1 _ _ S2 => ?_
  clear h
  generalize hB : A.at i.N i.G ((i.T + 17 : Nat) : Int) ((i.T + 27 : Nat) : Int) = B at S2 ⊢
  have hg : B.g = i.G := by rw [← hB]; rfl
  have hl : cLawB q.P B = cLawB q.P A := by rw [← hB]; rfl
  have e0 : refsR [] = #[] := rfl
  have e1 : crefs [] = #[] := rfl
  have e2 : resM [] = [] := rfl
  rw [← hg] at S2
  have S3 := (StD.reord (d' := (hdM q.P B chs 0 tu tu none [] none ++ (([(252, .tab (rdT B))] : DM) ++ R))) S2 fun a => by simp only [cnt_append, cnt_two, cnt_nil, Nat.add_zero, Nat.zero_add, hdM, LX, e0, e1, e2] <;> (try dsimp only [Addr]) <;> with_reducible ac_rfl)
  have q2 : goR [] [] chs = ([] : List (Addr × Addr × Res)).map (·.2.2) ++ goR [] [] (chs.drop 0) := rfl
  exact readGo Y B chs hal hlen tu (hcs.trans (by rw [hl])) hR (hE.mono fun y hy => List.mem_append_right _ hy) (goR [] [] chs) (fun s' p' c' fo' D2 hD2 S' => next s' p' c' B.seen fo' (rdT B) D2 hD2 S') (chs.length + 1) 0 (by omega) (Nat.zero_le _) tu none [] none (Nat.zero_le _) q2 S3
end
end Mine
end
section
set_option linter.unusedVariables false
set_option maxRecDepth 100000
set_option maxHeartbeats 2000000
namespace Mine
open PySem PySem.W PySem.W.X
noncomputable def dueD : Addr × Addr × Res → DM
  | (u, l, .tok nm X) => tupK u nm (sgS X) l
  | (u, l, .ref none) => [(u, .seq c_tuple [.str sRf, .none])]
  | (u, l, .ref (some x)) => [(u, .seq c_tuple [.str sRf, .ref l])]
noncomputable def dueM (D : List (Addr × Addr × Res)) : DM := D.flatMap dueD
theorem dueM_push (D : List (Addr × Addr × Res)) (x : Addr × Addr × Res) (a) : cnt a (dueM (D ++ [x])) = cnt a (dueM D) + cnt a (dueD x) := by
  unfold dueM
  rw [cnt_flatMap, List.flatMap_cons, List.flatMap_nil, List.append_nil]
noncomputable def PlOk (pls : List (Addr × Ch)) : Addr × Addr × Res → Prop
  | (_, l, .tok _ X) => ∃ x, X[0]? = some x ∧ (l, x) ∈ pls
  | (_, _, .ref none) => True
  | (_, l, .ref (some x)) => (l, x) ∈ pls
noncomputable def prefs (pls : List (Addr × Ch)) : Array Value := ⟨pls.map fun x => .ref x.1⟩
theorem prefs_get {pls : List (Addr × Ch)} {k : Nat} {y : Addr × Ch} (h : pls[k]? = some y) (hk : k ≤ 100) : ItemAt (prefs pls) ((k : Nat) : Int) (.ref y.1) := by
  refine ⟨by omega, by omega, ?_⟩
  simp [prefs, h]
noncomputable def osA (l : List (Op × Tok)) : Array Value := ⟨(l.reverse).map fun x => .str ⟨⟨[x.1.d]⟩⟩ x.2⟩
theorem osA_cons (j : Op) (t : Tok) (l : List (Op × Tok)) : (osA l).push (.str ⟨⟨[j.d]⟩⟩ t) = osA ((j, t) :: l) := by simp [osA]
theorem osA_size (l : List (Op × Tok)) : (osA l).size = l.length := by simp [osA]
theorem sgCases : ∀ c ∈ alpha, (∃ j : Op, c = j.o) ∨ (∃ j : Op, c = j.d) ∨ c = 97 ∨ c = 32 := by
  intro c hc
  simp only [alpha, List.mem_cons, List.not_mem_nil, or_false] at hc
  rcases hc with rfl | rfl | rfl | rfl | rfl | rfl | rfl | rfl
  · exact .inl ⟨.p, rfl⟩
  · exact .inl ⟨.b, rfl⟩
  · exact .inl ⟨.c, rfl⟩
  · exact .inr (.inl ⟨.p, rfl⟩)
  · exact .inr (.inl ⟨.b, rfl⟩)
  · exact .inr (.inl ⟨.c, rfl⟩)
  · exact .inr (.inr (.inr rfl))
  · exact .inr (.inr (.inl rfl))
noncomputable def sCl : Str := ⟨⟨[41, 93, 125]⟩⟩
theorem inS_cl (j : Op) : inS sCl j.d = true := by cases j <;> (unfold inS sCl; decide +kernel)
theorem inS_cl1 : inS sCl 97 = false := by unfold inS sCl; decide +kernel
theorem inS_cl2 : inS sCl 32 = false := by unfold inS sCl; decide +kernel
theorem h0_d (j : Op) : (j.d = 40 ∨ j.d = 91 ∨ j.d = 123) ↔ false = true := by cases j <;> simp [Op.d]
theorem h0_97 : ((97 : Nat) = 40 ∨ (97 : Nat) = 91 ∨ (97 : Nat) = 123) ↔ false = true := by simp
theorem h0_32 : ((32 : Nat) = 40 ∨ (32 : Nat) = 91 ∨ (32 : Nat) = 123) ↔ false = true := by simp
theorem h1_d (j : Op) : ((⟨⟨[j.d]⟩⟩ : Str).cps.toList == (⟨⟨[97]⟩⟩ : Str).cps.toList) = false := by cases j <;> rfl
theorem ne_d (j j' : Op) (h : j.d ≠ j'.d) : ((⟨⟨[j'.d]⟩⟩ : Str).cps.toList != (⟨⟨[j.d]⟩⟩ : Str).cps.toList) = true := by cases j <;> cases j' <;> first | rfl | exact absurd rfl h
theorem eq_d (j : Op) : ((⟨⟨[j.d]⟩⟩ : Str).cps.toList != (⟨⟨[j.d]⟩⟩ : Str).cps.toList) = false := by cases j <;> rfl
theorem indices_run (a b n : Nat) (hab : a ≤ b) (hb : b ≤ n) : Builtin.Str.strSliceIndices (some (a : Int)) (some (b : Int)) 1 n = (List.range (b - a)).map (a + ·) := by
  unfold Builtin.Str.strSliceIndices
  have h1 : ¬ ((a : Int) < 0) := by omega
  have h2 : ¬ ((b : Int) < 0) := by omega
  simp only [h1, h2, if_false, show (1 : Int) > 0 by decide, if_true]
  rw [show max (0 : Int) (min (a : Int) n) = (a : Int) by omega, show max (0 : Int) (min (b : Int) n) = (b : Int) by omega]
  exact sliceRange_one a b
theorem slice_text (l : List Nat) (a b : Nat) (hab : a ≤ b) (hb : b ≤ l.length) (hl : l.length ≤ 100) : SSliceL ⟨⟨l⟩⟩ (some (a : Int)) (some (b : Int)) ⟨⟨(l.drop a).take (b - a)⟩⟩ (decide (b - a = l.length)) := by
  have hi := indices_run a b (⟨⟨l⟩⟩ : Str).length hab hb
  have hlen : (⟨⟨l⟩⟩ : Str).length = l.length := rfl
  refine ⟨?_, ?_⟩
  · show ((l.drop a).take (b - a)).length ≤ sizeLine
    exact le_line (by simp; omega)
  · by_cases h : b - a = l.length
    · rw [decide_eq_true h]
      refine ⟨?_, ?_⟩
      · have ha : a = 0 := by omega
        subst ha
        rw [h, List.drop_zero, List.take_length]
      · rw [hi]; simp [hlen]; exact h
    · rw [decide_eq_false h]
      refine ⟨?_, ?_⟩
      · rw [hi, pick_run]
      · rw [hi]; simp [hlen]; exact h
section
variable {q : Qd} (Y : Sys (K4 q)) (A : LA)
theorem duTurn (z : Nat) (tx : Str) (tk : Tok) (k : Nat) (pc : Option Nat) (sg : Nat) (hsg : tx.cps[k]? = some sg) {M : DM} {rest : List Frame} (hcs : rest.map (·.where_.1) = [cLawB q.P A, cCaller]) (hR : RestB 300 rest)
    (next : ∀ s' p' (u : Nat), StD (K4 q) (siD z tx tk (k + 1) ++ (enD z .none (k + 1) (some sg) ++ (twoD u k sg ++ M))) [] s' → Y.H s' ⟨tUx (V0 q.P 0) (cDf q.P z) (z + 8) u, cDf q.P z, p', fsU q.P z ++ rest⟩)
    {s : Shared} {pos : Pos} (S : StD (K4 q) (siD z tx tk k ++ (enD z .none k pc ++ M)) [] s) : Y.H s ⟨denF (cDf q.P z), cDf q.P z, pos, fsU q.P z ++ rest⟩ := by
  have S1 := (StD.reord (d' := ((siD z tx tk k ++ enD z .none k pc) ++ M)) S fun a => by simp only [cnt_append, cnt_two, cnt_nil, Nat.add_zero, Nat.zero_add] <;> (try dsimp only [Addr]) <;> with_reducible ac_rfl)
  have h := @DUa q Y A z tx tk k pc sg hsg M s pos rest hcs hR S1
  simp only [DUa_a, DUa_e, SE.cd] at h
  refine h fun i s1 p1 c1 _ _ S2 => ?_
  clear h
  have S3 := (StD.reord (d' := (enD z (.raw (.int (((i.N + 0) : Nat) : Int) 0)) (k + 1) (some sg) ++ (siD z tx tk (k + 1) ++ (twoD (i.N + 0) k sg ++ M)))) S2 fun a => by simp only [cnt_append, cnt_two, cnt_nil, Nat.add_zero, Nat.zero_add] <;> (try dsimp only [Addr]) <;> with_reducible ac_rfl)
  refine Y.own (own_for' (V0 q.P 0) (cDf q.P z) (z + 8) (i.N + 0) (forTup_Df q.P z)) (l := z + 7) (jv := .int (((k + 1 : Nat)) : Int) 0) (ed := .str ⟨⟨[sg]⟩⟩) (d := siD z tx tk (k + 1) ++ (twoD (i.N + 0) k sg ++ M)) S3 fun s2 S4 => ?_
  have S4 : StD (K4 q) (enD z .none (k + 1) (some sg) ++ (siD z tx tk (k + 1) ++ (twoD (i.N + 0) k sg ++ M))) [] s2 := S4
  have S5 := (StD.reord (d' := (siD z tx tk (k + 1) ++ (enD z .none (k + 1) (some sg) ++ (twoD (i.N + 0) k sg ++ M)))) S4 fun a => by simp only [cnt_append, cnt_two, cnt_nil, Nat.add_zero, Nat.zero_add] <;> (try dsimp only [Addr]) <;> with_reducible ac_rfl)
  exact next s2 p1 (i.N + 0) S5
end
end Mine
end
section
set_option linter.unusedVariables false
set_option maxRecDepth 100000
set_option maxHeartbeats 4000000
namespace Mine
open PySem PySem.W PySem.W.X
noncomputable def DuInv (chs : List Ch) (l : List (Op × Tok)) (X : List Ch) (fs : Int) (k : Nat) : Prop := (l = [] ∧ X = []) ∨ (l ≠ [] ∧ ∃ f : Nat, fs = (f : Int) ∧ f < k ∧ X = (chs.drop f).take (k - f))
theorem DuInv.next {chs : List Ch} {l l' : List (Op × Tok)} {X : List Ch} {fs : Int} {k : Nat} {x : Ch} (h : DuInv chs l X fs k) (hl : l ≠ []) (hl' : l' ≠ []) (hx : chs[k]? = some x) : DuInv chs l' (X ++ [x]) fs (k + 1) := by
  rcases h with ⟨h, -⟩ | ⟨-, f, h1, h2, h3⟩
  · exact absurd h hl
  · refine .inr ⟨hl', f, h1, by omega, ?_⟩
    have e : k + 1 - f = (k - f) + 1 := by omega
    rw [e, take_snoc (chs.drop f) (k := k - f) (x := x) (by rw [List.getElem?_drop, show f + (k - f) = k by omega]; exact hx), h3]
theorem sgS_get (chs : List Ch) (k : Nat) : (sgS chs).cps[k]? = chs[k]?.map (·.sg) := by simp [sgS]
section
variable {q : Qd} (Y : Sys (K4 q)) (A : LA) (chs : List Ch)
noncomputable def dhD (z : Nat) (tk : Tok) (pl : Addr) (pls : List (Addr × Ch)) (chs : List Ch) (l : List (Op × Tok)) (fs : Int) (x : Option (Int × Nat)) (k : Nat) (pc : Option Nat) (D : List (Addr × Addr × Res)) : DM :=
  siD z (sgS chs) tk k ++ (enD z .none k pc ++ (duF z (sgS chs) pl fs x ++ (duL z (refsR D) (osA l) ++ ([(pl, .arr c_list (prefs pls))] ++ dueM D))))
theorem dueGo (z : Nat) (tk : Tok) (pl : Addr) (pls : List (Addr × Ch)) (hpl : pls.map (·.2) = chs) (hal : ∀ x ∈ chs, x.sg ∈ alpha) (hlen : chs.length ≤ 14) {R : DM} {rest : List Frame} (hcs : rest.map (·.where_.1) = [cLawB q.P A, cCaller]) (hR : RestB 300 rest) (g : List Res)
    (next : ∀ s' p' c' du (D2 : List (Addr × Addr × Res)), D2.map (·.2.2) = g → (∀ y ∈ D2, PlOk pls y) → StD (K4 q) (([(du, .arr c_list (refsR D2))] : DM) ++ (dueM D2 ++ R)) [] s' → Y.H s' ⟨.pure (.done (.ret (.ref du))), c', p', rest⟩) :
    ∀ (n k : Nat), k + n = chs.length → ∀ (l : List (Op × Tok)) (X : List Ch) (fs : Int) (x : Option (Int × Nat)) (pc : Option Nat) (D : List (Addr × Addr × Res)), DuInv chs l X fs k → l.length ≤ k → D.length ≤ k → (∀ y ∈ D, PlOk pls y) → g = D.map (·.2.2) ++ goR (l.map (·.1)) X (chs.drop k) →
      ∀ {s : Shared} {pos : Pos}, StD (K4 q) (dhD z tk pl pls chs l fs x k pc D ++ R) [] s → Y.H s ⟨denF (cDf q.P z), cDf q.P z, pos, fsU q.P z ++ rest⟩
  | 0, k, hk, l, X, fs, x, pc, D, hI, hl, hD, hP, hg, s, pos, S => by
    obtain rfl : k = chs.length := by omega
    have hno : (sgS chs).cps[chs.length]? = none := by rw [sgS_get, List.getElem?_eq_none (Nat.le_refl _)]; rfl
    rw [List.drop_length] at hg
    cases l with
    | nil =>
      have hg' : D.map (·.2.2) = g := by rw [hg]; exact (List.append_nil _).symm
      have e1 : osA [] = #[] := rfl
      have S1 := (StD.reord (d' := ((duF z (sgS chs) pl fs x ++ (duL z (refsR D) #[] ++ (siD z (sgS chs) tk chs.length ++ enD z .none chs.length pc))) ++ (([(pl, .arr c_list (prefs pls))] : DM) ++ (dueM D ++ R)))) S fun a => by simp only [cnt_append, cnt_two, cnt_nil, Nat.add_zero, Nat.zero_add, dhD, e1] <;> (try dsimp only [Addr]) <;> with_reducible ac_rfl)
      have h := @DUz0 q Y A z (sgS chs) tk pl fs x chs.length pc (refsR D) hno _ s pos rest hcs hR S1
      simp only [DUz0_a, DUz0_e, SE.cd, List.nil_append] at h
      refine h fun i s1 p1 c1 _ _ S2 => ?_
      clear h
      have S3 := (StD.mem_drop (d' := (([(z + 1, .arr c_list (refsR D))] : DM) ++ (dueM D ++ R))) (e := (([(z + 2, .arr c_list #[])] : DM) ++ ([(pl, .arr c_list (prefs pls))] : DM))) S2 fun a => by simp only [cnt_append, cnt_two, cnt_nil, Nat.add_zero, Nat.zero_add, duL] <;> (try dsimp only [Addr]) <;> with_reducible ac_rfl)
      exact next s1 p1 c1 (z + 1) D hg' hP S3
    | cons y l =>
      have hg' : g = D.map (·.2.2) ++ [Res.ref none] := hg
      have S1 := (StD.reord (d' := ((duF z (sgS chs) pl fs x ++ (duL z (refsR D) (osA (y :: l)) ++ (siD z (sgS chs) tk chs.length ++ enD z .none chs.length pc))) ++ (([(pl, .arr c_list (prefs pls))] : DM) ++ (dueM D ++ R)))) S fun a => by simp only [cnt_append, cnt_two, cnt_nil, Nat.add_zero, Nat.zero_add, dhD] <;> (try dsimp only [Addr]) <;> with_reducible ac_rfl)
      have hsz : (osA (y :: l)).size = l.length + 1 := by rw [osA_size]; rfl
      have hs2 : (((l.length + 1) : Nat) : Int) < 2 ^ 63 := by simp only [List.length_cons] at hl; omega
      have hs3 : (refsR D).size + 1 ≤ sizeLine := by rw [refsR_size]; exact le_line (by omega)
      have h := @DUz1 q Y A z (sgS chs) tk pl fs x chs.length pc (refsR D) (osA (y :: l)) l.length hno hsz hs2 hs3 _ s pos rest hcs hR S1
      simp only [DUz1_a, DUz1_e, SE.cd, List.nil_append] at h
      refine h fun i s1 p1 c1 _ _ S2 => ?_
      clear h
      have e1 : refsR D ++ (#[.ref (i.N + 2)] : Array Value) = refsR (D ++ [((i.N + 2, 0, Res.ref none) : Addr × Addr × Res)]) := by rw [← refsR_push]; simp
      have e2 := dueM_push D (i.N + 2, 0, Res.ref none)
      have e3 : dueD (i.N + 2, 0, Res.ref none) = [(i.N + 2, .seq c_tuple [.str sRf, .none])] := rfl
      have S3 := (StD.mem_drop (d' := (([(i.N + 4, .arr c_list (refsR (D ++ [((i.N + 2, 0, Res.ref none) : Addr × Addr × Res)])))] : DM) ++ (dueM (D ++ [((i.N + 2, 0, Res.ref none) : Addr × Addr × Res)]) ++ R))) (e := ([(pl, .arr c_list (prefs pls))] : DM)) S2 fun a => by simp only [cnt_append, cnt_two, cnt_nil, Nat.add_zero, Nat.zero_add, e1, e2, e3, sRf] <;> (try dsimp only [Addr]) <;> with_reducible ac_rfl)
      have q1 : (D ++ [((i.N + 2, 0, Res.ref none) : Addr × Addr × Res)]).map (·.2.2) = g := by rw [hg']; exact g_last D _ _ _
      have q2 : ∀ y ∈ D ++ [(i.N + 2, 0, Res.ref none)], PlOk pls y := fun y hy => by
        rcases List.mem_append.mp hy with h | h
        · exact hP y h
        · cases List.mem_singleton.mp h; trivial
      exact next s1 p1 c1 (i.N + 4) _ q1 q2 S3
  | n + 1, k, hk, l, X, fs, x0, pc, D, hI, hl, hD, hP, hg, s, pos, S => by
    obtain ⟨x, hx⟩ : ∃ x, chs[k]? = some x := ⟨_, List.getElem?_eq_getElem (by omega)⟩
    have hax := hal x (List.mem_of_getElem? hx)
    obtain ⟨⟨pi, x'⟩, hpi, e0⟩ : ∃ y, pls[k]? = some y ∧ y.2 = x := by
      rw [← hpl, List.getElem?_map] at hx
      cases h : pls[k]? with
      | none => rw [h] at hx; cases hx
      | some y => rw [h] at hx; exact ⟨y, rfl, Option.some.inj hx⟩
    have e0 : x' = x := e0
    subst e0
    have hpm : (pi, x') ∈ pls := List.mem_of_getElem? hpi
    have hit : ItemAt (prefs pls) ((k : Nat) : Int) (.ref pi) := prefs_get hpi (by omega)
    rw [drop_cons hx] at hg
    have hsg : (sgS chs).cps[k]? = some x'.sg := by rw [sgS_get, hx]; rfl
    have hsn : (refsR D).size ≤ sizeLine := by rw [refsR_size]; exact le_line (by omega)
    have hsn1 : (refsR D).size + 1 ≤ sizeLine := by rw [refsR_size]; exact le_line (by omega)
    have hos : ∀ l' : List (Op × Tok), l'.length ≤ k → (osA l').size < sizeLine := fun l' h => by rw [osA_size]; exact lt_line (by omega)
    have S0 := (StD.reord (d' := (siD z (sgS chs) tk k ++ (enD z .none k pc ++ (duF z (sgS chs) pl fs x0 ++ (duL z (refsR D) (osA l) ++ (([(pl, .arr c_list (prefs pls))] : DM) ++ (dueM D ++ R))))))) S fun a => by simp only [cnt_append, cnt_two, cnt_nil, Nat.add_zero, Nat.zero_add, dhD] <;> (try dsimp only [Addr]) <;> with_reducible ac_rfl)
    refine duTurn Y A z (sgS chs) tk k pc x'.sg hsg hcs hR (fun s1 p1 u S1 => ?_) S0
    have S2 := (StD.reord (d' := ((duF z (sgS chs) pl fs x0 ++ (duL z (refsR D) (osA l) ++ (enD z .none (k + 1) (some x'.sg) ++ (([(pl, .arr c_list (prefs pls))] : DM) ++ twoD u k x'.sg)))) ++ (siD z (sgS chs) tk (k + 1) ++ (dueM D ++ R)))) S1 fun a => by simp only [cnt_append, cnt_two, cnt_nil, Nat.add_zero, Nat.zero_add] <;> (try dsimp only [Addr]) <;> with_reducible ac_rfl)
    clear S S0 S1
    rcases sgCases x'.sg hax with ⟨j, hj⟩ | ⟨j, hj⟩ | hj | hj
    · cases l with
      | nil =>
        rcases hI with ⟨-, rfl⟩ | ⟨h, -⟩
        · have hg2 : g = D.map (·.2.2) ++ goR [j] [x'] (chs.drop (k + 1)) := by rw [hg]; exact congrArg _ (goR_t3 hj)
          rw [hj] at S2
          have h := @DUo1 q Y A z (sgS chs) pl fs x0 k (refsR D) (prefs pls) u j _ s1 p1 rest hcs hR S2
          simp only [DUo1_a, DUo1_e, SE.cd] at h
          refine h fun i s3 p3 c3 _ _ S3 => ?_
          clear h
          generalize Op.pk (i.T + 14) (i.T + 16) (i.T + 18) j = tj at S3
          have e1 : (#[] : Array Value).push (.str ⟨⟨[j.d]⟩⟩ tj) = osA [(j, tj)] := rfl
          have S4 := (StD.reord (d' := (dhD z tk pl pls chs [(j, tj)] ((k : Nat) : Int) (some (((k : Nat) : Int), j.o)) (k + 1) (some j.o) D ++ R)) S3 fun a => by simp only [cnt_append, cnt_two, cnt_nil, Nat.add_zero, Nat.zero_add, dhD, e1] <;> (try dsimp only [Addr]) <;> with_reducible ac_rfl)
          have q1 : DuInv chs [(j, tj)] [x'] ((k : Nat) : Int) (k + 1) := .inr ⟨by simp, k, rfl, by omega, by rw [drop_cons hx, show k + 1 - k = 1 by omega]; rfl⟩
          exact dueGo z tk pl pls hpl hal hlen hcs hR g next n (k + 1) (by omega) [(j, tj)] [x'] ((k : Nat) : Int) _ _ D q1 (by simp) (by omega) hP hg2 S4
        · exact absurd rfl h
      | cons y l =>
        have hg2 : g = D.map (·.2.2) ++ goR (j :: (y :: l).map (·.1)) (X ++ [x']) (chs.drop (k + 1)) := by rw [hg]; exact congrArg _ (goR_in2 hj)
        rw [hj] at S2
        have h := @DUo0 q Y A z (sgS chs) pl fs x0 k (refsR D) (osA (y :: l)) (prefs pls) u j (by rw [osA_size]; rfl) (Nat.le_of_lt (hos _ hl)) _ s1 p1 rest hcs hR S2
        simp only [DUo0_a, DUo0_e, SE.cd] at h
        refine h fun i s3 p3 c3 _ _ S3 => ?_
        clear h
        generalize Op.pk (i.T + 14) (i.T + 16) (i.T + 18) j = tj at S3
        rw [osA_cons] at S3
        have S4 := (StD.reord (d' := (dhD z tk pl pls chs ((j, tj) :: y :: l) fs (some (((k : Nat) : Int), j.o)) (k + 1) (some j.o) D ++ R)) S3 fun a => by simp only [cnt_append, cnt_two, cnt_nil, Nat.add_zero, Nat.zero_add, dhD] <;> (try dsimp only [Addr]) <;> with_reducible ac_rfl)
        have q1 : DuInv chs ((j, tj) :: y :: l) (X ++ [x']) fs (k + 1) := hI.next (by simp) (by simp) hx
        exact dueGo z tk pl pls hpl hal hlen hcs hR g next n (k + 1) (by omega) ((j, tj) :: y :: l) (X ++ [x']) fs _ _ D q1 (by simp only [List.length_cons] at hl ⊢; omega) (by omega) hP hg2 S4
    · cases l with
      | nil =>
        have hg2 : g = D.map (·.2.2) ++ [Res.ref (some x')] := by
          rw [hg]
          rcases hI with ⟨-, rfl⟩ | ⟨h, -⟩
          · exact congrArg _ (goR_t4 (by rw [hj]; cases j <;> decide) (by rw [hj]; cases j <;> decide) (by rw [hj]; exact d_op j))
          · exact absurd rfl h
        rw [hj] at S2
        have e1 : osA [] = #[] := rfl
        rw [e1] at S2
        have h := @DUc0 q Y A z (sgS chs) pl fs x0 k (refsR D) (prefs pls) u j.d pi (h0_d j) (h1_d j) (inS_cl j) hit hsn1 _ s1 p1 rest hcs hR S2
        simp only [DUc0_a, DUc0_e, SE.cd, List.nil_append] at h
        refine h fun i s3 p3 c3 _ _ S3 => ?_
        clear h
        have e1 : refsR D ++ (#[.ref (i.N + 6)] : Array Value) = refsR (D ++ [(i.N + 6, pi, Res.ref (some x'))]) := by rw [← refsR_push]; simp
        have e2 := dueM_push D (i.N + 6, pi, Res.ref (some x'))
        have e3 : dueD (i.N + 6, pi, Res.ref (some x')) = [(i.N + 6, .seq c_tuple [.str sRf, .ref pi])] := rfl
        have S4 := (StD.mem_drop (d' := (([(i.N + 8, .arr c_list (refsR (D ++ [(i.N + 6, pi, Res.ref (some x'))])))] : DM) ++ (dueM (D ++ [(i.N + 6, pi, Res.ref (some x'))]) ++ R))) (e := (([(pl, .arr c_list (prefs pls))] : DM) ++ siD z (sgS chs) tk (k + 1))) S3 fun a => by simp only [cnt_append, cnt_two, cnt_nil, Nat.add_zero, Nat.zero_add, e1, e2, e3, sRf] <;> (try dsimp only [Addr]) <;> with_reducible ac_rfl)
        have q1 : (D ++ [(i.N + 6, pi, Res.ref (some x'))]).map (·.2.2) = g := by rw [hg2]; exact g_last D _ _ _
        have q2 : ∀ y ∈ D ++ [(i.N + 6, pi, Res.ref (some x'))], PlOk pls y := fun y hy => by
          rcases List.mem_append.mp hy with h | h
          · exact hP y h
          · cases List.mem_singleton.mp h; exact hpm
        exact next s3 p3 c3 (i.N + 8) _ q1 q2 S4
      | cons y l =>
        obtain ⟨jt, tt⟩ := y
        rw [← osA_cons] at S2
        have hl2 : (osA l).size < sizeLine := hos l (by simp only [List.length_cons] at hl; omega)
        by_cases hjj : j.d = jt.d
        · have hxd : x'.sg = jt.d := hj.trans hjj
          rw [hxd] at S2
          cases l with
          | nil =>
            rcases hI with ⟨h, -⟩ | ⟨-, f, hf1, hf2, hf3⟩
            · exact absurd h (by simp)
            · have hg2 : g = D.map (·.2.2) ++ (Res.tok sGrp (X ++ [x']) :: goR [] [] (chs.drop (k + 1))) := by rw [hg]; exact congrArg _ (goR_in3 hxd)
              obtain ⟨xf, hxf⟩ : ∃ x, chs[f]? = some x := ⟨_, List.getElem?_eq_getElem (by omega)⟩
              obtain ⟨⟨pf, xf'⟩, hpf, e9⟩ : ∃ y, pls[f]? = some y ∧ y.2 = xf := by
                rw [← hpl, List.getElem?_map] at hxf
                cases h : pls[f]? with
                | none => rw [h] at hxf; cases hxf
                | some y => rw [h] at hxf; exact ⟨y, rfl, Option.some.inj hxf⟩
              have e9 : xf' = xf := e9
              subst e9
              have hX2 : X ++ [x'] = (chs.drop f).take (k + 1 - f) := by
                rw [show k + 1 - f = (k - f) + 1 by omega, take_snoc (chs.drop f) (k := k - f) (x := x') (by rw [List.getElem?_drop, show f + (k - f) = k by omega]; exact hx), hf3]
              have hX0 : (X ++ [x'])[0]? = some xf' := by
                rw [hX2, List.getElem?_take, if_pos (by omega), List.getElem?_drop]
                exact hxf
              have hsl := slice_text (chs.map (·.sg)) f (k + 1) (by omega) (by rw [List.length_map]; omega) (by rw [List.length_map]; omega)
              have hy : (⟨⟨((chs.map (·.sg)).drop f).take (k + 1 - f)⟩⟩ : Str) = sgS (X ++ [x']) := by
                rw [hX2]; unfold sgS; rw [List.map_take, List.map_drop]
              rw [hy, ← hf1, show (((k + 1 : Nat)) : Int) = ((k : Nat) : Int) + 1 by omega] at hsl
              generalize hwh : decide (k + 1 - f = (chs.map (·.sg)).length) = wh at hsl
              have hitf : ItemAt (prefs pls) fs (.ref pf) := by rw [hf1]; exact prefs_get hpf (by omega)
              have h := @DUc3 q Y A z (sgS chs) pl fs x0 k (refsR D) (osA []) (prefs pls) u jt.d jt.d tt (sgS (X ++ [x'])) wh pf (h0_d jt) (h1_d jt) (inS_cl jt) hl2 (eq_d jt) rfl hsl hitf hsn _ s1 p1 rest hcs hR S2
              simp only [DUc3_a, DUc3_e, SE.cd] at h
              refine h fun i s3 p3 c3 _ _ S3 => ?_
              clear h
              have e1 : (refsR D).push (.ref (i.N + 8)) = refsR (D ++ [(i.N + 8, pf, Res.tok sGrp (X ++ [x']))]) := refsR_push D (i.N + 8, pf, Res.tok sGrp (X ++ [x']))
              have e2 := dueM_push D (i.N + 8, pf, Res.tok sGrp (X ++ [x']))
              have e3 : dueD (i.N + 8, pf, Res.tok sGrp (X ++ [x'])) = [(i.N + 8, .seq c_tuple [.str ⟨⟨[103, 114, 111, 117, 112]⟩⟩, .str (sgS (X ++ [x'])), .ref pf])] := rfl
              have S4 := (StD.reord (d' := (dhD z tk pl pls chs [] fs (some (((k : Nat) : Int), jt.d)) (k + 1) (some jt.d) (D ++ [(i.N + 8, pf, Res.tok sGrp (X ++ [x']))]) ++ R)) S3 fun a => by simp only [cnt_append, cnt_two, cnt_nil, Nat.add_zero, Nat.zero_add, dhD, e1, e2, e3] <;> (try dsimp only [Addr]) <;> with_reducible ac_rfl)
              have q1 : DuInv chs [] [] fs (k + 1) := .inl ⟨rfl, rfl⟩
              have q2 : ∀ y ∈ D ++ [(i.N + 8, pf, Res.tok sGrp (X ++ [x']))], PlOk pls y := fun y hy => by
                rcases List.mem_append.mp hy with h | h
                · exact hP y h
                · cases List.mem_singleton.mp h; exact ⟨xf', hX0, List.mem_of_getElem? hpf⟩
              have q3 : g = (D ++ [(i.N + 8, pf, Res.tok sGrp (X ++ [x']))]).map (·.2.2) ++ goR (([] : List (Op × Tok)).map (·.1)) [] (chs.drop (k + 1)) := by rw [hg2]; exact g_step D _ _ _ _
              exact dueGo z tk pl pls hpl hal hlen hcs hR g next n (k + 1) (by omega) [] [] fs _ _ _ q1 (by simp) (by rw [List.length_append]; simp only [List.length_singleton]; omega) q2 q3 S4
          | cons y2 l =>
            have hg2 : g = D.map (·.2.2) ++ goR ((y2 :: l).map (·.1)) (X ++ [x']) (chs.drop (k + 1)) := by rw [hg]; exact congrArg _ (goR_in4 hxd)
            have h := @DUc2 q Y A z (sgS chs) pl fs x0 k (refsR D) (osA (y2 :: l)) (prefs pls) u jt.d jt.d tt (h0_d jt) (h1_d jt) (inS_cl jt) hl2 (eq_d jt) (by rw [osA_size]; rfl) _ s1 p1 rest hcs hR S2
            simp only [DUc2_a, DUc2_e, SE.cd] at h
            refine h fun i s3 p3 c3 _ _ S3 => ?_
            clear h
            have S4 := (StD.reord (d' := (dhD z tk pl pls chs (y2 :: l) fs (some (((k : Nat) : Int), jt.d)) (k + 1) (some jt.d) D ++ R)) S3 fun a => by simp only [cnt_append, cnt_two, cnt_nil, Nat.add_zero, Nat.zero_add, dhD] <;> (try dsimp only [Addr]) <;> with_reducible ac_rfl)
            have q1 : DuInv chs (y2 :: l) (X ++ [x']) fs (k + 1) := hI.next (by simp) (by simp) hx
            exact dueGo z tk pl pls hpl hal hlen hcs hR g next n (k + 1) (by omega) (y2 :: l) (X ++ [x']) fs _ _ D q1 (by simp only [List.length_cons] at hl ⊢; omega) (by omega) hP hg2 S4
        · have hg2 : g = D.map (·.2.2) ++ [Res.ref (some x')] := by
            rw [hg]
            exact congrArg _ (goR_in5 (by rw [hj]; exact d_ne j) (by rw [hj]; exact d_op j) (by rw [hj]; exact hjj))
          rw [hj] at S2
          have h := @DUc1 q Y A z (sgS chs) pl fs x0 k (refsR D) (osA l) (prefs pls) u j.d jt.d tt pi (h0_d j) (h1_d j) (inS_cl j) hl2 (ne_d j jt hjj) hit hsn1 _ s1 p1 rest hcs hR S2
          simp only [DUc1_a, DUc1_e, SE.cd, List.nil_append] at h
          refine h fun i s3 p3 c3 _ _ S3 => ?_
          clear h
          have e1 : refsR D ++ (#[.ref (i.N + 6)] : Array Value) = refsR (D ++ [(i.N + 6, pi, Res.ref (some x'))]) := by rw [← refsR_push]; simp
          have e2 := dueM_push D (i.N + 6, pi, Res.ref (some x'))
          have e3 : dueD (i.N + 6, pi, Res.ref (some x')) = [(i.N + 6, .seq c_tuple [.str sRf, .ref pi])] := rfl
          have S4 := (StD.mem_drop (d' := (([(i.N + 8, .arr c_list (refsR (D ++ [(i.N + 6, pi, Res.ref (some x'))])))] : DM) ++ (dueM (D ++ [(i.N + 6, pi, Res.ref (some x'))]) ++ R))) (e := (([(pl, .arr c_list (prefs pls))] : DM) ++ siD z (sgS chs) tk (k + 1))) S3 fun a => by simp only [cnt_append, cnt_two, cnt_nil, Nat.add_zero, Nat.zero_add, e1, e2, e3, sRf] <;> (try dsimp only [Addr]) <;> with_reducible ac_rfl)
          have q1 : (D ++ [(i.N + 6, pi, Res.ref (some x'))]).map (·.2.2) = g := by rw [hg2]; exact g_last D _ _ _
          have q2 : ∀ y ∈ D ++ [(i.N + 6, pi, Res.ref (some x'))], PlOk pls y := fun y hy => by
            rcases List.mem_append.mp hy with h | h
            · exact hP y h
            · cases List.mem_singleton.mp h; exact hpm
          exact next s3 p3 c3 (i.N + 8) _ q1 q2 S4
    · rw [hj] at S2
      cases l with
      | nil =>
        have hg2 : g = D.map (·.2.2) ++ (Res.tok sLet [x'] :: goR [] [] (chs.drop (k + 1))) := by
          rw [hg]
          rcases hI with ⟨-, rfl⟩ | ⟨h, -⟩
          · exact congrArg _ (goR_t2 hj)
          · exact absurd rfl h
        have e1 : osA [] = #[] := rfl
        rw [e1] at S2
        have h := @DUl q Y A z (sgS chs) pl fs x0 k (refsR D) (prefs pls) u 97 pi h0_97 rfl hit hsn _ s1 p1 rest hcs hR S2
        simp only [DUl_a, DUl_e, SE.cd] at h
        refine h fun i s3 p3 c3 _ _ S3 => ?_
        clear h
        have e4 : sgS [x'] = ⟨⟨[97]⟩⟩ := by show (⟨⟨[x'.sg]⟩⟩ : Str) = _; rw [hj]
        have e2 : (refsR D).push (.ref (i.N + 6)) = refsR (D ++ [(i.N + 6, pi, Res.tok sLet [x'])]) := refsR_push D (i.N + 6, pi, Res.tok sLet [x'])
        have e3 := dueM_push D (i.N + 6, pi, Res.tok sLet [x'])
        have e5 : dueD (i.N + 6, pi, Res.tok sLet [x']) = [(i.N + 6, .seq c_tuple [.str ⟨⟨[108, 101, 116, 116, 101, 114]⟩⟩, .str ⟨⟨[97]⟩⟩, .ref pi])] := by rw [← e4]; rfl
        have S4 := (StD.reord (d' := (dhD z tk pl pls chs [] fs (some (((k : Nat) : Int), 97)) (k + 1) (some 97) (D ++ [(i.N + 6, pi, Res.tok sLet [x'])]) ++ R)) S3 fun a => by simp only [cnt_append, cnt_two, cnt_nil, Nat.add_zero, Nat.zero_add, dhD, e1, e2, e3, e5] <;> (try dsimp only [Addr]) <;> with_reducible ac_rfl)
        have q1 : DuInv chs [] [] fs (k + 1) := .inl ⟨rfl, rfl⟩
        have q2 : ∀ y ∈ D ++ [(i.N + 6, pi, Res.tok sLet [x'])], PlOk pls y := fun y hy => by
          rcases List.mem_append.mp hy with h | h
          · exact hP y h
          · cases List.mem_singleton.mp h; exact ⟨x', rfl, hpm⟩
        have q3 : g = (D ++ [(i.N + 6, pi, Res.tok sLet [x'])]).map (·.2.2) ++ goR (([] : List (Op × Tok)).map (·.1)) [] (chs.drop (k + 1)) := by rw [hg2]; exact g_step D _ _ _ _
        exact dueGo z tk pl pls hpl hal hlen hcs hR g next n (k + 1) (by omega) [] [] fs _ _ _ q1 (by simp) (by rw [List.length_append]; simp only [List.length_singleton]; omega) q2 q3 S4
      | cons y l =>
        have hg2 : g = D.map (·.2.2) ++ goR ((y :: l).map (·.1)) (X ++ [x']) (chs.drop (k + 1)) := by rw [hg]; exact congrArg _ (goR_in1 (.inl hj))
        have h := @DUna q Y A z (sgS chs) pl fs x0 k (refsR D) (osA (y :: l)) (prefs pls) u 97 h0_97 rfl (by rw [osA_size]; rfl) inS_cl1 _ s1 p1 rest hcs hR S2
        simp only [DUna_a, DUna_e, SE.cd] at h
        refine h fun i s3 p3 c3 _ _ S3 => ?_
        clear h
        have S4 := (StD.reord (d' := (dhD z tk pl pls chs (y :: l) fs (some (((k : Nat) : Int), 97)) (k + 1) (some 97) D ++ R)) S3 fun a => by simp only [cnt_append, cnt_two, cnt_nil, Nat.add_zero, Nat.zero_add, dhD] <;> (try dsimp only [Addr]) <;> with_reducible ac_rfl)
        have q1 : DuInv chs (y :: l) (X ++ [x']) fs (k + 1) := hI.next (by simp) (by simp) hx
        exact dueGo z tk pl pls hpl hal hlen hcs hR g next n (k + 1) (by omega) (y :: l) (X ++ [x']) fs _ _ D q1 (by omega) (by omega) hP hg2 S4
    · rw [hj] at S2
      have h := @DUns q Y A z (sgS chs) pl fs x0 k (refsR D) (osA l) (prefs pls) u 32 h0_32 rfl inS_cl2 _ s1 p1 rest hcs hR S2
      simp only [DUns_a, DUns_e, SE.cd] at h
      refine h fun i s3 p3 c3 _ _ S3 => ?_
      clear h
      have S4 := (StD.reord (d' := (dhD z tk pl pls chs l fs (some (((k : Nat) : Int), 32)) (k + 1) (some 32) D ++ R)) S3 fun a => by simp only [cnt_append, cnt_two, cnt_nil, Nat.add_zero, Nat.zero_add, dhD] <;> (try dsimp only [Addr]) <;> with_reducible ac_rfl)
      cases l with
      | nil =>
        have hg2 : g = D.map (·.2.2) ++ goR (([] : List (Op × Tok)).map (·.1)) [] (chs.drop (k + 1)) := by
          rw [hg]
          rcases hI with ⟨-, rfl⟩ | ⟨h, -⟩
          · exact congrArg _ (goR_t1 hj)
          · exact absurd rfl h
        have q1 : DuInv chs [] [] fs (k + 1) := .inl ⟨rfl, rfl⟩
        exact dueGo z tk pl pls hpl hal hlen hcs hR g next n (k + 1) (by omega) [] [] fs _ _ D q1 (by simp) (by omega) hP hg2 S4
      | cons y l =>
        have hg2 : g = D.map (·.2.2) ++ goR ((y :: l).map (·.1)) (X ++ [x']) (chs.drop (k + 1)) := by rw [hg]; exact congrArg _ (goR_in1 (.inr hj))
        have q1 : DuInv chs (y :: l) (X ++ [x']) fs (k + 1) := hI.next (by simp) (by simp) hx
        exact dueGo z tk pl pls hpl hal hlen hcs hR g next n (k + 1) (by omega) (y :: l) (X ++ [x']) fs _ _ D q1 (by omega) (by omega) hP hg2 S4
end
end Mine
end
section
set_option linter.unusedVariables false
set_option maxRecDepth 100000
set_option maxHeartbeats 2000000
namespace Mine
open PySem PySem.W PySem.W.X PySem.SeqAt
section
variable {prog : Program} {w : World}
theorem comes_of_any {s : Shared} {code : Code} {rv : Result} {p0 p : Pos} {k : Result → Sem Fin} {hd : Option Value} {g : Bool} {l : List Value} {c : Code} {st : List Frame}
    (hu : unitsOf ((.ret k hd g l c p [] :: st : List Frame).map Frame.where_) < 5000)
    (h : ∀ (A : Around) (R : Result → Shared → Prop), A.units < 5000 → R rv s → codeAny (model prog w) A code R s) :
    Comes (model prog w) s ⟨(model prog w).den code, code, p0, .ret k hd g l c p [] :: st⟩ s ⟨k rv, c, p, st⟩ := by
  let base : List Frame := .ret k hd g l c p [] :: st
  let Γ : Ctx := Ctx.of code base
  let A : Around := ⟨Γ.handled, frameCount Γ.below, none, none, unitsOf Γ.below⟩
  have hb : Γ.Below A := ⟨rfl, Nat.le_refl _, (fun _ h => by cases h), (fun _ h => by cases h), Nat.le_refl _⟩
  have hw := h A (fun r s' => r = rv ∧ s' = s) hu ⟨rfl, rfl⟩ Γ p0 rfl hb
  have hw' := (wpCode_iff_wp ..).mp hw
  obtain ⟨n, r, s', c', p', hn, hr, hx⟩ := wp_runN (base := base) (c := code) hw'
  subst hr hx
  refine ⟨n + 1, ?_⟩
  have := runN_snoc hn
  rw [step_leaf_ret] at this
  exact this
theorem eqLst {A : Around} {s : Shared} {l b : Addr} {xs ys : Array Value} {n m : Nat} {R : Result → Shared → Prop} (hu : A.units < 5000) (h1 : s.heap.get? l = some (listO xs n)) (h2 : s.heap.get? b = some (listO ys m)) (hsz : xs.size = ys.size)
    (he : ∀ (j : Nat) (h1 : j < xs.size) (h2 : j < ys.size) (A : Around), A.units < 6000 → EqAt A s xs[j] ys[j] true)
    (hR : R (.ok (.ret (.bool true))) s) : codeAny (model prog w) A (callB "list.__eq__" [.ref l, .ref b]) R s := by
  have hT : s.TypeIs (.ref l) "list" := ⟨_, h1, rfl⟩
  refine codeAny_call_builtin F.slot_list_eq.plain F.entry_list_eq (F.slot_list_eq.check _ _ _ _ _ _ _ _ hT (F.args_list_eq_2 _ _) ?_)
  refine list_eqAt l b xs ys n m none none #[] #[] hsz (fun _ => true) prog w A R s ⟨h1, h2, fun j q1 q2 => ?_, ?_⟩
  · exact he j q1 q2 _ (by show A.units + 1 < 6000; omega)
  · have e : ((List.range xs.size).all fun _ => true) = true := by simp
    rw [e]; exact hR
end
theorem StD.apart {K : Top} {d : DM} {gm : GMem} {s : Shared} (S : StD K d gm s) : (d.map (·.1)).Nodup := by
  obtain ⟨mem, F, S⟩ := S
  have : d.map (·.1) = mem.map (·.1) := by
    clear S
    induction F with
    | nil => rfl
    | cons τ n _ ih => simp only [List.map_cons, ih]
  rw [this]; exact S.nodup
theorem StD.neq {K : Top} {d e : DM} {gm : GMem} {s : Shared} (S : StD K (d ++ e) gm s) {a b : Addr} {o o' : OD} (h1 : (a, o) ∈ d) (h2 : (b, o') ∈ e) : a ≠ b := by
  have h := S.apart
  rw [List.map_append] at h
  exact (List.nodup_append.mp h).2.2 a (List.mem_map_of_mem (f := fun x : Addr × OD => x.1) h1) b (List.mem_map_of_mem (f := fun x : Addr × OD => x.1) h2)
theorem Sys.eqLst {K : Top} (Y : Sys K) {d : DM} {gm : GMem} {s : Shared} (S : StD K d gm s) {l b : Addr} {xs ys : Array Value} (h1 : (l, .arr c_list xs) ∈ d) (h2 : (b, .arr c_list ys) ∈ d) (hsz : xs.size = ys.size)
    (he : ∀ (j : Nat) (h1 : j < xs.size) (h2 : j < ys.size) (A : Around), A.units < 6000 → EqAt A s xs[j] ys[j] true)
    {p0 p : Pos} {k : Result → Sem Fin} {hd : Option Value} {g : Bool} {lv : List Value} {c : Code} {st : List Frame} (hu : unitsOf ((.ret k hd g lv c p [] :: st : List Frame).map Frame.where_) < 5000)
    (next : Y.H s ⟨k (.ok (.ret (.bool true))), c, p, st⟩) : Y.H s ⟨denF (callB "list.__eq__" [.ref l, .ref b]), callB "list.__eq__" [.ref l, .ref b], p0, .ret k hd g lv c p [] :: st⟩ := by
  obtain ⟨τ, n, g1⟩ := S.get h1
  obtain ⟨σ, m, g2⟩ := S.get h2
  refine Y.back ?_ next
  have := comes_of_any (prog := K.prog) (w := K.w) (s := s) (code := callB "list.__eq__" [.ref l, .ref b]) (rv := .ok (.ret (.bool true))) (k := k) (hd := hd) (g := g) (l := lv) (c := c) (p0 := p0) (p := p) (st := st) hu fun A R hA hR => Mine.eqLst hA g1 g2 hsz he hR
  have e : (model K.prog K.w).den = denF := denF_eq
  rw [e] at this; exact this
noncomputable def t4O (f : Str) (x y z : Int) (τ : Nat → Tok) (n : Nat) : Obj := ⟨.type c_tuple, none, .seq ⟨[.str f (τ 0), .int x (τ 1), .int y (τ 2), .int z (τ 3)]⟩ n, #[]⟩
noncomputable def t3O (a b : Str) (l : Addr) (τ : Nat → Tok) (n : Nat) : Obj := ⟨.type c_tuple, none, .seq ⟨[.str a (τ 0), .str b (τ 1), .ref l]⟩ n, #[]⟩
noncomputable def t2O (a : Str) (v : Value) (τ : Nat → Tok) (n : Nat) : Obj := ⟨.type c_tuple, none, .seq ⟨[.str a (τ 0), v]⟩ n, #[]⟩
theorem eq4 {A : Around} {s : Shared} {u v : Addr} {f : Str} {x y z : Int} {τ σ : Nat → Tok} {n m : Nat} (hne : u ≠ v) (hu : A.units < cLine) (h1 : s.heap.get? u = some (t4O f x y z τ n)) (h2 : s.heap.get? v = some (t4O f x y z σ m)) : EqAt A s (.ref u) (.ref v) true := by
  refine EqAt.of_refs hne ?_
  have := RcAt.tuples (A := A) (s := s) (l := u) (b := v) (items := ⟨[.str f (τ 0), .int x (τ 1), .int y (τ 2), .int z (τ 3)]⟩) (items2 := ⟨[.str f (σ 0), .int x (σ 1), .int y (σ 2), .int z (σ 3)]⟩)
    (e := fun _ => true) ⟨_, h1, rfl, _, rfl⟩ ⟨_, h2, rfl, _, rfl⟩ hu ?_
  · exact this
  · intro j h1 h2
    have hj : j = 0 ∨ j = 1 ∨ j = 2 ∨ j = 3 := by have : j < 4 := h1; omega
    rcases hj with rfl | rfl | rfl | rfl
    · simpa using EqAt.str_str (A := A.in1) (s := s) f (τ 0) f (σ 0)
    · simpa using EqAt.int_int (A := A.in1) (s := s) x (τ 1) x (σ 1)
    · simpa using EqAt.int_int (A := A.in1) (s := s) y (τ 2) y (σ 2)
    · simpa using EqAt.int_int (A := A.in1) (s := s) z (τ 3) z (σ 3)
theorem eq3 {A : Around} {s : Shared} {u v l b : Addr} {x y : Str} {τ σ : Nat → Tok} {n m : Nat} (hne : u ≠ v) (hu : A.units < cLine) (h1 : s.heap.get? u = some (t3O x y l τ n)) (h2 : s.heap.get? v = some (t3O x y b σ m)) (h : EqAt A.in1 s (.ref l) (.ref b) true) : EqAt A s (.ref u) (.ref v) true := by
  refine EqAt.of_refs hne ?_
  have := RcAt.tuples (A := A) (s := s) (l := u) (b := v) (items := ⟨[.str x (τ 0), .str y (τ 1), .ref l]⟩) (items2 := ⟨[.str x (σ 0), .str y (σ 1), .ref b]⟩)
    (e := fun _ => true) ⟨_, h1, rfl, _, rfl⟩ ⟨_, h2, rfl, _, rfl⟩ hu ?_
  · exact this
  · intro j h1 h2
    have hj : j = 0 ∨ j = 1 ∨ j = 2 := by have : j < 3 := h1; omega
    rcases hj with rfl | rfl | rfl
    · simpa using EqAt.str_str (A := A.in1) (s := s) x (τ 0) x (σ 0)
    · simpa using EqAt.str_str (A := A.in1) (s := s) y (τ 1) y (σ 1)
    · exact h
theorem eq2 {A : Around} {s : Shared} {u v : Addr} {v1 v2 : Value} {x : Str} {τ σ : Nat → Tok} {n m : Nat} (hne : u ≠ v) (hu : A.units < cLine) (h1 : s.heap.get? u = some (t2O x v1 τ n)) (h2 : s.heap.get? v = some (t2O x v2 σ m)) (h : EqAt A.in1 s v1 v2 true) : EqAt A s (.ref u) (.ref v) true := by
  refine EqAt.of_refs hne ?_
  have := RcAt.tuples (A := A) (s := s) (l := u) (b := v) (items := ⟨[.str x (τ 0), v1]⟩) (items2 := ⟨[.str x (σ 0), v2]⟩)
    (e := fun _ => true) ⟨_, h1, rfl, _, rfl⟩ ⟨_, h2, rfl, _, rfl⟩ hu ?_
  · exact this
  · intro j h1 h2
    have hj : j = 0 ∨ j = 1 := by have : j < 2 := h1; omega
    rcases hj with rfl | rfl
    · simpa using EqAt.str_str (A := A.in1) (s := s) x (τ 0) x (σ 0)
    · exact h
noncomputable def plM (pls : List (Addr × Ch)) : DM := pls.flatMap fun y => plT y.1 y.2.f y.2.x y.2.y y.2.z
theorem plM_in {pls : List (Addr × Ch)} {y : Addr × Ch} (h : y ∈ pls) : (y.1, OD.seq c_tuple [.str y.2.f, .int y.2.x, .int y.2.y, .int y.2.z]) ∈ plM pls :=
  List.mem_flatMap.mpr ⟨y, h, List.mem_cons_self ..⟩
theorem flat_in {f : Addr × Addr × Res → DM} {D : List (Addr × Addr × Res)} {x : Addr × Addr × Res} {e : Addr × OD} (h : x ∈ D) (he : e ∈ f x) : e ∈ D.flatMap f := List.mem_flatMap.mpr ⟨x, h, he⟩
theorem eqRes {K : Top} {D E : List (Addr × Addr × Res)} {pls : List (Addr × Ch)} {gm : GMem} {s : Shared} (S : StD K (resM D ++ (dueM E ++ plM pls)) gm s) {u l u' l' : Addr} {r : Res} (h1 : (u, l, r) ∈ D) (h2 : (u', l', r) ∈ E) (hp : PlOk pls (u', l', r))
    {A : Around} (hA : A.units < 6000) : EqAt A s (.ref u) (.ref u') true := by
  have hA1 : A.units < cLine := by show A.units < 9900; omega
  have hA2 : A.in1.units < cLine := by show A.units + 1 < 9900; omega
  have m1 : ∀ {e : Addr × OD}, e ∈ resD (u, l, r) → e ∈ resM D := fun he => flat_in h1 he
  have m2 : ∀ {e : Addr × OD}, e ∈ dueD (u', l', r) → e ∈ dueM E ++ plM pls := fun he => List.mem_append_left _ (flat_in h2 he)
  have S' : StD K (resM D ++ (dueM E ++ plM pls)) gm s := S
  cases r with
  | tok nm X =>
    obtain ⟨x, hx, hpl⟩ := hp
    have e1 := resD_tok u l nm hx
    have a1 : (u, OD.seq c_tuple [.str nm, .str (sgS X), .ref l]) ∈ resM D := m1 (by rw [e1]; exact List.mem_append_left _ (List.mem_cons_self ..))
    have a2 : (l, OD.seq c_tuple [.str x.f, .int x.x, .int x.y, .int x.z]) ∈ resM D := m1 (by rw [e1]; exact List.mem_append_right _ (List.mem_cons_self ..))
    have b1 : (u', OD.seq c_tuple [.str nm, .str (sgS X), .ref l']) ∈ dueM E ++ plM pls := m2 (List.mem_cons_self ..)
    have b2 : (l', OD.seq c_tuple [.str x.f, .int x.x, .int x.y, .int x.z]) ∈ dueM E ++ plM pls := List.mem_append_right _ (plM_in hpl)
    obtain ⟨τ1, n1, g1⟩ := S.get (List.mem_append_left _ a1)
    obtain ⟨τ2, n2, g2⟩ := S.get (List.mem_append_left _ a2)
    obtain ⟨τ3, n3, g3⟩ := S.get (List.mem_append_right _ b1)
    obtain ⟨τ4, n4, g4⟩ := S.get (List.mem_append_right _ b2)
    exact eq3 (S.neq a1 b1) hA1 g1 g3 (eq4 (S.neq a2 b2) hA2 g2 g4)
  | ref loc =>
    cases loc with
    | none =>
      have a1 : (u, OD.seq c_tuple [.str sRf, .none]) ∈ resM D := m1 (List.mem_cons_self ..)
      have b1 : (u', OD.seq c_tuple [.str sRf, .none]) ∈ dueM E ++ plM pls := m2 (List.mem_cons_self ..)
      obtain ⟨τ1, n1, g1⟩ := S.get (List.mem_append_left _ a1)
      obtain ⟨τ3, n3, g3⟩ := S.get (List.mem_append_right _ b1)
      exact eq2 (S.neq a1 b1) hA1 g1 g3 (EqAt.same _)
    | some x =>
      have hpl : (l', x) ∈ pls := hp
      have a1 : (u, OD.seq c_tuple [.str sRf, .ref l]) ∈ resM D := m1 (List.mem_cons_self ..)
      have a2 : (l, OD.seq c_tuple [.str x.f, .int x.x, .int x.y, .int x.z]) ∈ resM D := m1 (List.mem_append_right [(u, OD.seq c_tuple [.str sRf, .ref l])] (List.mem_cons_self ..))
      have b1 : (u', OD.seq c_tuple [.str sRf, .ref l']) ∈ dueM E ++ plM pls := m2 (List.mem_cons_self ..)
      have b2 : (l', OD.seq c_tuple [.str x.f, .int x.x, .int x.y, .int x.z]) ∈ dueM E ++ plM pls := List.mem_append_right _ (plM_in hpl)
      obtain ⟨τ1, n1, g1⟩ := S.get (List.mem_append_left _ a1)
      obtain ⟨τ2, n2, g2⟩ := S.get (List.mem_append_left _ a2)
      obtain ⟨τ3, n3, g3⟩ := S.get (List.mem_append_right _ b1)
      obtain ⟨τ4, n4, g4⟩ := S.get (List.mem_append_right _ b2)
      exact eq2 (S.neq a1 b1) hA1 g1 g3 (eq4 (S.neq a2 b2) hA2 g2 g4)
end Mine
end
section
set_option linter.unusedVariables false
set_option maxRecDepth 100000
set_option maxHeartbeats 2000000
namespace Mine
open PySem PySem.W PySem.W.X PySem.SeqAt
abbrev CallF := (Result → Sem Fin) × Pos
noncomputable def fCall (k6 : CallF) : Frame := .ret k6.1 none false [] cCaller k6.2 []
theorem fCall_cs (k6 : CallF) : [fCall k6].map (·.where_.1) = [cCaller] := rfl
theorem fCall_1 (k6 : CallF) : topHandled [fCall k6] = none := by kernel_rfl
theorem fCall_2 (k6 : CallF) : topHandled.go true [fCall k6] = none := by kernel_rfl
theorem fCall_3 (k6 : CallF) : Nat.ble (wts ([fCall k6].map Frame.where_)) 1 = true := by kernel_rfl
theorem fCall_ok (k6 : CallF) : RestB 1 [fCall k6] := ⟨fCall_1 k6, fCall_2 k6, Nat.le_of_ble_eq_true (fCall_3 k6)⟩
theorem fsL3_cs (P : Params) (A : LA) (z se : Nat) : (fsL3 P A.l0 z se).map (·.where_.1) = [cLawB P A] := by kernel_rfl
theorem nf_L31 (P : Params) (l0 z se : Nat) (rest : List Frame) : topHandled (fsL3 P l0 z se ++ rest) = topHandled rest := by kernel_rfl
theorem nf_L32 (P : Params) (l0 z se : Nat) (rest : List Frame) : topHandled.go true (fsL3 P l0 z se ++ rest) = topHandled.go true rest := by kernel_rfl
theorem nf_L33 (P : Params) (l0 z se : Nat) : wts ((fsL3 P l0 z se).map Frame.where_) = 1 := by kernel_rfl
theorem nf_L3 (P : Params) (l0 z se : Nat) : NF (fsL3 P l0 z se) := nf_of (nf_L31 P l0 z se) (nf_L32 P l0 z se) (one_le_two (nf_L33 P l0 z se))
noncomputable def r4 (P : Params) (l0 z se du : Nat) : RF := rfOf (fsL4 P l0 z se du)
theorem fsL4_is (P : Params) (l0 z se du : Nat) : fsL4 P l0 z se du = [(r4 P l0 z se du).fr (frC (fsL4 P l0 z se du))] := by kernel_rfl
theorem fsL4_u (P : Params) (l0 z se du : Nat) (k6 : CallF) : Nat.blt (unitsOf ((fsL4 P l0 z se du ++ [fCall k6]).map Frame.where_)) 5000 = true := by kernel_rfl
noncomputable def LY_a (q : Qd) (l0 z se du : Addr) : SG := ⟨1, (r4 q.P l0 z se du).k (.ok (.ret (.bool true))), frC (fsL4 q.P l0 z se du), [], [], [], [], []⟩
noncomputable def LY_e (i : In) : SE := ⟨.pure (.done (.ret (.bool true))), none, [], [], []⟩
theorem LY_r (q : Qd) (l0 z se du : Addr) : RunsC (K4 q) [cCaller] (LY_a q l0 z se du) (fun _ => []) (fun _ => []) LY_e := by
  intro f i; kernel_rfl
theorem LY {q : Qd} (Y : Sys (K4 q)) (l0 z se du : Addr) : SegC Y [cCaller] (LY_a q l0 z se du) LY_e :=
  Y.segC (LY_r q l0 z se du) (show List.Nodup [] by decide) (fun i hN => AllOk.nil)
theorem ascii_of {chs : List Ch} (hal : ∀ x ∈ chs, x.sg ∈ alpha) : (sgS chs).cps.all (· < 128) = true := by
  have h : ∀ c ∈ alpha, decide (c < 128) = true := by decide
  show (⟨chs.map (·.sg)⟩ : Array Nat).all (· < 128) = true
  rw [← Array.all_toList, List.all_eq_true]
  intro c hc
  obtain ⟨x, hx, rfl⟩ := List.mem_map.mp hc
  exact h _ (hal x hx)
section
variable {q : Qd} (Y : Sys (K4 q)) (A : LA) (chs : List Ch)
theorem dueAll (tk : Tok) (pl : Addr) (pls : List (Addr × Ch)) (hpl : pls.map (·.2) = chs) (hal : ∀ x ∈ chs, x.sg ∈ alpha) (hlen : chs.length ≤ 14) {R : DM} {rest : List Frame} (hcs : rest.map (·.where_.1) = [cLawB q.P A, cCaller]) (hR : RestB 300 rest)
    (next : ∀ s' p' c' du (D2 : List (Addr × Addr × Res)), D2.map (·.2.2) = goR [] [] chs → (∀ y ∈ D2, PlOk pls y) → StD (K4 q) (([(du, .arr c_list (refsR D2))] : DM) ++ (dueM D2 ++ R)) [] s' → Y.H s' ⟨.pure (.done (.ret (.ref du))), c', p', rest⟩)
    {s : Shared} {pos : Pos} (S : StD (K4 q) (([(pl, .arr c_list (prefs pls))] : DM) ++ R) [] s) : Y.H s ⟨denF (cDue (sgS chs) tk pl), cDue (sgS chs) tk pl, pos, rest⟩ := by
  have S1 : StD (K4 q) (([] : DM) ++ (([(pl, .arr c_list (prefs pls))] : DM) ++ R)) [] s := S
  have h := @DU0 q Y A (sgS chs) tk pl (ascii_of hal) _ s pos rest hcs hR S1
  simp only [DU0_a, DU0_e, SE.cd, List.nil_append] at h
  refine h fun i s1 p1 c1 _ _ S2 => ?_
  clear h
  have e1 : refsR [] = #[] := rfl
  have e2 : osA [] = #[] := rfl
  have e3 : dueM [] = [] := rfl
  have S3 := (StD.reord (d' := (dhD i.N tk pl pls chs [] 0 none 0 none [] ++ R)) S2 fun a => by simp only [cnt_append, cnt_two, cnt_nil, Nat.add_zero, Nat.zero_add, dhD, e1, e2, e3] <;> (try dsimp only [Addr]) <;> with_reducible ac_rfl)
  have q1 : DuInv chs [] [] 0 0 := .inl ⟨rfl, rfl⟩
  have q2 : goR [] [] chs = ([] : List (Addr × Addr × Res)).map (·.2.2) ++ goR (([] : List (Op × Tok)).map (·.1)) [] (chs.drop 0) := rfl
  exact dueGo Y A chs i.N tk pl pls hpl hal hlen hcs hR (goR [] [] chs) next chs.length 0 (by omega) [] [] 0 none none [] q1 (Nat.zero_le _) (Nat.zero_le _) (fun y hy => by cases hy) q2 S3
theorem lawEnd (nb z pl se : Addr) (k6 : CallF) (x : Option (Int × Int)) (pls : List (Addr × Ch)) (hpl : pls.map (·.2) = chs) (hal : ∀ x ∈ chs, x.sg ∈ alpha) (hlen : chs.length ≤ 14) (D : List (Addr × Addr × Res)) (hD : D.map (·.2.2) = goR [] [] chs) {R : DM}
    (next : ∀ s' p' c', StD (K4 q) R [] s' → Y.H s' ⟨.pure (.done (.ret (.bool true))), c', p', [fCall k6]⟩)
    {s : Shared} {c : Code} {pos : Pos} (S : StD (K4 q) (lwF2 A.l0 nb (sgS chs) pl x A.cl ++ (([(se, .arr c_list (refsR D))] : DM) ++ (resM D ++ (([(pl, .arr c_list (prefs pls))] : DM) ++ (plM pls ++ R))))) [] s) :
    Y.H s ⟨.pure (.done (.ret (.ref se))), c, pos, fsL2 q.P A.l0 z ++ [fCall k6]⟩ := by
  have hC := fCall_ok k6
  have h := @LR q Y A A.l0 nb z pl A.cl se (sgS chs) x c _ s pos [fCall k6] (fCall_cs k6) (hC.mono (by omega)) S
  simp only [LR_a, LR_e, SE.cd] at h
  refine h fun i s1 p1 c1 _ _ S1 => ?_
  clear h
  have hcs3 : (fsL3 q.P A.l0 z se ++ [fCall k6]).map (·.where_.1) = [cLawB q.P A, cCaller] := by rw [List.map_append, fsL3_cs, fCall_cs]; rfl
  have hR3 : RestB 3 (fsL3 q.P A.l0 z se ++ [fCall k6]) := nf_L3 q.P A.l0 z se hC
  have S2 := (StD.reord (d' := (([(pl, .arr c_list (prefs pls))] : DM) ++ (lwF2 A.l0 nb (sgS chs) pl x A.cl ++ (([(se, .arr c_list (refsR D))] : DM) ++ (resM D ++ (plM pls ++ R)))))) S1 fun a => by simp only [cnt_append, cnt_two, cnt_nil, Nat.add_zero, Nat.zero_add] <;> (try dsimp only [Addr]) <;> with_reducible ac_rfl)
  refine dueAll Y A chs _ pl pls hpl hal hlen hcs3 (hR3.mono (by omega)) (fun s2 p2 c2 du E hE hP S3 => ?_) S2
  have S4 := (StD.reord (d' := ((([(se, .arr c_list (refsR D))] : DM) ++ [(du, .arr c_list (refsR E))]) ++ (lwF2 A.l0 nb (sgS chs) pl x A.cl ++ (resM D ++ (dueM E ++ (plM pls ++ R)))))) S3 fun a => by simp only [cnt_append, cnt_two, cnt_nil, Nat.add_zero, Nat.zero_add] <;> (try dsimp only [Addr]) <;> with_reducible ac_rfl)
  have h := @LE q Y A A.l0 z se du (refsR D) (refsR E) c2 _ s2 p2 [fCall k6] (fCall_cs k6) (hC.mono (by omega)) S4
  simp only [LE_a, LE_e, SE.cd] at h
  refine h fun i3 s3 p3 c3 _ _ S5 => ?_
  clear h
  have hu := fsL4_u q.P A.l0 z se du k6
  have S6 := ((StD.reord (d' := ((resM D ++ (dueM E ++ plM pls)) ++ (([(se, .arr c_list (refsR D))] : DM) ++ (([(du, .arr c_list (refsR E))] : DM) ++ (lwF2 A.l0 nb (sgS chs) pl x A.cl ++ R))))) S5 fun a => by simp only [cnt_append, cnt_two, cnt_nil, Nat.add_zero, Nat.zero_add] <;> (try dsimp only [Addr]) <;> with_reducible ac_rfl)).drop
  rw [fsL4_is] at hu ⊢
  have hlenDE : D.length = E.length := by
    have := congrArg List.length (hD.trans hE.symm)
    simpa using this
  refine Y.eqLst S5 (l := se) (b := du) (xs := refsR D) (ys := refsR E) (by simp) (by simp) (by rw [refsR_size, refsR_size]; exact hlenDE) (fun j h1 h2 B hB => ?_) (Nat.le_of_ble_eq_true hu) ?_
  · rw [refsR_size] at h1 h2
    have e1 : (refsR D)[j] = .ref D[j].1 := by simp [refsR]
    have e2 : (refsR E)[j] = .ref E[j].1 := by simp [refsR]
    rw [e1, e2]
    have hr : D[j].2.2 = E[j].2.2 := by
      have h3 : (D.map (·.2.2))[j]? = (E.map (·.2.2))[j]? := by rw [hD, hE]
      rw [List.getElem?_map, List.getElem?_map, List.getElem?_eq_getElem h1, List.getElem?_eq_getElem h2] at h3
      exact Option.some.inj h3
    have m1 : (D[j].1, D[j].2.1, D[j].2.2) ∈ D := List.getElem_mem h1
    have m2 : (E[j].1, E[j].2.1, D[j].2.2) ∈ E := by rw [hr]; exact List.getElem_mem h2
    have m3 : PlOk pls (E[j].1, E[j].2.1, D[j].2.2) := hP _ m2
    exact eqRes S6 m1 m2 m3 hB
  · have S7 := (StD.mem_drop (d' := (([] : DM) ++ R)) (e := (([(se, .arr c_list (refsR D))] : DM) ++ (([(du, .arr c_list (refsR E))] : DM) ++ (lwF2 A.l0 nb (sgS chs) pl x A.cl ++ (resM D ++ (dueM E ++ plM pls)))))) S5 fun a => by simp only [cnt_append, cnt_two, cnt_nil, Nat.add_zero, Nat.zero_add] <;> (try dsimp only [Addr]) <;> with_reducible ac_rfl)
    have h := @LY q Y A.l0 z se du R s3 (r4 q.P A.l0 z se du).p [fCall k6] (fCall_cs k6) (hC.mono (by omega)) S7
    simp only [LY_a, LY_e, SE.cd, List.nil_append] at h
    exact h fun i4 s4 p4 c4 _ _ S8 => next s4 p4 c4 S8
end
end Mine
end
section
set_option linter.unusedVariables false
set_option maxRecDepth 100000
set_option maxHeartbeats 2000000
namespace Mine
open PySem PySem.W PySem.W.X
noncomputable def AllInt (a : Array Value) : Prop := ∀ (j : Nat) (v : Value), a[j]? = some v → ∃ (i : Int) (t : Tok), v = .int i t
theorem str_app (a b : List Nat) : (⟨⟨a⟩⟩ : Str) ++ (⟨⟨b⟩⟩ : Str) = ⟨⟨a ++ b⟩⟩ := by
  show (⟨(⟨a⟩ : Array Nat) ++ (⟨b⟩ : Array Nat)⟩ : Str) = _
  simp
theorem str_len (a : List Nat) : (⟨⟨a⟩⟩ : Str).length = a.length := rfl
theorem len_line {a : List Nat} (h : a.length ≤ 100) : (⟨⟨a⟩⟩ : Str).length ≤ sizeLine := le_line h
theorem len_63 {a : List Nat} (h : a.length ≤ 100) : ((⟨⟨a⟩⟩ : Str).length : Int) < 2 ^ 63 := by rw [str_len]; omega
theorem slice_gen (l : List Nat) (lo hi : Option Int) (a b : Nat) (hi' : Builtin.Str.strSliceIndices lo hi 1 l.length = (List.range (b - a)).map (a + ·)) (hb : b ≤ l.length) (hl : l.length ≤ 100) : SSliceL ⟨⟨l⟩⟩ lo hi ⟨⟨(l.drop a).take (b - a)⟩⟩ (decide (b - a = l.length)) := by
  have hlen : (⟨⟨l⟩⟩ : Str).length = l.length := rfl
  have hi : Builtin.Str.strSliceIndices lo hi 1 (⟨⟨l⟩⟩ : Str).length = (List.range (b - a)).map (a + ·) := hi'
  refine ⟨?_, ?_⟩
  · show ((l.drop a).take (b - a)).length ≤ sizeLine
    exact le_line (by simp; omega)
  · by_cases h : b - a = l.length
    · rw [decide_eq_true h]
      refine ⟨?_, ?_⟩
      · rcases Nat.eq_zero_or_pos l.length with h0 | h0
        · obtain rfl : l = [] := List.length_eq_zero_iff.mp h0
          simp
        · have ha : a = 0 := by omega
          subst ha
          rw [h, List.drop_zero, List.take_length]
      · rw [hi]; simp [hlen]; exact h
    · rw [decide_eq_false h]
      refine ⟨?_, ?_⟩
      · rw [hi, pick_run]
      · rw [hi]; simp [hlen]; exact h
theorem idx_to (b n : Nat) : Builtin.Str.strSliceIndices none (some (b : Int)) 1 n = (List.range (min b n - 0)).map (0 + ·) := by
  unfold Builtin.Str.strSliceIndices
  have h2 : ¬ ((b : Int) < 0) := by omega
  simp only [h2, if_false, show (1 : Int) > 0 by decide, if_true]
  rw [show max (0 : Int) (min (b : Int) n) = ((min b n : Nat) : Int) by omega]
  exact sliceRange_one 0 (min b n)
theorem idx_from (a n : Nat) : Builtin.Str.strSliceIndices (some (a : Int)) none 1 n = (List.range (n - min a n)).map (min a n + ·) := by
  unfold Builtin.Str.strSliceIndices
  have h2 : ¬ ((a : Int) < 0) := by omega
  simp only [h2, if_false, show (1 : Int) > 0 by decide, if_true]
  rw [show max (0 : Int) (min (a : Int) n) = ((min a n : Nat) : Int) by omega]
  exact sliceRange_one (min a n) n
theorem slice_to (l : List Nat) (b : Nat) (hl : l.length ≤ 100) : ∃ w, SSliceL ⟨⟨l⟩⟩ none (some (b : Int)) ⟨⟨l.take b⟩⟩ w := by
  have h := slice_gen l none (some (b : Int)) 0 (min b l.length) (idx_to b l.length) (by omega) hl
  have e : (l.drop 0).take (min b l.length - 0) = l.take b := by
    rw [List.drop_zero, Nat.sub_zero]
    rcases Nat.le_total b l.length with h | h
    · rw [Nat.min_eq_left h]
    · rw [Nat.min_eq_right h, List.take_length, List.take_of_length_le h]
  rw [e] at h
  exact ⟨_, h⟩
theorem slice_from (l : List Nat) (a : Nat) (hl : l.length ≤ 100) : ∃ w, SSliceL ⟨⟨l⟩⟩ (some (a : Int)) none ⟨⟨l.drop a⟩⟩ w := by
  have h := slice_gen l (some (a : Int)) none (min a l.length) l.length (idx_from a l.length) (Nat.le_refl _) hl
  have e : (l.drop (min a l.length)).take (l.length - min a l.length) = l.drop a := by
    rcases Nat.le_total a l.length with h | h
    · rw [Nat.min_eq_left h, List.take_of_length_le (by rw [List.length_drop]; exact Nat.le_refl _)]
    · rw [Nat.min_eq_right h, List.drop_length, List.take_nil, List.drop_of_length_le h]
  rw [e] at h
  exact ⟨_, h⟩
noncomputable def Al (l : List Nat) : Prop := ∀ c ∈ l, c ∈ alpha
theorem Al.nil : Al [] := fun _ h => nomatch h
theorem Al.app {a b : List Nat} (h : Al a) (k : Al b) : Al (a ++ b) := fun c hc => (List.mem_append.mp hc).elim (h c) (k c)
theorem Al.one {c : Nat} (h : c ∈ alpha) : Al [c] := fun x hx => by cases List.mem_singleton.mp hx; exact h
theorem Al.take {a : List Nat} (h : Al a) (n : Nat) : Al (a.take n) := fun c hc => h c (List.mem_of_mem_take hc)
theorem Al.drop {a : List Nat} (h : Al a) (n : Nat) : Al (a.drop n) := fun c hc => h c (List.mem_of_mem_drop hc)
theorem char3 (v : Int) (h0 : 0 ≤ v) (h3 : v < 3) : ∃ c1 c2, CharAt ⟨⟨[40, 91, 123]⟩⟩ v c1 ∧ CharAt ⟨⟨[41, 93, 125]⟩⟩ v c2 ∧ c1 ∈ alpha ∧ c2 ∈ alpha := by
  have h : v = 0 ∨ v = 1 ∨ v = 2 := by omega
  rcases h with rfl | rfl | rfl
  · exact ⟨40, 41, ⟨by decide, by decide, rfl⟩, ⟨by decide, by decide, rfl⟩, by decide, by decide⟩
  · exact ⟨91, 93, ⟨by decide, by decide, rfl⟩, ⟨by decide, by decide, rfl⟩, by decide, by decide⟩
  · exact ⟨123, 125, ⟨by decide, by decide, rfl⟩, ⟨by decide, by decide, rfl⟩, by decide, by decide⟩
theorem charA (v : Int) (h0 : 0 ≤ v) (h3 : v < 3) : ∃ c1, CharAt ⟨⟨[97, 32, 97]⟩⟩ v c1 ∧ c1 ∈ alpha := by
  have h : v = 0 ∨ v = 1 ∨ v = 2 := by omega
  rcases h with rfl | rfl | rfl
  · exact ⟨97, ⟨by decide, by decide, rfl⟩, by decide⟩
  · exact ⟨32, ⟨by decide, by decide, rfl⟩, by decide⟩
  · exact ⟨97, ⟨by decide, by decide, rfl⟩, by decide⟩
theorem char8 (v : Int) (h0 : 0 ≤ v) (h8 : v < 8) : ∃ c1, CharAt ⟨⟨[40, 91, 123, 41, 93, 125, 32, 97]⟩⟩ v c1 ∧ c1 ∈ alpha := by
  have h : v = 0 ∨ v = 1 ∨ v = 2 ∨ v = 3 ∨ v = 4 ∨ v = 5 ∨ v = 6 ∨ v = 7 := by omega
  rcases h with rfl | rfl | rfl | rfl | rfl | rfl | rfl | rfl
  · exact ⟨40, ⟨by decide, by decide, rfl⟩, by decide⟩
  · exact ⟨91, ⟨by decide, by decide, rfl⟩, by decide⟩
  · exact ⟨123, ⟨by decide, by decide, rfl⟩, by decide⟩
  · exact ⟨41, ⟨by decide, by decide, rfl⟩, by decide⟩
  · exact ⟨93, ⟨by decide, by decide, rfl⟩, by decide⟩
  · exact ⟨125, ⟨by decide, by decide, rfl⟩, by decide⟩
  · exact ⟨32, ⟨by decide, by decide, rfl⟩, by decide⟩
  · exact ⟨97, ⟨by decide, by decide, rfl⟩, by decide⟩
section
variable {q : Qd} (Y : Sys (K4 q)) (A : LA)
theorem txGo (z it li nb : Nat) (ys : Array Value) (hys : AllInt ys) {R : DM} {rest : List Frame} (hcs : rest.map (·.where_.1) = [cLawB q.P A, cCaller]) (hR : RestB 300 rest)
    (next : ∀ s' p' a b x, Al a → Al b → a.length + b.length ≤ 13 → StD (K4 q) (txF z nb ⟨⟨a⟩⟩ ⟨⟨b⟩⟩ x ++ (lpD it li ys.size ys ++ R)) [] s' → Y.H s' ⟨denF (cTf q.P z it), cTf q.P z it, p', fsT q.P z ++ rest⟩) :
    ∀ (n k : Nat), k + n = ys.size → ∀ (a b : List Nat) (x : Option (Int × Int)), Al a → Al b → a.length + b.length ≤ 13 → ∀ {s : Shared} {pos : Pos}, StD (K4 q) (txF z nb ⟨⟨a⟩⟩ ⟨⟨b⟩⟩ x ++ (lpD it li k ys ++ R)) [] s → Y.H s ⟨denF (cTf q.P z it), cTf q.P z it, pos, fsT q.P z ++ rest⟩
  | 0, k, hk, a, b, x, ha, hb, hl, s, pos, S => by
    obtain rfl : k = ys.size := by omega
    exact next s pos a b x ha hb hl S
  | n + 1, k, hk, a, b, x, ha, hb, hl, s, pos, S => by
    have hlt : k < ys.size := by omega
    have hg : ys[k]? = some ys[k] := Array.getElem?_eq_getElem hlt
    obtain ⟨m, tn, hv⟩ := hys k _ hg
    rw [hv] at hg
    have q0 : 0 ≤ m.fmod 9 := Int.fmod_nonneg_of_pos _ (by decide)
    have q9 : m.fmod 9 < 9 := Int.fmod_lt_of_pos _ (by decide)
    have la : ((⟨⟨a⟩⟩ : Str).length : Int) < 2 ^ 63 := len_63 (by omega)
    have lb : ((⟨⟨b⟩⟩ : Str).length : Int) < 2 ^ 63 := len_63 (by omega)
    have S1 := (StD.reord (d' := ((txF z nb ⟨⟨a⟩⟩ ⟨⟨b⟩⟩ x ++ lpD it li k ys) ++ R)) S fun a => by simp only [cnt_append, cnt_two, cnt_nil, Nat.add_zero, Nat.zero_add] <;> (try dsimp only [Addr]) <;> with_reducible ac_rfl)
    by_cases h3 : m.fmod 9 < 3
    · by_cases h12 : ((⟨⟨a⟩⟩ : Str).length : Int) + ((⟨⟨b⟩⟩ : Str).length : Int) < 12
      · obtain ⟨c1, c2, hc1, hc2, a1, a2⟩ := char3 _ q0 h3
        have l1 : ((⟨⟨a⟩⟩ : Str) ++ (⟨⟨[c1]⟩⟩ : Str)).length ≤ sizeLine := by rw [str_app]; exact len_line (by rw [List.length_append]; simp only [List.length_singleton]; omega)
        have l2 : ((⟨⟨[c2]⟩⟩ : Str) ++ (⟨⟨b⟩⟩ : Str)).length ≤ sizeLine := by rw [str_app]; exact len_line (by rw [List.length_append]; simp only [List.length_singleton]; omega)
        have h := @TXo q Y A z it li nb ⟨⟨a⟩⟩ ⟨⟨b⟩⟩ x k ys m tn c1 c2 hg (decide_eq_true h3) la lb (decide_eq_true h12) hc1 l1 hc2 l2 R s pos rest hcs hR S1
        simp only [TXo_a, TXo_e, SE.cd, str_app] at h
        refine h fun i s2 p2 c2' _ _ S2 => ?_
        clear h
        have S3 := (StD.reord (d' := (txF z nb ⟨⟨a ++ [c1]⟩⟩ ⟨⟨[c2] ++ b⟩⟩ (some (m, m.fmod 9)) ++ (lpD it li (k + 1) ys ++ R))) S2 fun a => by simp only [cnt_append, cnt_two, cnt_nil, Nat.add_zero, Nat.zero_add] <;> (try dsimp only [Addr]) <;> with_reducible ac_rfl)
        have hl2 : (a ++ [c1]).length + ([c2] ++ b).length ≤ 13 := by
          rw [str_len, str_len] at h12
          rw [List.length_append, List.length_append]; simp only [List.length_singleton]; omega
        exact txGo z it li nb ys hys hcs hR next n (k + 1) (by omega) (a ++ [c1]) ([c2] ++ b) _ (ha.app (Al.one a1)) ((Al.one a2).app hb) hl2 S3
      · have h := @TXn q Y A z it li nb ⟨⟨a⟩⟩ ⟨⟨b⟩⟩ x k ys m tn hg (decide_eq_true h3) la lb (decide_eq_false h12) R s pos rest hcs hR S1
        simp only [TXn_a, TXn_e, SE.cd] at h
        refine h fun i s2 p2 c2' _ _ S2 => ?_
        clear h
        have S3 := (StD.reord (d' := (txF z nb ⟨⟨a⟩⟩ ⟨⟨b⟩⟩ (some (m, m.fmod 9)) ++ (lpD it li (k + 1) ys ++ R))) S2 fun a => by simp only [cnt_append, cnt_two, cnt_nil, Nat.add_zero, Nat.zero_add] <;> (try dsimp only [Addr]) <;> with_reducible ac_rfl)
        exact txGo z it li nb ys hys hcs hR next n (k + 1) (by omega) a b _ ha hb hl S3
    · by_cases h6 : m.fmod 9 < 6
      · obtain ⟨w1, hw1⟩ := slice_to b 1 (by omega)
        obtain ⟨w2, hw2⟩ := slice_from b 1 (by omega)
        have l1 : ((⟨⟨a⟩⟩ : Str) ++ (⟨⟨b.take 1⟩⟩ : Str)).length ≤ sizeLine := by rw [str_app]; exact len_line (by rw [List.length_append, List.length_take]; omega)
        have h := @TXc q Y A z it li nb ⟨⟨a⟩⟩ ⟨⟨b⟩⟩ x k ys m tn ⟨⟨b.take 1⟩⟩ ⟨⟨b.drop 1⟩⟩ w1 w2 hg (decide_eq_false h3) (decide_eq_true h6) hw1 l1 hw2 R s pos rest hcs hR S1
        simp only [TXc_a, TXc_e, SE.cd, str_app] at h
        refine h fun i s2 p2 c2' _ _ S2 => ?_
        clear h
        have S3 := (StD.reord (d' := (txF z nb ⟨⟨a ++ b.take 1⟩⟩ ⟨⟨b.drop 1⟩⟩ (some (m, m.fmod 9)) ++ (lpD it li (k + 1) ys ++ R))) S2 fun a => by simp only [cnt_append, cnt_two, cnt_nil, Nat.add_zero, Nat.zero_add] <;> (try dsimp only [Addr]) <;> with_reducible ac_rfl)
        have hl2 : (a ++ b.take 1).length + (b.drop 1).length ≤ 13 := by
          rw [List.length_append, List.length_take, List.length_drop]; omega
        exact txGo z it li nb ys hys hcs hR next n (k + 1) (by omega) (a ++ b.take 1) (b.drop 1) _ (ha.app (hb.take 1)) (hb.drop 1) hl2 S3
      · by_cases h13 : ((⟨⟨a⟩⟩ : Str).length : Int) + ((⟨⟨b⟩⟩ : Str).length : Int) < 13
        · obtain ⟨c1, hc1, a1⟩ := charA (m.fmod 9 - 6) (by omega) (by omega)
          have l1 : ((⟨⟨a⟩⟩ : Str) ++ (⟨⟨[c1]⟩⟩ : Str)).length ≤ sizeLine := by rw [str_app]; exact len_line (by rw [List.length_append]; simp only [List.length_singleton]; omega)
          have h := @TXl q Y A z it li nb ⟨⟨a⟩⟩ ⟨⟨b⟩⟩ x k ys m tn c1 hg (decide_eq_false h3) (decide_eq_false h6) la lb (decide_eq_true h13) hc1 l1 R s pos rest hcs hR S1
          simp only [TXl_a, TXl_e, SE.cd, str_app] at h
          refine h fun i s2 p2 c2' _ _ S2 => ?_
          clear h
          have S3 := (StD.reord (d' := (txF z nb ⟨⟨a ++ [c1]⟩⟩ ⟨⟨b⟩⟩ (some (m, m.fmod 9)) ++ (lpD it li (k + 1) ys ++ R))) S2 fun a => by simp only [cnt_append, cnt_two, cnt_nil, Nat.add_zero, Nat.zero_add] <;> (try dsimp only [Addr]) <;> with_reducible ac_rfl)
          have hl2 : (a ++ [c1]).length + b.length ≤ 13 := by
            rw [str_len, str_len] at h13
            rw [List.length_append]; simp only [List.length_singleton]; omega
          exact txGo z it li nb ys hys hcs hR next n (k + 1) (by omega) (a ++ [c1]) b _ (ha.app (Al.one a1)) hb hl2 S3
        · have h := @TXm q Y A z it li nb ⟨⟨a⟩⟩ ⟨⟨b⟩⟩ x k ys m tn hg (decide_eq_false h3) (decide_eq_false h6) la lb (decide_eq_false h13) R s pos rest hcs hR S1
          simp only [TXm_a, TXm_e, SE.cd] at h
          refine h fun i s2 p2 c2' _ _ S2 => ?_
          clear h
          have S3 := (StD.reord (d' := (txF z nb ⟨⟨a⟩⟩ ⟨⟨b⟩⟩ (some (m, m.fmod 9)) ++ (lpD it li (k + 1) ys ++ R))) S2 fun a => by simp only [cnt_append, cnt_two, cnt_nil, Nat.add_zero, Nat.zero_add] <;> (try dsimp only [Addr]) <;> with_reducible ac_rfl)
          exact txGo z it li nb ys hys hcs hR next n (k + 1) (by omega) a b _ ha hb hl S3
end
end Mine
end
section
set_option linter.unusedVariables false
set_option maxRecDepth 100000
set_option maxHeartbeats 4000000
namespace Mine
open PySem PySem.W PySem.W.X
section
variable {q : Qd} (Y : Sys (K4 q)) (A : LA)
theorem txEnd (z it li nb : Nat) (ys ns : Array Value) (hns : AllInt ns) (hsz : ns.size ≤ 100) {R : DM} {rest : List Frame} (hcs : rest.map (·.where_.1) = [cLawB q.P A, cCaller]) (hR : RestB 300 rest)
    (next : ∀ s' p' c' l tk, Al l → l.length ≤ 14 → StD (K4 q) (([(nb, .arr c_list ns)] : DM) ++ R) [] s' → Y.H s' ⟨.pure (.done (.ret (.str ⟨⟨l⟩⟩ tk))), c', p', rest⟩)
    (a b : List Nat) (x : Option (Int × Int)) (ha : Al a) (hb : Al b) (hl : a.length + b.length ≤ 13) {s : Shared} {pos : Pos} (S : StD (K4 q) (txF z nb ⟨⟨a⟩⟩ ⟨⟨b⟩⟩ x ++ (lpD it li ys.size ys ++ (([(nb, .arr c_list ns)] : DM) ++ R))) [] s) :
    Y.H s ⟨denF (cTf q.P z it), cTf q.P z it, pos, fsT q.P z ++ rest⟩ := by
  have hno : ys[ys.size]? = none := Array.getElem?_eq_none (Nat.le_refl _)
  obtain ⟨t, ht⟩ : ∃ t, a ++ b = t := ⟨_, rfl⟩
  have hat : Al t := ht ▸ ha.app hb
  have htl : t.length ≤ 13 := by rw [← ht, List.length_append]; exact hl
  have htx : (⟨⟨a⟩⟩ : Str) ++ (⟨⟨b⟩⟩ : Str) = ⟨⟨t⟩⟩ := by rw [str_app, ht]
  have l1 : ((⟨⟨a⟩⟩ : Str) ++ (⟨⟨b⟩⟩ : Str)).length ≤ sizeLine := by rw [htx]; exact len_line (by omega)
  have l2 : (((⟨⟨a⟩⟩ : Str) ++ (⟨⟨b⟩⟩ : Str)).length : Int) < 2 ^ 63 := by rw [htx]; exact len_63 (by omega)
  have S1 := (StD.reord (d' := ((txF z nb ⟨⟨a⟩⟩ ⟨⟨b⟩⟩ x ++ (lpD it li ys.size ys ++ [(nb, .arr c_list ns)])) ++ R)) S fun a => by simp only [cnt_append, cnt_two, cnt_nil, Nat.add_zero, Nat.zero_add] <;> (try dsimp only [Addr]) <;> with_reducible ac_rfl)
  by_cases h0 : ns.size = 0
  · obtain rfl : ns = #[] := Array.eq_empty_of_size_eq_zero h0
    obtain ⟨c1, hc1, -⟩ := char8 (((0 : Int).fdiv ((((⟨⟨a⟩⟩ : Str) ++ (⟨⟨b⟩⟩ : Str)).length : Int) + 1)).fmod 8) (Int.fmod_nonneg_of_pos _ (by decide)) (Int.fmod_lt_of_pos _ (by decide))
    have h := @TXze q Y A z it li nb ⟨⟨a⟩⟩ ⟨⟨b⟩⟩ x ys.size ys c1 hno l1 l2 hc1 R s pos rest hcs hR S1
    simp only [TXze_a, TXze_e, SE.cd, List.nil_append, htx] at h
    refine h fun i s2 p2 c2 _ _ S2 => ?_
    exact next s2 p2 c2 t _ hat (by omega) S2
  · obtain ⟨m, hm⟩ : ∃ m, ns.size = m + 1 := ⟨ns.size - 1, by omega⟩
    have hm2 : (((m + 1) : Nat) : Int) < 2 ^ 63 := by omega
    have hg : ns[0]? = some ns[0] := Array.getElem?_eq_getElem (by omega)
    obtain ⟨n, tn, hv⟩ := hns 0 _ hg
    rw [hv] at hg
    have hit : ItemAt ns 0 (.int n tn) := ⟨by decide, by decide, hg⟩
    obtain ⟨c1, hc1, ac⟩ := char8 (((n.fdiv 8).fdiv ((((⟨⟨a⟩⟩ : Str) ++ (⟨⟨b⟩⟩ : Str)).length : Int) + 1)).fmod 8) (Int.fmod_nonneg_of_pos _ (by decide)) (Int.fmod_lt_of_pos _ (by decide))
    have hpos : 0 < (((⟨⟨a⟩⟩ : Str) ++ (⟨⟨b⟩⟩ : Str)).length : Int) + 1 := by omega
    have sp0 : 0 ≤ (n.fdiv 8).fmod ((((⟨⟨a⟩⟩ : Str) ++ (⟨⟨b⟩⟩ : Str)).length : Int) + 1) := Int.fmod_nonneg_of_pos _ hpos
    have sp1 : (n.fdiv 8).fmod ((((⟨⟨a⟩⟩ : Str) ++ (⟨⟨b⟩⟩ : Str)).length : Int) + 1) < (((⟨⟨a⟩⟩ : Str) ++ (⟨⟨b⟩⟩ : Str)).length : Int) + 1 := Int.fmod_lt_of_pos _ hpos
    obtain ⟨sp, hsp⟩ := Int.eq_ofNat_of_zero_le sp0
    have hspl : sp ≤ t.length := by rw [hsp, htx, str_len] at sp1; omega
    obtain ⟨w2, hw2⟩ := slice_to t sp (by omega)
    obtain ⟨w3, hw3⟩ := slice_from t (sp + 1) (by omega)
    obtain ⟨w4, hw4⟩ := slice_from t sp (by omega)
    rw [← htx, ← hsp] at hw2 hw4
    have e1 : (((sp + 1 : Nat)) : Int) = ((sp : Nat) : Int) + 1 := by omega
    rw [← htx, e1, ← hsp] at hw3
    have hal1 : Al (t.take sp ++ [c1] ++ t.drop (sp + 1)) := ((hat.take sp).app (Al.one ac)).app (hat.drop (sp + 1))
    have hal2 : Al (t.take sp ++ t.drop (sp + 1)) := (hat.take sp).app (hat.drop (sp + 1))
    have hal3 : Al (t.take sp ++ [c1] ++ t.drop sp) := ((hat.take sp).app (Al.one ac)).app (hat.drop sp)
    have hn1 : (t.take sp ++ [c1] ++ t.drop (sp + 1)).length ≤ 14 := by simp; omega
    have hn2 : (t.take sp ++ t.drop (sp + 1)).length ≤ 14 := by simp; omega
    have hn3 : (t.take sp ++ [c1] ++ t.drop sp).length ≤ 14 := by simp; omega
    have k1 : ((⟨⟨t.take sp⟩⟩ : Str) ++ (⟨⟨[c1]⟩⟩ : Str)).length ≤ sizeLine := by rw [str_app]; exact len_line (by simp; omega)
    have k2 : (((⟨⟨t.take sp⟩⟩ : Str) ++ (⟨⟨[c1]⟩⟩ : Str)) ++ (⟨⟨t.drop (sp + 1)⟩⟩ : Str)).length ≤ sizeLine := by rw [str_app, str_app]; exact len_line (a := t.take sp ++ [c1] ++ t.drop (sp + 1)) (by omega)
    have k3 : ((⟨⟨t.take sp⟩⟩ : Str) ++ (⟨⟨t.drop (sp + 1)⟩⟩ : Str)).length ≤ sizeLine := by rw [str_app]; exact len_line (by omega)
    have k4 : (((⟨⟨t.take sp⟩⟩ : Str) ++ (⟨⟨[c1]⟩⟩ : Str)) ++ (⟨⟨t.drop sp⟩⟩ : Str)).length ≤ sizeLine := by rw [str_app, str_app]; exact len_line (a := t.take sp ++ [c1] ++ t.drop sp) (by omega)
    by_cases q4 : n.fmod 8 = 4
    · have h := @TXz4 q Y A z it li nb ⟨⟨a⟩⟩ ⟨⟨b⟩⟩ x ys.size ys ns n tn m c1 ⟨⟨t.take sp⟩⟩ ⟨⟨t.drop (sp + 1)⟩⟩ w2 w3 hno l1 hm hm2 hit l2 hc1 (beq_iff_eq.mpr q4) hw2 k1 hw3 k2 R s pos rest hcs hR S1
      simp only [TXz4_a, TXz4_e, SE.cd, List.nil_append, str_app] at h
      refine h fun i s2 p2 c2 _ _ S2 => ?_
      exact next s2 p2 c2 _ _ hal1 hn1 S2
    by_cases q5 : n.fmod 8 = 5
    · have h := @TXz5 q Y A z it li nb ⟨⟨a⟩⟩ ⟨⟨b⟩⟩ x ys.size ys ns n tn m c1 ⟨⟨t.take sp⟩⟩ ⟨⟨t.drop (sp + 1)⟩⟩ w2 w3 hno l1 hm hm2 hit l2 hc1 (beq_eq_false_iff_ne.mpr q4) (beq_iff_eq.mpr q5) hw2 k1 hw3 k2 R s pos rest hcs hR S1
      simp only [TXz5_a, TXz5_e, SE.cd, List.nil_append, str_app] at h
      refine h fun i s2 p2 c2 _ _ S2 => ?_
      exact next s2 p2 c2 _ _ hal1 hn1 S2
    by_cases q6 : n.fmod 8 = 6
    · have h := @TXz6 q Y A z it li nb ⟨⟨a⟩⟩ ⟨⟨b⟩⟩ x ys.size ys ns n tn m c1 ⟨⟨t.take sp⟩⟩ ⟨⟨t.drop (sp + 1)⟩⟩ w2 w3 hno l1 hm hm2 hit l2 hc1 (beq_eq_false_iff_ne.mpr q4) (beq_eq_false_iff_ne.mpr q5) (beq_iff_eq.mpr q6) hw2 hw3 k3 R s pos rest hcs hR S1
      simp only [TXz6_a, TXz6_e, SE.cd, List.nil_append, str_app] at h
      refine h fun i s2 p2 c2 _ _ S2 => ?_
      exact next s2 p2 c2 _ _ hal2 hn2 S2
    by_cases q7 : n.fmod 8 = 7
    · have h := @TXz7 q Y A z it li nb ⟨⟨a⟩⟩ ⟨⟨b⟩⟩ x ys.size ys ns n tn m c1 ⟨⟨t.take sp⟩⟩ ⟨⟨t.drop sp⟩⟩ w2 w4 hno l1 hm hm2 hit l2 hc1 (beq_eq_false_iff_ne.mpr q4) (beq_eq_false_iff_ne.mpr q5) (beq_eq_false_iff_ne.mpr q6) (beq_iff_eq.mpr q7) hw2 k1 hw4 k4 R s pos rest hcs hR S1
      simp only [TXz7_a, TXz7_e, SE.cd, List.nil_append, str_app] at h
      refine h fun i s2 p2 c2 _ _ S2 => ?_
      exact next s2 p2 c2 _ _ hal3 hn3 S2
    · have h := @TXzo q Y A z it li nb ⟨⟨a⟩⟩ ⟨⟨b⟩⟩ x ys.size ys ns n tn m c1 hno l1 hm hm2 hit l2 hc1 (beq_eq_false_iff_ne.mpr q4) (beq_eq_false_iff_ne.mpr q5) (beq_eq_false_iff_ne.mpr q6) (beq_eq_false_iff_ne.mpr q7) R s pos rest hcs hR S1
      simp only [TXzo_a, TXzo_e, SE.cd, List.nil_append, htx] at h
      refine h fun i s2 p2 c2 _ _ S2 => ?_
      exact next s2 p2 c2 t _ hat (by omega) S2
theorem AllInt.from {a : Array Value} (h : AllInt a) (n : Nat) : AllInt (slicePick a (some (n : Int)) none none) := by
  rw [slicePick_from' a n]
  intro j v hj
  have : v ∈ a.toList.drop n := List.mem_of_getElem? (by simpa using hj)
  obtain ⟨k, hk, e⟩ := List.mem_iff_getElem.mp (List.mem_of_mem_drop this)
  exact h k v (by rw [← Array.getElem?_toList, List.getElem?_eq_getElem hk, e])
theorem txAll (nb : Nat) (ns : Array Value) (hns : AllInt ns) (hsz : ns.size ≤ 100) {R : DM} {rest : List Frame} (hcs : rest.map (·.where_.1) = [cLawB q.P A, cCaller]) (hR : RestB 300 rest)
    (next : ∀ s' p' c' l tk, Al l → l.length ≤ 14 → StD (K4 q) (([(nb, .arr c_list ns)] : DM) ++ R) [] s' → Y.H s' ⟨.pure (.done (.ret (.str ⟨⟨l⟩⟩ tk))), c', p', rest⟩)
    {s : Shared} {pos : Pos} (S : StD (K4 q) (([(nb, .arr c_list ns)] : DM) ++ R) [] s) : Y.H s ⟨denF (cTx nb), cTx nb, pos, rest⟩ := by
  obtain ⟨ys, hys⟩ : ∃ ys, slicePick ns (some ((1 : Nat) : Int)) none none = ys := ⟨_, rfl⟩
  have hsl : SliceL ns (some 1) none ys := ⟨le_line hsz, hys⟩
  have hI : AllInt ys := hys ▸ hns.from 1
  have hyl : ys.size ≤ 100 := by rw [← hys, slicePick_from' ns 1]; simp; omega
  by_cases h0 : ys.size = 0
  · have h := @TX0b q Y A nb ns ys hsl h0 (by decide) R s pos rest hcs hR S
    simp only [TX0b_a, TX0b_e, SE.cd] at h
    refine h fun i s1 p1 c1 _ _ S1 => ?_
    clear h
    generalize hzz : (#[.int 0 (i.T + 8), .int 6 (i.T + 9), .int 3 (i.T + 10)] : Array Value) = zz at S1
    have hzI : AllInt zz := by
      rw [← hzz]
      intro j v hj
      have : v ∈ [Value.int 0 (i.T + 8), .int 6 (i.T + 9), .int 3 (i.T + 10)] := List.mem_of_getElem? (by simpa using hj)
      simp only [List.mem_cons, List.not_mem_nil, or_false] at this
      rcases this with rfl | rfl | rfl <;> exact ⟨_, _, rfl⟩
    have S2 := (StD.reord (d' := (txF i.N nb ⟨⟨[]⟩⟩ ⟨⟨[]⟩⟩ none ++ (lpD (i.N + 8) (i.N + 7) 0 zz ++ (([(nb, .arr c_list ns)] : DM) ++ R)))) S1 fun a => by simp only [cnt_append, cnt_two, cnt_nil, Nat.add_zero, Nat.zero_add] <;> (try dsimp only [Addr]) <;> with_reducible ac_rfl)
    exact txGo Y A i.N (i.N + 8) (i.N + 7) nb zz hzI hcs hR (fun s2 p2 a b x ha hb hl S3 => txEnd Y A i.N (i.N + 8) (i.N + 7) nb zz ns hns hsz hcs hR next a b x ha hb hl S3) zz.size 0 (by omega) [] [] none Al.nil Al.nil (by decide) S2
  · obtain ⟨m, hm⟩ : ∃ m, ys.size = m + 1 := ⟨ys.size - 1, by omega⟩
    have h := @TX0a q Y A nb ns ys m hsl hm (by omega) R s pos rest hcs hR S
    simp only [TX0a_a, TX0a_e, SE.cd] at h
    refine h fun i s1 p1 c1 _ _ S1 => ?_
    clear h
    have S2 := (StD.reord (d' := (txF i.N nb ⟨⟨[]⟩⟩ ⟨⟨[]⟩⟩ none ++ (lpD (i.N + 7) (i.N + 6) 0 ys ++ (([(nb, .arr c_list ns)] : DM) ++ R)))) S1 fun a => by simp only [cnt_append, cnt_two, cnt_nil, Nat.add_zero, Nat.zero_add] <;> (try dsimp only [Addr]) <;> with_reducible ac_rfl)
    exact txGo Y A i.N (i.N + 7) (i.N + 6) nb ys hI hcs hR (fun s2 p2 a b x ha hb hl S3 => txEnd Y A i.N (i.N + 7) (i.N + 6) nb ys ns hns hsz hcs hR next a b x ha hb hl S3) ys.size 0 (by omega) [] [] none Al.nil Al.nil (by decide) S2
end
end Mine
end
section
set_option linter.unusedVariables false
set_option maxRecDepth 100000
set_option maxHeartbeats 4000000
namespace Mine
open PySem PySem.W PySem.W.X
noncomputable def la0 : LA := ⟨0, 0, 0, 0, 0, 0, 0⟩
structure PV where
  a : Addr
  f : Str
  x : Int
  y : Int
  z : Int
noncomputable def PV.dm (p : PV) : DM := plT p.a p.f p.x p.y p.z
noncomputable def plvM (P : List PV) : DM := P.flatMap PV.dm
theorem plvM_push (P : List PV) (p : PV) (a) : cnt a (plvM (P ++ [p])) = cnt a (plvM P) + cnt a p.dm := by
  unfold plvM
  rw [cnt_flatMap, List.flatMap_cons, List.flatMap_nil, List.append_nil]
noncomputable def prV (P : List PV) : Array Value := ⟨P.map fun p => .ref p.a⟩
theorem prV_push (P : List PV) (p : PV) : (prV P).push (.ref p.a) = prV (P ++ [p]) := by simp [prV]
theorem prV_size (P : List PV) : (prV P).size = P.length := by simp [prV]
theorem charF (k : Nat) : ∃ c, CharAt ⟨⟨[102, 103]⟩⟩ (((k : Nat) : Int).fmod 2) c := by
  have h0 : 0 ≤ ((k : Nat) : Int).fmod 2 := Int.fmod_nonneg_of_pos _ (by decide)
  have h2 : ((k : Nat) : Int).fmod 2 < 2 := Int.fmod_lt_of_pos _ (by decide)
  have h : ((k : Nat) : Int).fmod 2 = 0 ∨ ((k : Nat) : Int).fmod 2 = 1 := by omega
  rcases h with h | h <;> rw [h]
  · exact ⟨102, by decide, by decide, rfl⟩
  · exact ⟨103, by decide, by decide, rfl⟩
section
variable {q : Qd} (Y : Sys (K4 q))
theorem plGo (l0 nb pl pr : Addr) (tx : Str) (ln : Nat) (hln : ln ≤ 14) (ns : Array Value) (hns : AllInt ns) (hsz : ns.size ≤ 100) {R : DM} {rest : List Frame} (hcs : rest.map (·.where_.1) = [cCaller]) (hR : RestB 300 rest)
    (next : ∀ s' p' (P : List PV) x, P.length = ln → (x = none ↔ ln = 0) → StD (K4 q) (lwF1 l0 nb tx pl x ++ (([(pl, .arr c_list (prV P))] : DM) ++ (riD pr ln 0 ++ (([(nb, .arr c_list ns)] : DM) ++ (plvM P ++ R))))) [] s' → Y.H s' ⟨denF (cPf q.P l0 pr), cPf q.P l0 pr, p', fsL1 q.P l0 ++ rest⟩) :
    ∀ (n k : Nat), k + n = ln → ∀ (P : List PV) (x : Option (Int × Int)), P.length = k → (x = none ↔ k = 0) → ∀ {s : Shared} {pos : Pos}, StD (K4 q) (lwF1 l0 nb tx pl x ++ (([(pl, .arr c_list (prV P))] : DM) ++ (riD pr k ((n : Nat) : Int) ++ (([(nb, .arr c_list ns)] : DM) ++ (plvM P ++ R))))) [] s → Y.H s ⟨denF (cPf q.P l0 pr), cPf q.P l0 pr, pos, fsL1 q.P l0 ++ rest⟩
  | 0, k, hk, P, x, hP, hx, s, pos, S => by
    obtain rfl : k = ln := by omega
    exact next s pos P x hP hx S
  | n + 1, k, hk, P, x, hP, hx, s, pos, S => by
    obtain ⟨c1, hc1⟩ := charF k
    have hmul : IntMulOk ((k : Nat) : Int) ((k : Nat) : Int) := IntMulOk.of_left (intBits_le_64 (by omega) (by omega))
    have hps : (prV P).size ≤ sizeLine := by rw [prV_size]; exact le_line (by omega)
    have hlf : 0 < (((n + 1 : Nat)) : Int) := by omega
    have e9 : (((n + 1 : Nat)) : Int) - 1 = ((n : Nat) : Int) := by omega
    have S1 := (StD.reord (d' := ((lwF1 l0 nb tx pl x ++ (([(pl, .arr c_list (prV P))] : DM) ++ (riD pr k (((n + 1 : Nat)) : Int) ++ [(nb, .arr c_list ns)]))) ++ (plvM P ++ R))) S fun a => by simp only [cnt_append, cnt_two, cnt_nil, Nat.add_zero, Nat.zero_add] <;> (try dsimp only [Addr]) <;> with_reducible ac_rfl)
    by_cases h0 : ns.size = 0
    · obtain rfl : ns = #[] := Array.eq_empty_of_size_eq_zero h0
      have h := @PLb q Y la0 l0 nb pl pr tx x k (((n + 1 : Nat)) : Int) (prV P) c1 hlf hc1 hmul hps _ s pos rest hcs hR S1
      simp only [PLb_a, PLb_e, SE.cd, e9] at h
      refine h fun i s2 p2 c2 _ _ S2 => ?_
      clear h
      obtain ⟨pv, hpv⟩ : ∃ pv : PV, (⟨i.N + 0, ⟨⟨[c1]⟩⟩, ((k : Nat) : Int) * 5 - ((k : Nat) : Int), ((k : Nat) : Int) + ((k : Nat) : Int) * ((k : Nat) : Int), ((k : Nat) : Int) + 1⟩ : PV) = pv := ⟨_, rfl⟩
      have e1 : (prV P).push (.ref (i.N + 0)) = prV (P ++ [pv]) := by rw [show i.N + 0 = pv.a by rw [← hpv]]; exact prV_push P pv
      have e2 := plvM_push P pv
      have e3 : plT (i.N + 0) ⟨⟨[c1]⟩⟩ (((k : Nat) : Int) * 5 - ((k : Nat) : Int)) (((k : Nat) : Int) + ((k : Nat) : Int) * ((k : Nat) : Int)) (((k : Nat) : Int) + 1) = pv.dm := by rw [← hpv]; rfl
      rw [e1, e3] at S2
      have S3 := (StD.reord (d' := (lwF1 l0 nb tx pl (some (((k : Nat) : Int), ((k : Nat) : Int))) ++ (([(pl, .arr c_list (prV (P ++ [pv])))] : DM) ++ (riD pr (k + 1) ((n : Nat) : Int) ++ (([(nb, .arr c_list #[])] : DM) ++ (plvM (P ++ [pv]) ++ R)))))) S2 fun a => by simp only [cnt_append, cnt_two, cnt_nil, Nat.add_zero, Nat.zero_add, e2] <;> (try dsimp only [Addr]) <;> with_reducible ac_rfl)
      exact plGo l0 nb pl pr tx ln hln #[] hns hsz hcs hR next n (k + 1) (by omega) (P ++ [pv]) _ (by rw [List.length_append, hP]; rfl) (by simp) S3
    · obtain ⟨m, hm⟩ : ∃ m, ns.size = m + 1 := ⟨ns.size - 1, by omega⟩
      have hm2 : (((m + 1) : Nat) : Int) < 2 ^ 63 := by omega
      have hm3 : ((ns.size : Nat) : Int) < 2 ^ 63 := by omega
      have hm4 : ((ns.size : Nat) : Int) ≠ 0 := by omega
      have q0 : 0 ≤ ((k : Nat) : Int).fmod ((ns.size : Nat) : Int) := Int.fmod_nonneg_of_pos _ (by omega)
      have q1 : ((k : Nat) : Int).fmod ((ns.size : Nat) : Int) < ((ns.size : Nat) : Int) := Int.fmod_lt_of_pos _ (by omega)
      obtain ⟨j, hj⟩ := Int.eq_ofNat_of_zero_le q0
      have hjl : j < ns.size := by omega
      have hg : ns[j]? = some ns[j] := Array.getElem?_eq_getElem hjl
      obtain ⟨v, tn, hv⟩ := hns j _ hg
      rw [hv] at hg
      have hit : ItemAt ns (((k : Nat) : Int).fmod ((ns.size : Nat) : Int)) (.int v tn) := by
        rw [hj]; exact ⟨by omega, by omega, by simpa using hg⟩
      have h := @PLa q Y la0 l0 nb pl pr tx x k (((n + 1 : Nat)) : Int) (prV P) c1 ns m v tn hlf hm hm2 hm3 hm4 hit hc1 hmul hps _ s pos rest hcs hR S1
      simp only [PLa_a, PLa_e, SE.cd, e9] at h
      refine h fun i s2 p2 c2 _ _ S2 => ?_
      clear h
      obtain ⟨pv, hpv⟩ : ∃ pv : PV, (⟨i.N + 0, ⟨⟨[c1]⟩⟩, v * 5 - ((k : Nat) : Int), v + ((k : Nat) : Int) * ((k : Nat) : Int), ((k : Nat) : Int) + 1⟩ : PV) = pv := ⟨_, rfl⟩
      have e1 : (prV P).push (.ref (i.N + 0)) = prV (P ++ [pv]) := by rw [show i.N + 0 = pv.a by rw [← hpv]]; exact prV_push P pv
      have e2 := plvM_push P pv
      have e3 : plT (i.N + 0) ⟨⟨[c1]⟩⟩ (v * 5 - ((k : Nat) : Int)) (v + ((k : Nat) : Int) * ((k : Nat) : Int)) (((k : Nat) : Int) + 1) = pv.dm := by rw [← hpv]; rfl
      rw [e1, e3] at S2
      have S3 := (StD.reord (d' := (lwF1 l0 nb tx pl (some (((k : Nat) : Int), v)) ++ (([(pl, .arr c_list (prV (P ++ [pv])))] : DM) ++ (riD pr (k + 1) ((n : Nat) : Int) ++ (([(nb, .arr c_list ns)] : DM) ++ (plvM (P ++ [pv]) ++ R)))))) S2 fun a => by simp only [cnt_append, cnt_two, cnt_nil, Nat.add_zero, Nat.zero_add, e2] <;> (try dsimp only [Addr]) <;> with_reducible ac_rfl)
      exact plGo l0 nb pl pr tx ln hln ns hns hsz hcs hR next n (k + 1) (by omega) (P ++ [pv]) _ (by rw [List.length_append, hP]; rfl) (by simp) S3
theorem chTurn (l0 z pl : Nat) (tx : Str) (tk : Tok) (k : Nat) (x5 : Option (Nat × Addr)) (ps : Array Value) (sg : Nat) (p : PV) (v : Option CV) (C : List Ch) (hsg : tx.cps[k]? = some sg) (hp : ps[k]? = some (.ref p.a)) (hC : C.length ≤ 50) {R : DM} {rest : List Frame} (hcs : rest.map (·.where_.1) = [cCaller]) (hR : RestB 300 rest)
    (next : ∀ s' p' (c : Ch) v' x5', c.sg = sg → c.f = p.f → c.x = p.x → c.y = p.y → c.z = p.z → v'.isSome = true → x5'.isSome = true → StD (K4 q) (zsD z tx tk (k + 1) ++ (zlD z pl (k + 1) ++ (ztD z ++ (zpD z x5' ++ (zoD z .none ++ (([(pl, .arr c_list ps)] : DM) ++ (([(z + 7, .arr c_list (crefs (C ++ [c])))] : DM) ++ (zdD z v' ++ (p.dm ++ (c.dm ++ R)))))))))) [] s' → Y.H s' ⟨denF (cCh q.P l0 z), cCh q.P l0 z, p', fsC q.P l0 z ++ rest⟩)
    {s : Shared} {pos : Pos} (S : StD (K4 q) (zsD z tx tk k ++ (zlD z pl k ++ (ztD z ++ (zpD z x5 ++ (zoD z .none ++ (([(pl, .arr c_list ps)] : DM) ++ (([(z + 7, .arr c_list (crefs C))] : DM) ++ (zdD z v ++ (p.dm ++ R))))))))) [] s) : Y.H s ⟨denF (cCh q.P l0 z), cCh q.P l0 z, pos, fsC q.P l0 z ++ rest⟩ := by
  have hcz : (crefs C).size ≤ sizeLine := by rw [crefs_size]; exact le_line (by omega)
  have S1 := (StD.reord (d' := ((zsD z tx tk k ++ (zlD z pl k ++ (ztD z ++ (zpD z x5 ++ (zoD z .none ++ [(pl, .arr c_list ps)]))))) ++ (([(z + 7, .arr c_list (crefs C))] : DM) ++ (zdD z v ++ (p.dm ++ R))))) S fun a => by simp only [cnt_append, cnt_two, cnt_nil, Nat.add_zero, Nat.zero_add] <;> (try dsimp only [Addr]) <;> with_reducible ac_rfl)
  have h := @CHa q Y la0 l0 z pl tx tk k x5 ps sg p.a hsg hp _ s pos rest hcs hR S1
  simp only [CHa_a, CHa_e, SE.cd] at h
  refine h fun i s2 p2 c2 _ _ S2 => ?_
  clear h
  generalize hu : i.N + 0 = u at S2 ⊢
  let M : DM := zsD z tx tk (k + 1) ++ (zlD z pl (k + 1) ++ (ztD z ++ (zpD z (some (sg, p.a)) ++ (([(pl, .arr c_list ps)] : DM) ++ (([(u, .seq c_tuple [.str ⟨⟨[sg]⟩⟩, .ref p.a])] : DM) ++ (([(z + 7, .arr c_list (crefs C))] : DM) ++ (zdD z v ++ (p.dm ++ R))))))))
  have S3 := (StD.reord (d' := (zoD z (.raw (.int ((u : Nat) : Int) 0)) ++ M)) S2 fun a => by simp only [cnt_append, cnt_two, cnt_nil, Nat.add_zero, Nat.zero_add, M] <;> (try dsimp only [Addr]) <;> with_reducible ac_rfl)
  refine Y.ownZ (own_compZ' (V0 q.P 0) (cCh q.P l0 z) (z + 6) u (compTup_Ch q.P l0 z)) (a := z + 4) (b := z + 5) (d := M) S3 fun s3 S4 => ?_
  have S4 : StD (K4 q) (zoD z .none ++ M) [] s3 := S4
  have S5 := (StD.reord (d' := ((zoD z .none ++ (([(z + 7, .arr c_list (crefs C))] : DM) ++ (zdD z v ++ (([(u, .seq c_tuple [.str ⟨⟨[sg]⟩⟩, .ref p.a])] : DM) ++ plT p.a p.f p.x p.y p.z)))) ++ (zsD z tx tk (k + 1) ++ (zlD z pl (k + 1) ++ (ztD z ++ (zpD z (some (sg, p.a)) ++ (([(pl, .arr c_list ps)] : DM) ++ R))))))) S4 fun a => by simp only [cnt_append, cnt_two, cnt_nil, Nat.add_zero, Nat.zero_add, M, PV.dm] <;> (try dsimp only [Addr]) <;> with_reducible ac_rfl)
  have h := @CHb q Y la0 l0 z v (crefs C) u sg p.a p.f p.x p.y p.z hcz _ s3 p2 rest hcs hR S5
  simp only [CHb_a, CHb_e, SE.cd] at h
  refine h fun i4 s4 p4 c4 _ _ S6 => ?_
  clear h
  obtain ⟨c, hc⟩ : ∃ c : Ch, (⟨i4.N + 10, i4.N + 9, i4.N + 7, i4.N + 6, sg, p.f, p.x, p.y, p.z⟩ : Ch) = c := ⟨_, rfl⟩
  have e1 : (crefs C).push (.ref (i4.N + 10)) = crefs (C ++ [c]) := by rw [show i4.N + 10 = c.a by rw [← hc]]; exact crefs_push C c
  have e2 : chD (i4.N + 10) (i4.N + 9) (i4.N + 7) ⟨⟨[sg]⟩⟩ ++ locD (i4.N + 7) (i4.N + 6) p.f p.x p.y p.z = c.dm := by rw [← hc]; rfl
  rw [e1, e2] at S6
  have S7 := (StD.reord (d' := (zsD z tx tk (k + 1) ++ (zlD z pl (k + 1) ++ (ztD z ++ (zpD z (some (sg, p.a)) ++ (zoD z .none ++ (([(pl, .arr c_list ps)] : DM) ++ (([(z + 7, .arr c_list (crefs (C ++ [c])))] : DM) ++ (zdD z (some ⟨sg, p.f, p.x, p.y, p.z⟩) ++ (p.dm ++ (c.dm ++ R))))))))))) S6 fun a => by simp only [cnt_append, cnt_two, cnt_nil, Nat.add_zero, Nat.zero_add, PV.dm] <;> (try dsimp only [Addr]) <;> with_reducible ac_rfl)
  exact next s4 p4 c _ _ (by rw [← hc]) (by rw [← hc]) (by rw [← hc]) (by rw [← hc]) (by rw [← hc]) rfl rfl S7
end
end Mine
end
section
set_option linter.unusedVariables false
set_option maxRecDepth 100000
set_option maxHeartbeats 4000000
namespace Mine
open PySem PySem.W PySem.W.X
theorem plM_push (pls : List (Addr × Ch)) (y : Addr × Ch) (a) : cnt a (plM (pls ++ [y])) = cnt a (plM pls) + cnt a (plT y.1 y.2.f y.2.x y.2.y y.2.z) := by
  unfold plM
  rw [cnt_flatMap, List.flatMap_cons, List.flatMap_nil, List.append_nil]
theorem chM_push (C : List Ch) (c : Ch) (a) : cnt a (chM (C ++ [c])) = cnt a (chM C) + cnt a c.dm := by
  unfold chM
  rw [cnt_flatMap, List.flatMap_cons, List.flatMap_nil, List.append_nil]
theorem plvM_cons (p : PV) (P : List PV) : plvM (p :: P) = p.dm ++ plvM P := rfl
structure Made (l : List Nat) (P : List PV) (pls : List (Addr × Ch)) : Prop where
  text : sgS (pls.map (·.2)) = ⟨⟨l⟩⟩
  refs : prefs pls = prV P
section
variable {q : Qd} (Y : Sys (K4 q))
theorem chEnd (l0 nb z pl : Nat) (l : List Nat) (tk : Tok) (P : List PV) (x : Option (Int × Int)) (hx : x = none ↔ l.length = 0) (ns : Array Value) (hsz : ns.size ≤ 100) {R : DM} {rest : List Frame} (hcs : rest.map (·.where_.1) = [cCaller]) (hR : RestB 300 rest)
    (C : List Ch) (k : Nat) (hk : k = l.length) (x5 : Option (Nat × Addr)) (v : Option CV) (e1 : k = 0 → x5 = none ∧ v = none) (e2 : k ≠ 0 → x5.isSome = true ∧ v.isSome = true)
    (next : ∀ s' p' tt, StD (K4 q) (lwF2 l0 nb ⟨⟨l⟩⟩ pl x (z + 7) ++ (([(z + 7, .arr c_list (crefs C))] : DM) ++ R)) [] s' → Y.H s' ⟨denF (cRead (z + 7) ((ns.size : Nat) : Int) tt), cRead (z + 7) ((ns.size : Nat) : Int) tt, p', fsL2 q.P l0 z ++ rest⟩)
    {s : Shared} {pos : Pos} (S : StD (K4 q) ((lwF1 l0 nb ⟨⟨l⟩⟩ pl x ++ (zsD z ⟨⟨l⟩⟩ tk k ++ (zlD z pl k ++ (ztD z ++ (zpD z x5 ++ (zoD z .none ++ (([(z + 7, .arr c_list (crefs C))] : DM) ++ (zdD z v ++ [(nb, .arr c_list ns)])))))))) ++ R) [] s) :
    Y.H s ⟨denF (cCh q.P l0 z), cCh q.P l0 z, pos, fsC q.P l0 z ++ rest⟩ := by
  have hno : (⟨⟨l⟩⟩ : Str).cps[k]? = none := by show (⟨l⟩ : Array Nat)[k]? = none; rw [hk]; simp
  by_cases hk0 : k = 0
  · obtain ⟨rfl, rfl⟩ := e1 hk0
    obtain rfl : x = none := hx.mpr (hk ▸ hk0)
    have hn2 : ((ns.size : Nat) : Int) < 2 ^ 63 := by omega
    have h := @CHze q Y la0 l0 nb z pl ⟨⟨l⟩⟩ tk k (crefs C) ns hno hn2 R s pos rest hcs hR S
    simp only [CHze_a, CHze_e, SE.cd] at h
    refine h fun i s2 p2 c2 _ _ S2 => ?_
    have S3 := (StD.mem_drop (d' := (lwF2 l0 nb ⟨⟨l⟩⟩ pl none (z + 7) ++ (([(z + 7, .arr c_list (crefs C))] : DM) ++ R))) (e := ([(nb, .arr c_list ns)] : DM)) S2 fun a => by simp only [cnt_append, cnt_two, cnt_nil, Nat.add_zero, Nat.zero_add] <;> (try dsimp only [Addr]) <;> with_reducible ac_rfl)
    exact next s2 p2 _ S3
  · obtain ⟨f1, f2⟩ := e2 hk0
    obtain ⟨x5', rfl⟩ := Option.isSome_iff_exists.mp f1
    obtain ⟨v', rfl⟩ := Option.isSome_iff_exists.mp f2
    obtain ⟨x', rfl⟩ : ∃ x', x = some x' := by
      cases x with
      | none => have := hx.mp rfl; omega
      | some x' => exact ⟨x', rfl⟩
    by_cases h0 : ns.size = 0
    · obtain rfl : ns = #[] := Array.eq_empty_of_size_eq_zero h0
      have h := @CHz0 q Y la0 l0 nb z pl ⟨⟨l⟩⟩ tk x' k x5' (crefs C) v' hno R s pos rest hcs hR S
      simp only [CHz0_a, CHz0_e, SE.cd] at h
      refine h fun i s2 p2 c2 _ _ S2 => ?_
      have S3 := (StD.mem_drop (d' := (lwF2 l0 nb ⟨⟨l⟩⟩ pl (some x') (z + 7) ++ (([(z + 7, .arr c_list (crefs C))] : DM) ++ R))) (e := ([(nb, .arr c_list #[])] : DM)) S2 fun a => by simp only [cnt_append, cnt_two, cnt_nil, Nat.add_zero, Nat.zero_add] <;> (try dsimp only [Addr]) <;> with_reducible ac_rfl)
      exact next s2 p2 _ S3
    · have hn2 : ((ns.size : Nat) : Int) < 2 ^ 63 := by omega
      have h := @CHz1 q Y la0 l0 nb z pl ⟨⟨l⟩⟩ tk x' k x5' (crefs C) v' ns hno hn2 R s pos rest hcs hR S
      simp only [CHz1_a, CHz1_e, SE.cd] at h
      refine h fun i s2 p2 c2 _ _ S2 => ?_
      have S3 := (StD.mem_drop (d' := (lwF2 l0 nb ⟨⟨l⟩⟩ pl (some x') (z + 7) ++ (([(z + 7, .arr c_list (crefs C))] : DM) ++ R))) (e := ([(nb, .arr c_list ns)] : DM)) S2 fun a => by simp only [cnt_append, cnt_two, cnt_nil, Nat.add_zero, Nat.zero_add] <;> (try dsimp only [Addr]) <;> with_reducible ac_rfl)
      exact next s2 p2 _ S3
theorem chGo (l0 nb z pl : Nat) (l : List Nat) (tk : Tok) (hll : l.length ≤ 14) (P : List PV) (x : Option (Int × Int)) (hx : x = none ↔ l.length = 0) (ns : Array Value) (hsz : ns.size ≤ 100) {R : DM} {rest : List Frame} (hcs : rest.map (·.where_.1) = [cCaller]) (hR : RestB 300 rest)
    (next : ∀ s' p' tt (pls : List (Addr × Ch)) (C : List Ch), pls.map (·.2) = C → Made l P pls → StD (K4 q) (lwF2 l0 nb ⟨⟨l⟩⟩ pl x (z + 7) ++ (([(z + 7, .arr c_list (crefs C))] : DM) ++ (([(pl, .arr c_list (prV P))] : DM) ++ (plM pls ++ (chM C ++ R))))) [] s' → Y.H s' ⟨denF (cRead (z + 7) ((ns.size : Nat) : Int) tt), cRead (z + 7) ((ns.size : Nat) : Int) tt, p', fsL2 q.P l0 z ++ rest⟩) :
    ∀ (P2 : List PV) (l2 : List Nat) (pls : List (Addr × Ch)) (C : List Ch) (k : Nat), pls.map (·.2) = C → pls.length = k → P2.length = l2.length → P.map (·.a) = pls.map (·.1) ++ P2.map (·.a) → l = pls.map (·.2.sg) ++ l2 → ∀ (x5 : Option (Nat × Addr)) (v : Option CV), (k = 0 → x5 = none ∧ v = none) → (k ≠ 0 → x5.isSome = true ∧ v.isSome = true) → ∀ {s : Shared} {pos : Pos},
      StD (K4 q) (lwF1 l0 nb ⟨⟨l⟩⟩ pl x ++ (zsD z ⟨⟨l⟩⟩ tk k ++ (zlD z pl k ++ (ztD z ++ (zpD z x5 ++ (zoD z .none ++ (([(pl, .arr c_list (prV P))] : DM) ++ (([(z + 7, .arr c_list (crefs C))] : DM) ++ (zdD z v ++ (plvM P2 ++ (plM pls ++ (chM C ++ (([(nb, .arr c_list ns)] : DM) ++ R))))))))))))) [] s →
      Y.H s ⟨denF (cCh q.P l0 z), cCh q.P l0 z, pos, fsC q.P l0 z ++ rest⟩
  | [], l2, pls, C, k, hC, hk, h2, hP, hl, x5, v, e1, e2, s, pos, S => by
    obtain rfl : l2 = [] := List.length_eq_zero_iff.mp h2.symm
    rw [List.append_nil] at hl
    have hlen : k = l.length := by rw [hl, List.length_map, hk]
    have hmade : Made l P pls := ⟨by show (⟨⟨(pls.map (·.2)).map (·.sg)⟩⟩ : Str) = _; rw [hl, List.map_map]; rfl, by
      have h : P.map (·.a) = pls.map (·.1) := by simpa using hP
      show (⟨pls.map fun x => Value.ref x.1⟩ : Array Value) = ⟨P.map fun p => Value.ref p.a⟩
      have h3 : (pls.map (·.1)).map Value.ref = (P.map (·.a)).map Value.ref := by rw [h]
      rw [List.map_map, List.map_map] at h3
      exact congrArg _ h3⟩
    have e0 : plvM [] = [] := rfl
    have S1 := (StD.reord (d' := ((lwF1 l0 nb ⟨⟨l⟩⟩ pl x ++ (zsD z ⟨⟨l⟩⟩ tk k ++ (zlD z pl k ++ (ztD z ++ (zpD z x5 ++ (zoD z .none ++ (([(z + 7, .arr c_list (crefs C))] : DM) ++ (zdD z v ++ [(nb, .arr c_list ns)])))))))) ++ (([(pl, .arr c_list (prV P))] : DM) ++ (plM pls ++ (chM C ++ R))))) S fun a => by simp only [cnt_append, cnt_two, cnt_nil, Nat.add_zero, Nat.zero_add, e0] <;> (try dsimp only [Addr]) <;> with_reducible ac_rfl)
    exact chEnd Y l0 nb z pl l tk P x hx ns hsz hcs hR C k hlen x5 v e1 e2 (fun s' p' tt S' => next s' p' tt pls C hC hmade S') S1
  | p :: P2, l2, pls, C, k, hC, hk, h2, hP, hl, x5, v, e1, e2, s, pos, S => by
    cases l2 with
    | nil => cases h2
    | cons sg l2 =>
      have hsg : (⟨⟨l⟩⟩ : Str).cps[k]? = some sg := by show (⟨l⟩ : Array Nat)[k]? = _; rw [hl, ← hk]; simp
      have hpl : pls.length ≤ 14 := by have := congrArg List.length hl; rw [List.length_append, List.length_map] at this; omega
      have hCl : C.length ≤ 50 := by rw [← hC, List.length_map]; omega
      have hp : (prV P)[k]? = some (.ref p.a) := by
        show (⟨P.map fun p => Value.ref p.a⟩ : Array Value)[k]? = _
        have : (P.map (·.a))[k]? = some p.a := by rw [hP, ← hk]; simp
        rw [List.getElem?_map] at this
        cases hq : P[k]? with
        | none => rw [hq] at this; cases this
        | some p' => rw [hq] at this; simp [hq]; exact Option.some.inj this
      have S1 := (StD.reord (d' := (zsD z ⟨⟨l⟩⟩ tk k ++ (zlD z pl k ++ (ztD z ++ (zpD z x5 ++ (zoD z .none ++ (([(pl, .arr c_list (prV P))] : DM) ++ (([(z + 7, .arr c_list (crefs C))] : DM) ++ (zdD z v ++ (p.dm ++ (lwF1 l0 nb ⟨⟨l⟩⟩ pl x ++ (plvM P2 ++ (plM pls ++ (chM C ++ (([(nb, .arr c_list ns)] : DM) ++ R))))))))))))))) S fun a => by simp only [cnt_append, cnt_two, cnt_nil, Nat.add_zero, Nat.zero_add, plvM_cons] <;> (try dsimp only [Addr]) <;> with_reducible ac_rfl)
      refine chTurn Y l0 z pl ⟨⟨l⟩⟩ tk k x5 (prV P) sg p v C hsg hp hCl hcs hR (fun s2 p2 c v' x5' g1 g2 g3 g4 g5 g6 g7 S2 => ?_) S1
      have hc : (pls ++ [(p.a, c)]).map (·.2) = C ++ [c] := by rw [List.map_append, hC]; rfl
      have f1 := plM_push pls (p.a, c)
      have f2 := chM_push C c
      have f3 : plT p.a c.f c.x c.y c.z = p.dm := by rw [g2, g3, g4, g5]; rfl
      have hlen1 : (pls ++ [(p.a, c)]).length = k + 1 := by rw [List.length_append, hk]; rfl
      have S3 := (StD.reord (d' := (lwF1 l0 nb ⟨⟨l⟩⟩ pl x ++ (zsD z ⟨⟨l⟩⟩ tk (k + 1) ++ (zlD z pl (k + 1) ++ (ztD z ++ (zpD z x5' ++ (zoD z .none ++ (([(pl, .arr c_list (prV P))] : DM) ++ (([(z + 7, .arr c_list (crefs (C ++ [c])))] : DM) ++ (zdD z v' ++ (plvM P2 ++ (plM (pls ++ [(p.a, c)]) ++ (chM (C ++ [c]) ++ (([(nb, .arr c_list ns)] : DM) ++ R)))))))))))))) S2 fun a => by simp only [cnt_append, cnt_two, cnt_nil, Nat.add_zero, Nat.zero_add, f1, f2, f3] <;> (try dsimp only [Addr]) <;> with_reducible ac_rfl)
      have k1 : P2.length = l2.length := by simpa using h2
      have k2 : P.map (·.a) = (pls ++ [(p.a, c)]).map (·.1) ++ P2.map (·.a) := by rw [hP]; simp
      have k3 : l = (pls ++ [(p.a, c)]).map (·.2.sg) ++ l2 := by
        have e : (pls ++ [(p.a, c)]).map (·.2.sg) = pls.map (·.2.sg) ++ [sg] := by rw [List.map_append, ← g1]; rfl
        rw [e, List.append_assoc]; exact hl
      exact chGo l0 nb z pl l tk hll P x hx ns hsz hcs hR next P2 l2 (pls ++ [(p.a, c)]) (C ++ [c]) (k + 1) hc hlen1 k1 k2 k3 x5' v' (fun h => by cases h) (fun _ => ⟨g7, g6⟩) S3
end
end Mine
end
section
set_option linter.unusedVariables false
set_option maxRecDepth 100000
set_option maxHeartbeats 4000000
namespace Mine
open PySem PySem.W PySem.W.X
theorem fsL0_cs (P : Params) (A : LA) : (fsL0 P A.l0).map (·.where_.1) = [cLawB P A] := by kernel_rfl
theorem nf_L01 (P : Params) (l0 : Nat) (rest : List Frame) : topHandled (fsL0 P l0 ++ rest) = topHandled rest := by kernel_rfl
theorem nf_L02 (P : Params) (l0 : Nat) (rest : List Frame) : topHandled.go true (fsL0 P l0 ++ rest) = topHandled.go true rest := by kernel_rfl
theorem nf_L03 (P : Params) (l0 : Nat) : wts ((fsL0 P l0).map Frame.where_) = 1 := by kernel_rfl
theorem nf_L0 (P : Params) (l0 : Nat) : NF (fsL0 P l0) := nf_of (nf_L01 P l0) (nf_L02 P l0) (one_le_two (nf_L03 P l0))
theorem fsL2_cs (P : Params) (A : LA) (z : Nat) : (fsL2 P A.l0 z).map (·.where_.1) = [cLawB P A] := by kernel_rfl
theorem nf_L21 (P : Params) (l0 z : Nat) (rest : List Frame) : topHandled (fsL2 P l0 z ++ rest) = topHandled rest := by kernel_rfl
theorem nf_L22 (P : Params) (l0 z : Nat) (rest : List Frame) : topHandled.go true (fsL2 P l0 z ++ rest) = topHandled.go true rest := by kernel_rfl
theorem nf_L23 (P : Params) (l0 z : Nat) : wts ((fsL2 P l0 z).map Frame.where_) = 1 := by kernel_rfl
theorem nf_L2 (P : Params) (l0 z : Nat) : NF (fsL2 P l0 z) := nf_of (nf_L21 P l0 z) (nf_L22 P l0 z) (one_le_two (nf_L23 P l0 z))
theorem lawEnv_ok (P : Params) (A : LA) : isMod (lawEnv P A).scope.kind = false := by kernel_rfl
theorem fsL2_env (P : Params) (A : LA) (z : Nat) : ∃ r c, fsL2 P A.l0 z = [RF.fr r c] ∧ c.isFrame = true ∧ c.env? = some (lawEnv P A) :=
  ⟨rfOf (fsL2 P A.l0 z), frC (fsL2 P A.l0 z), by kernel_rfl, by kernel_rfl, by kernel_rfl⟩
theorem restE_C (d : DM) (k6 : CallF) : RestE d [fCall k6] := fun y hy => by
  have h : envsOf ([fCall k6].map Frame.where_) = [] := rfl
  rw [h] at hy
  cases hy
theorem restE_L {P : Params} {A : LA} {z : Nat} {d : DM} (k6 : CallF) (h : FrIn d A.l0) : RestE d (fsL2 P A.l0 z ++ [fCall k6]) := by
  obtain ⟨r, c, hfs, h1, h2⟩ := fsL2_env P A z
  refine restE_cons (x := lawEnv P A) ?_ (envOk_of (lawEnv_ok P A) rfl h) (restE_C d k6)
  rw [hfs]
  show envsOf ((c, _) :: [fCall k6].map Frame.where_) = _
  rw [envsOf_yes h1 h2]
theorem ascii_al {l : List Nat} (h : Al l) : (⟨⟨l⟩⟩ : Str).cps.all (· < 128) = true := by
  have ha : ∀ c ∈ alpha, decide (c < 128) = true := by decide
  show (⟨l⟩ : Array Nat).all (· < 128) = true
  rw [← Array.all_toList, List.all_eq_true]
  exact fun c hc => ha c (h c hc)
theorem AllInt.upto {a : Array Value} (h : AllInt a) (n : Nat) : AllInt (slicePick a none (some (n : Int)) none) := by
  rw [slicePick_upto' a n]
  intro j v hj
  have : v ∈ a.toList.take n := List.mem_of_getElem? (by simpa using hj)
  obtain ⟨k, hk, e⟩ := List.mem_iff_getElem.mp (List.mem_of_mem_take this)
  exact h k v (by rw [← Array.getElem?_toList, List.getElem?_eq_getElem hk, e])
section
variable {q : Qd} (Y : Sys (K4 q))
theorem lawTail (l0 nb z pl : Nat) (l : List Nat) (ha : Al l) (hl : l.length ≤ 14) (P : List PV) (x : Option (Int × Int)) (pls : List (Addr × Ch)) (C : List Ch) (hC : pls.map (·.2) = C) (hM : Made l P pls) (tu : Int) (tt : Tok) (k6 : CallF) (sc : Array Value) {R : DM}
    (last : ∀ s' p' c' fo vt, StD (K4 q) (([(270, .raw (listO sc 0))] : DM) ++ (tabD fo ++ (nvD ++ (([(252, .tab vt)] : DM) ++ R)))) [] s' → Y.H s' ⟨.pure (.done (.ret (.bool true))), c', p', [fCall k6]⟩)
    {s : Shared} {pos : Pos} (S : StD (K4 q) (lwF2 l0 nb ⟨⟨l⟩⟩ pl x (z + 7) ++ (([(z + 7, .arr c_list (crefs C))] : DM) ++ (([(pl, .arr c_list (prV P))] : DM) ++ (plM pls ++ (chM C ++ (([(270, .raw (listO sc 0))] : DM) ++ (tabD none ++ (nvD ++ (([(252, .tab [])] : DM) ++ R))))))))) [] s) :
    Y.H s ⟨denF (cRead (z + 7) tu tt), cRead (z + 7) tu tt, pos, fsL2 q.P l0 z ++ [fCall k6]⟩ := by
  obtain ⟨A, hA1, hA2⟩ : ∃ A : LA, A.l0 = l0 ∧ A.cl = z + 7 := ⟨⟨l0, 0, z + 7, 0, 0, 0, 0⟩, rfl, rfl⟩
  rw [← hA1, ← hA2] at S ⊢
  have ht : sgS C = ⟨⟨l⟩⟩ := by rw [← hC]; exact hM.text
  have hm : C.map (·.sg) = l := by
    have : (sgS C).cps = (⟨l⟩ : Array Nat) := by rw [ht]
    exact congrArg Array.toList this
  have hal : ∀ x ∈ C, x.sg ∈ alpha := fun x hx => ha x.sg (hm ▸ List.mem_map_of_mem hx)
  have hlen : C.length ≤ 14 := by rw [← hm, List.length_map] at hl; exact hl
  have hcs : (fsL2 q.P A.l0 z ++ [fCall k6]).map (·.where_.1) = [cLawB q.P A, cCaller] := by rw [List.map_append, fsL2_cs, fCall_cs]; rfl
  have hR : RestB 3 (fsL2 q.P A.l0 z ++ [fCall k6]) := nf_L2 q.P A.l0 z (fCall_ok k6)
  rw [← ht, ← hM.refs] at S
  let R' : DM := lwF2 A.l0 nb (sgS C) pl x A.cl ++ (([(pl, .arr c_list (prefs pls))] : DM) ++ (plM pls ++ (([(270, .raw (listO sc 0))] : DM) ++ R)))
  have hE : RestE R' (fsL2 q.P A.l0 z ++ [fCall k6]) := restE_L k6 (frIn_of (List.mem_append_left _ (List.mem_cons_self ..)))
  have S1 := (StD.reord (d' := (([(A.cl, .arr c_list (crefs C))] : DM) ++ (([(252, .tab [])] : DM) ++ (chM C ++ (tabD none ++ (nvD ++ R')))))) S fun a => by simp only [cnt_append, cnt_two, cnt_nil, Nat.add_zero, Nat.zero_add, R'] <;> (try dsimp only [Addr]) <;> with_reducible ac_rfl)
  refine readAll Y A C hal hlen tu tt hcs (hR.mono (by omega)) hE (fun s2 p2 c2 se fo vt D hD S2 => ?_) S1
  have S3 := (StD.reord (d' := (lwF2 A.l0 nb (sgS C) pl x A.cl ++ (([(se, .arr c_list (refsR D))] : DM) ++ (resM D ++ (([(pl, .arr c_list (prefs pls))] : DM) ++ (plM pls ++ (([(270, .raw (listO sc 0))] : DM) ++ (tabD fo ++ (nvD ++ (([(252, .tab vt)] : DM) ++ R)))))))))) S2 fun a => by simp only [cnt_append, cnt_two, cnt_nil, Nat.add_zero, Nat.zero_add, R'] <;> (try dsimp only [Addr]) <;> with_reducible ac_rfl)
  exact lawEnd Y A C nb z pl se k6 x pls hC hal hlen D hD (fun s' p' c' S' => last s' p' c' fo vt S') S3
theorem lawWalk (k6 : CallF) (sc : Array Value) (hsc : AllInt sc) (hsz : sc.size ≤ 63) {R : DM}
    (last : ∀ s' p' c' fo vt, StD (K4 q) (([(270, .raw (listO sc 0))] : DM) ++ (tabD fo ++ (nvD ++ (([(252, .tab vt)] : DM) ++ R)))) [] s' → Y.H s' ⟨.pure (.done (.ret (.bool true))), c', p', [fCall k6]⟩)
    {s : Shared} {pos : Pos} (S : StD (K4 q) (([(270, .raw (listO sc 0))] : DM) ++ (tabD none ++ (nvD ++ (([(252, .tab [])] : DM) ++ R)))) [] s) : Y.H s ⟨denF cLaw0, cLaw0, pos, [fCall k6]⟩ := by
  have hC := fCall_ok k6
  obtain ⟨ns, hns⟩ : ∃ ns, slicePick sc none (some ((16 : Nat) : Int)) none = ns := ⟨_, rfl⟩
  have hsl : SliceL sc none (some 16) ns := ⟨le_line (by omega), hns⟩
  have hI : AllInt ns := hns ▸ hsc.upto 16
  have hnl : ns.size ≤ 100 := by rw [← hns, slicePick_upto' sc 16]; simp; omega
  have h := @LW0 q Y sc ns hsl _ s pos [fCall k6] (fCall_cs k6) (hC.mono (by omega)) S
  simp only [LW0_a, LW0_e, SE.cd] at h
  refine h fun i s1 p1 c1 _ _ S1 => ?_
  clear h
  generalize hl0 : i.N = l0 at S1 ⊢
  generalize hnb : l0 + 2 = nb at S1 ⊢
  obtain ⟨B, hB⟩ : ∃ B : LA, B.l0 = l0 := ⟨⟨l0, 0, 0, 0, 0, 0, 0⟩, rfl⟩
  have hcs0 : (fsL0 q.P l0 ++ [fCall k6]).map (·.where_.1) = [cLawB q.P B, cCaller] := by rw [← hB, List.map_append, fsL0_cs, fCall_cs]; rfl
  have hR0 : RestB 3 (fsL0 q.P l0 ++ [fCall k6]) := nf_L0 q.P l0 hC
  let M : DM := ([(270, .raw (listO sc 0))] : DM) ++ (tabD none ++ (nvD ++ (([(252, .tab [])] : DM) ++ R)))
  have S1 : StD (K4 q) ((lwF0 l0 nb ++ (([(nb, .arr c_list ns)] : DM) ++ ([(270, .raw (listO sc 0))] : DM))) ++ (tabD none ++ (nvD ++ (([(252, .tab [])] : DM) ++ R)))) [] s1 := S1
  have S2 := (StD.reord (d' := (([(nb, .arr c_list ns)] : DM) ++ (lwF0 l0 nb ++ M))) S1 fun a => by simp only [cnt_append, cnt_two, cnt_nil, Nat.add_zero, Nat.zero_add, M] <;> (try dsimp only [Addr]) <;> with_reducible ac_rfl)
  refine txAll Y B nb ns hI hnl hcs0 (hR0.mono (by omega)) (fun s2 p2 c2 l tk ha hl S3 => ?_) S2
  have S4 := (StD.reord (d' := (lwF0 l0 nb ++ (([(nb, .arr c_list ns)] : DM) ++ M))) S3 fun a => by simp only [cnt_append, cnt_two, cnt_nil, Nat.add_zero, Nat.zero_add] <;> (try dsimp only [Addr]) <;> with_reducible ac_rfl)
  have hq1 : ((⟨⟨l⟩⟩ : Str).length : Int) < 2 ^ 63 := len_63 (by omega)
  have hq2 : (0 : Int) ≤ ((⟨⟨l⟩⟩ : Str).length : Int) := by omega
  have hq3 : ((⟨⟨l⟩⟩ : Str).length : Int) < 1000 := by rw [str_len]; omega
  have h := @LW1 q Y l0 nb ⟨⟨l⟩⟩ tk c2 hq1 (Int.le_refl 0) hq2 hq3 _ s2 p2 [fCall k6] (fCall_cs k6) (hC.mono (by omega)) S4
  simp only [LW1_a, LW1_e, SE.cd] at h
  refine h fun i3 s3 p3 c3 _ _ S5 => ?_
  clear h
  generalize hpl : i3.N + 0 = pl at S5
  generalize hpr : i3.N + 2 = pr at S5 ⊢
  have e0 : prV [] = #[] := rfl
  have e1 : plvM [] = [] := rfl
  have e2 : (((⟨⟨l⟩⟩ : Str).length : Nat) : Int) = ((l.length : Nat) : Int) := rfl
  rw [e2] at S5
  have S6 := (StD.reord (d' := (lwF1 l0 nb ⟨⟨l⟩⟩ pl none ++ (([(pl, .arr c_list (prV []))] : DM) ++ (riD pr 0 ((l.length : Nat) : Int) ++ (([(nb, .arr c_list ns)] : DM) ++ (plvM [] ++ M)))))) S5 fun a => by simp only [cnt_append, cnt_two, cnt_nil, Nat.add_zero, Nat.zero_add, e0, e1] <;> (try dsimp only [Addr]) <;> with_reducible ac_rfl)
  refine plGo Y l0 nb pl pr ⟨⟨l⟩⟩ l.length hl ns hI hnl (fCall_cs k6) (hC.mono (by omega)) (fun s4 p4 P x hP hx S7 => ?_) l.length 0 (by omega) [] none rfl (by simp) S6
  have S8 := (StD.reord (d' := ((lwF1 l0 nb ⟨⟨l⟩⟩ pl x ++ (([(pl, .arr c_list (prV P))] : DM) ++ riD pr l.length 0)) ++ (([(nb, .arr c_list ns)] : DM) ++ (plvM P ++ M)))) S7 fun a => by simp only [cnt_append, cnt_two, cnt_nil, Nat.add_zero, Nat.zero_add] <;> (try dsimp only [Addr]) <;> with_reducible ac_rfl)
  have h := @PLz q Y B l0 nb pl pr ⟨⟨l⟩⟩ x l.length (prV P) (ascii_al ha) _ s4 p4 [fCall k6] (fCall_cs k6) (hC.mono (by omega)) S8
  simp only [PLz_a, PLz_e, SE.cd] at h
  refine h fun i5 s5 p5 c5 _ _ S9 => ?_
  clear h
  generalize hz : i5.N = z at S9 ⊢
  generalize htk : i5.τ 0 5 = tk2 at S9
  have e3 : crefs [] = #[] := rfl
  have e4 : plM [] = [] := rfl
  have e5 : chM [] = [] := rfl
  have S10 := (StD.reord (d' := (lwF1 l0 nb ⟨⟨l⟩⟩ pl x ++ (zsD z ⟨⟨l⟩⟩ tk2 0 ++ (zlD z pl 0 ++ (ztD z ++ (zpD z none ++ (zoD z .none ++ (([(pl, .arr c_list (prV P))] : DM) ++ (([(z + 7, .arr c_list (crefs []))] : DM) ++ (zdD z none ++ (plvM P ++ (plM [] ++ (chM [] ++ (([(nb, .arr c_list ns)] : DM) ++ M)))))))))))))) S9 fun a => by simp only [cnt_append, cnt_two, cnt_nil, Nat.add_zero, Nat.zero_add, e3, e4, e5] <;> (try dsimp only [Addr]) <;> with_reducible ac_rfl)
  have k2 : P.map (·.a) = ([] : List (Addr × Ch)).map (·.1) ++ P.map (·.a) := rfl
  have k3 : l = ([] : List (Addr × Ch)).map (·.2.sg) ++ l := rfl
  refine chGo Y l0 nb z pl l tk2 hl P x hx ns hnl (fCall_cs k6) (hC.mono (by omega)) (fun s6 p6 tt pls C hCC hM S11 => ?_) P l [] [] 0 rfl rfl hP k2 k3 none none (fun _ => ⟨rfl, rfl⟩) (fun h => absurd rfl h) S10
  exact lawTail Y l0 nb z pl l ha hl P x pls C hCC hM ((ns.size : Nat) : Int) tt k6 sc last S11
end
end Mine
end
section
set_option maxRecDepth 100000
namespace Mine
open PySem PySem.W PySem.Spec PySem.Calls PyProof.Rows
abbrev callTree (name : Str) (vs : List Value) : Sem Fin := do
  match ← nsGet mainNs name with
  | some f => do ret (← PySem.call f vs)
  | none => unsupported "claim.caller:no-such-global"
noncomputable def HaltsGood (r : RowW) (w : World) (s₀ s₁ : Shared) (args : List WData) (vs : List Value) : Prop :=
  ∃ n res s', (model r.prog w).runN n s₁ ⟨callTree r.name vs, .builtin "claim.caller" {}, default, []⟩ = .halted (outcomeOf res) s' ∧
    GoodWG r.claim (classAt s₀.heap) (ExcName.means s₀.heap) args s₁ res s'
theorem run_from {c : ClaimW} {w : World} {s : Shared} {tree : List Value → Sem Fin} {free : Addr → Prop} {gens : Prop} {kept : Heap → Prop} (hz : s.asleep) (hgens : s.gens = #[])
    (hspec : ∀ args, c.pre args = true → WData.layableAll args = true → ∀ ord : List DictEntry → List DictEntry, (∀ l, (ord l).Perm l) →
      ∃ vs s₁, layAllW c.records (classAt s.heap) w.params ord args s = some (vs, s₁) ∧
        ∃ n res s', (model c.prog w).runN n s₁ ⟨tree vs, .builtin "claim.caller" {}, default, []⟩ = .halted (outcomeOf res) s' ∧ c.Ends s args vs s₁ res s' ∧ s'.os = s.os ∧ kept s'.heap) :
    c.CallFrom (fun vs => ⟨tree vs, .builtin "claim.caller" {}, default, []⟩) w free gens kept s := by
  intro args hpre hlay ord hord
  obtain ⟨vs, s₁, hl, n, res, s', hrun, hends, hos, hkp⟩ := hspec args hpre hlay ord hord
  have al := layAllW_rest _ _ _ hl
  have hwp := (wp_iff_halts (M := model c.prog w) (tree vs) (fun r s' => c.Ends s args vs s₁ r s' ∧ s'.os = s.os ∧ kept s'.heap) default s₁ (c := .builtin "claim.caller" {})).mpr ⟨n, res, s', hrun, hends, hos, hkp⟩
  obtain ⟨k, res, s', s'', hsched, hreal, hfo, hE, hos, hkp⟩ := wp_halts_full (Shared.asleep_of_life al.2.2.2 hz) hwp
  obtain ⟨eh, _, _, eo, _⟩ := Shared.forget_eq hfo
  have hE := hE.congr eh
  have hkp : kept s''.heap := by rw [eh]; exact hkp
  have hos' : s''.os = s.os := by rw [eo]; exact hos
  have hlife : s''.heap.life = s.heap.life := (runN_life _ _ _ hreal).trans al.2.2.2
  refine ⟨vs, s₁, hl, k, _, s'', hsched, ?_, (fun _ i x hx => by rw [hgens] at hx; simp at hx), hkp, by rw [hlife], Shared.rest_eq hos'⟩
  rcases hE with ⟨v, rfl, d1, d2, d3, d4, d5⟩ | ⟨e, ob, cls, rfl, d1, d2, d3, d4, d5⟩
  · exact .inl ⟨v, rfl, d1, d2, d3, fun b o y _ => d4 b o y, d5⟩
  · exact .inr ⟨e, ob, cls, rfl, d1, d2, d3, d4, fun b o y _ => d5 b o y⟩
abbrev WalkM (q : Program) (loose : List Str) (XP : (Str → Option Value) → Heap → Prop) {α : Type} (Yf : Shared → α) (Ya : World → α) (r : RowW) : Prop :=
  ∀ (w : World) (s₀ s₁ : Shared) (mg mb : Str → Option Value), Ground q loose r.records XP w s₀ mg mb s₁.heap → Yf s₀ = Ya w → s₁.gens = #[] →
    ∀ (args : List WData) (vals : List Value) (as : List Addr), Laid r.records w s₀ s₁ args vals as → r.claim.pre args = true → WData.layableAll args = true → HaltsGood r w s₀ s₁ args vals
theorem PySem.W.holds_openX {r : OpenRow} {q : Program} {loose : List Str} {Xt : Shared → Bool} {XP : (Str → Option Value) → Heap → Prop} {α : Type} {Yf : Shared → α} {Ya : World → α} {d : DefRec} {kwd : List (Str × Expr)} {N : Nat}
    (left : LeftO r.prog q loose Xt Yf Ya N)
    (hX : ∀ s, Xt s = true → XP (s.heap.nsMap mainGlobals) s.heap) (hXk : ∀ mg h h', XP mg h → (∀ b o, h.get? b = some o → h'.get? b = some o) → XP mg h')
    (hdef : defOf q r.name = some (d, kwd)) (hp : r.prog.theDef r.name = some (d.params, d.body, d.scope)) (hk : kwWritten? d.params.kwonlyargs d.params.kw_defaults = some kwd) (hRf : ∀ s, Xt s = true → RecFacts r.records s.heap) (hwr : (!r.writes || r.records.isEmpty) = true)
    (k1 : r.wellSaid = true) (ok : (chainsOk q && opensWell r.prog && (frees r.toRowW && r.within.isEmpty)) = true) (hb : r.prog.bare) (hw : r.toRowW.promised)
    (call : WalkM q loose XP Yf Ya r.toRowW) : r.Holds := by
  simp only [Bool.and_eq_true] at ok
  obtain ⟨⟨hch, hop⟩, hfr, hin⟩ := ok
  obtain ⟨hsame, hu, ha, hap, hmk⟩ := frees_parts hfr
  refine ⟨k1, hw, ⟨hb, hop, by show r.makers.map _ = []; rw [hmk]; rfl⟩, hw.witness, fun w => ⟨(left.behind hX hch w).1, fun s' hs' => ?_⟩⟩
  obtain ⟨s₀, hf, hg0, s, hT, hz, hgens, hg, G00, y⟩ := (left.behind (XP := fun mg h => XP mg h ∧ RecFacts r.records h) (fun s hs => ⟨hX s hs, hRf s hs⟩) hch w).2 s' hs'
  have G0 : Ground q loose [] XP w s (s.heap.nsMap mainGlobals) (s.heap.nsMap builtinsNs) s.heap := ⟨G00.T, G00.B, G00.D, G00.TE, G00.TD, G00.W, G00.X.1, G00.cls, G00.has, G00.apart, G00.once, G00.K⟩
  have RF := G00.X.2
  refine ⟨s₀, hf, hg0, s, hT, fun n hn => ?_, RF.1, RF.2.1, ?_⟩
  · obtain rfl : n = r.name := by split at hn <;> simp_all
    exact pinned_of_view hg G0 hdef hp hk
  have hgens : s.gens = #[] := Array.eq_empty_of_size_eq_zero (beq_iff_eq.mp hgens)
  have G : Ground q loose r.records XP w s _ _ s.heap := RF.ground G0
  refine run_from (c := r.toRowW.claim) hz hgens fun args hpre hlay ord hord => ?_
  obtain ⟨⟨vs, s₁⟩, hl⟩ := Option.isSome_iff_exists.mp (layAllW_isSome (P := w.params) (ord := ord) G.has args r.args s (pre_splitW hpre).1)
  have keeps := layAllW_keeps _ _ _ hl
  have al := layAllW_rest _ _ _ hl
  obtain ⟨as, hrd, hin', hold⟩ := reads_layAllW hord _ _ _ hl hlay s₁.heap (fun _ _ e => e)
  have L : Laid r.records w s s₁ args vs as := ⟨⟨ord, hord, hl⟩, hrd, hin', hold, keeps, al.1.trans hgens, al.2.2.1⟩
  obtain ⟨n, res, s', hrun, good⟩ := call w s s₁ _ _ (G.keeps hXk keeps) y (al.1.trans hgens) args vs as L hpre hlay
  have z := good.laid (c := r.toRowW.claim) hsame (List.isEmpty_iff.mp hin) (ident_freeW hu ha hap) L
  exact ⟨vs, s₁, hl, n, res, s', hrun, z.1, z.2.1, fun q => ⟨namesKept_of hT hg _ keeps good.2.1.old, noTable hwr q⟩⟩
end Mine
end
section
open PySem PySem.W PySem.W.X PyProof.Rows
set_option linter.unusedVariables false
set_option maxRecDepth 100000
set_option maxHeartbeats 4000000
namespace Mine
theorem AllInt.of {a : Array Value} (h : ∀ v ∈ a.toList, ∃ (i : Int) (t : Tok), v = Value.int i t) : AllInt a := fun j v hj => h v (List.mem_of_getElem? (by rw [Array.getElem?_toList]; exact hj))
theorem argsOf {args : List WData} (hpre : PySem.Challenge.rw_rk0005_04.row.toRowW.claim.pre args = true) (hlay : WData.layableAll args = true) : ∃ ns : List Int, args = [ofPy (PyData.list (ns.map PyData.int))] ∧ ns.length ≤ 63 := by
  have hsh := (pre_splitW hpre).1
  have hcond := (pre_splitW hpre).2
  wrow_hasAll hsh hlay
  all_goals (w_cond hcond)
  exact ⟨_, rfl, by omega⟩
theorem lay_vals {R : WRecords} {cl : Str → Option Addr} {P : Params} {ord : List DictEntry → List DictEntry} : ∀ (ns : List Int) (s : Shared) (r : List Value × Shared), layAllW R cl P ord (ofPys (ns.map PyData.int)) s = some r →
    (∀ v ∈ r.1, ∃ (i : Int) (t : Tok), v = Value.int i t) ∧ r.1.length = ns.length ∧ r.2.heap = s.heap
  | [], s, r, e => by
    simp only [List.map_nil, ofPys, layAllW] at e
    cases e
    exact ⟨(fun _ h => by cases h), rfl, rfl⟩
  | n :: ns, s, r, e => by
    simp only [List.map_cons, ofPys, ofPy, layAllW, layW] at e
    cases q : layAllW R cl P ord (ofPys (List.map PyData.int ns)) { s with toks := s.toks + 1 } with
    | none => rw [q] at e; cases e
    | some r' =>
      rw [q] at e
      cases e
      obtain ⟨h1, h2, h3⟩ := lay_vals ns { s with toks := s.toks + 1 } r' q
      refine ⟨fun v hv => ?_, by simp [h2], h3⟩
      rcases List.mem_cons.mp hv with rfl | hv
      · exact ⟨_, _, rfl⟩
      · exact h1 v hv
theorem script_obj {R : WRecords} {w : World} {s₀ s₁ : Shared} {ns : List Int} {vs : List Value} {as : List Addr} (L : Laid R w s₀ s₁ [ofPy (PyData.list (ns.map PyData.int))] vs as) :
    vs = [.ref s₀.heap.objs.size] ∧ s₁.heap.objs.size = s₀.heap.objs.size + 1 ∧ ∃ xs : Array Value, AllInt xs ∧ xs.size = ns.length ∧ s₁.heap.get? s₀.heap.objs.size = some (listO xs 0) := by
  obtain ⟨ord, _, e⟩ := L.laid
  simp only [ofPy, layAllW, layW] at e
  cases q : layAllW R (classAt s₀.heap) w.params ord (ofPys (List.map PyData.int ns)) s₀ with
  | none => rw [q] at e; cases e
  | some r =>
    rw [q] at e
    obtain ⟨h1, h2, h3⟩ := lay_vals ns s₀ r q
    simp only [Option.some.injEq, Prod.mk.injEq] at e
    obtain ⟨ea, es⟩ := e
    rw [← es, ← ea, h3]
    refine ⟨rfl, Heap.size_push .., r.1.toArray, AllInt.of fun v hv => h1 v (by simpa using hv), by simp [h2], ?_⟩
    exact Heap.get?_push_size _ rfl
theorem halts_of {M : Model} {s th s' th'} {o : Outcome} {s'' : Shared} (h : Comes M s th s' th') (k : ∃ n, M.runN n s' th' = .halted o s'') : ∃ n, M.runN n s th = .halted o s'' := by
  obtain ⟨n, hn⟩ := h
  induction n generalizing s th with
  | zero =>
    have e : Run.running s th = .running s' th' := hn
    injection e with e1 e2
    subst e1 e2
    exact k
  | succ n ih =>
    rw [runN_succ] at hn
    cases hs : M.step s th with
    | go s₂ t₂ =>
      simp only [hs] at hn
      obtain ⟨m, hm⟩ := ih hn
      exact ⟨m + 1, by rw [runN_succ, hs]; exact hm⟩
    | halt o s₂ => simp only [hs] at hn; cases hn
noncomputable def oCall (P : Params) (p : Pos) : Out := run (V0 P 0) 2 (callTree PySem.Challenge.rw_rk0005_04.name [.ref 270]) (.builtin b_caller {}) p [] [] 0 0 [] 0 [.b] []
noncomputable def kCall (P : Params) : Result → Sem PySem.Fin := (rfOf (oCall P default).fs).k
theorem kCall_end (P : Params) : kCall P (.ok (.ret (.bool true))) = (.pure (.done (.ret (.bool true))) : Sem PySem.Fin) := by kernel_rfl
noncomputable def P00_a (q : Qd) : SG := ⟨2, callTree PySem.Challenge.rw_rk0005_04.name [.ref 270], .builtin b_caller {}, [], [], [], [.b], []⟩
noncomputable def P00_e (q : Qd) (i : In) : SE := ⟨denF cLaw0, some cLaw0, [fCall (kCall q.P, i.p)], [], []⟩
theorem P00_r (q : Qd) : RunsA (K4 q) (P00_a q) (fun _ => []) (fun _ => []) (P00_e q) := by
  intro W i; kernel_rfl
theorem P00 {q : Qd} (Y : Sys (K4 q)) : SegT Y (P00_a q) (P00_e q) := Y.seg (P00_r q) (show List.Nodup [] by decide) (fun i hN => AllOk.nil)
theorem tab180 (P : Params) : (kt P).get 180 = some ⟨.none, none, .fields #[], #[]⟩ := by kernel_rfl
theorem tab252 (P : Params) : (kt P).get 252 = some ⟨.none, none, .fields #[], #[]⟩ := by kernel_rfl
theorem lst242 (P : Params) : (kt P).get 242 = some (listO nvV 0) := by kernel_rfl
theorem code180 (P : Params) : (match (kt P).get 184 with | some o => (match o.cls, o.data with | .type n, .fields vs => (Nat.beq (S.codeS n) (S.codeS "code"), vs[11]?) | _, _ => (false, none)) | none => (false, none)) = (true, some (.ref 180)) := by kernel_rfl
theorem code252 (P : Params) : (match (kt P).get 256 with | some o => (match o.cls, o.data with | .type n, .fields vs => (Nat.beq (S.codeS n) (S.codeS "code"), vs[11]?) | _, _ => (false, none)) | none => (false, none)) = (true, some (.ref 252)) := by kernel_rfl
theorem table_of {P : Params} {h : Heap} {c b : Addr} (hc : ∀ o, (kt P).get c = some o → h.get? c = some o) (e : (match (kt P).get c with | some o => (match o.cls, o.data with | .type n, .fields vs => (Nat.beq (S.codeS n) (S.codeS "code"), vs[11]?) | _, _ => (false, none)) | none => (false, none)) = (true, some (.ref b))) : isCodeTable h b := by
  cases hk : (kt P).get c with
  | none => rw [hk] at e; cases e
  | some o =>
    rw [hk] at e
    have hg := hc o hk
    obtain ⟨cls, dd, data, sl⟩ := o
    simp only at e
    cases cls <;> cases data <;> simp only [Prod.mk.injEq] at e <;> first
      | exact absurd e.1 Bool.false_ne_true
      | (obtain ⟨e1, e2⟩ := e
         have hn := rowIs_iff.mp e1
         exact ⟨c, _, _, hg, by rw [hn], rfl, e2⟩)
theorem joinW (w : World) (s₀ s₁ : Shared) (ns : List Int) (hl : ns.length ≤ 63) (vs : List Value) (as : List Addr) (L : Laid PySem.Challenge.rw_rk0005_04.row.records w s₀ s₁ [ofPy (PyData.list (ns.map PyData.int))] vs as)
    (ZH : KT.Holds s₁.heap 1 0 (kt w.params)) (ZN : s₀.heap.objs.size = 270) (hgens : s₁.gens = #[]) : HaltsGood PySem.Challenge.rw_rk0005_04.row.toRowW w s₀ s₁ [ofPy (PyData.list (ns.map PyData.int))] vs := by
  obtain ⟨hvs, hsz, xs, hxs, hxl, hobj⟩ := script_obj L
  rw [ZN] at hvs hsz hobj
  subst hvs
  have hkt : ∀ a o, (kt w.params).get a = some o → s₁.heap.get? a = some o := fun a o e => kt_at ZH e
  have h180 := hkt 180 _ (tab180 w.params)
  have h252 := hkt 252 _ (tab252 w.params)
  have h242 := hkt 242 _ (lst242 w.params)
  let Good : Shared → Result → Prop := fun s' res => GoodWG PySem.Challenge.rw_rk0005_04.row.toRowW.claim (classAt s₀.heap) (ExcName.means s₀.heap) [ofPy (PyData.list (ns.map PyData.int))] s₁ res s'
  obtain ⟨q, hq⟩ : ∃ q : Qd, q = ⟨w, s₁, w.params.followText "special-get-raises", w.params.followText "comprehension-iter-twice"⟩ := ⟨_, rfl⟩
  have hqP : q.P = w.params := by rw [hq]; rfl
  have hK : (K4 q).Ok := by rw [hq]; exact ⟨ov_eq w.params, fun a o e _ _ => hkt a o e⟩
  have hprog : model (K4 q).prog (K4 q).w = model PySem.Challenge.pw_rk0005_04 w := by rw [hq]; rfl
  let Y : Sys (K4 q) := ⟨hK, fun s th => ∃ n res s', (model PySem.Challenge.pw_rk0005_04 w).runN n s th = .halted (outcomeOf res) s' ∧ Good s' res, fun {s th s' th'} hC ⟨n, res, s'', hn, hg⟩ => by
    rw [hprog] at hC
    obtain ⟨m, hm⟩ := halts_of hC ⟨n, hn⟩
    exact ⟨m, res, s'', hm, hg⟩⟩
  have St0 : StD (K4 q) (([] : DM) ++ (([(270, .raw (listO xs 0))] : DM) ++ (tabD none ++ (nvD ++ (([(252, .tab [])] : DM) ++ []))))) [] s₁ := by
    refine ⟨[(270, listO xs 0), (180, ⟨.none, none, .fields #[], #[]⟩), (242, listO nvV 0), (252, ⟨.none, none, .fields #[], #[]⟩)], .cons (fun _ => 0) ⟨0, #[]⟩ (.cons (fun _ => 0) ⟨0, #[]⟩ (.cons (fun _ => 0) ⟨0, #[]⟩ (.cons (fun _ => 0) ⟨0, #[]⟩ .nil))), ?_⟩
    rw [hq]
    refine ⟨fun x hx => ?_, (show [270, 180, 242, 252].Nodup by decide), fun x hx => ?_, (fun x hx => nomatch hx), List.nodup_nil, fun g st e => ?_, fun b o e _ _ => e, rfl, rfl, ?_⟩
    · simp only [List.mem_cons, List.not_mem_nil, or_false] at hx
      rcases hx with rfl | rfl | rfl | rfl
      · exact hobj
      · exact h180
      · exact h242
      · exact h252
    · simp only [List.mem_cons, List.not_mem_nil, or_false] at hx
      rcases hx with rfl | rfl | rfl | rfl
      · exact .inr (Nat.le_refl 270)
      · exact .inl (show 180 ∈ [180, 242, 252] by decide)
      · exact .inl (show 242 ∈ [180, 242, 252] by decide)
      · exact .inl (show 252 ∈ [180, 242, 252] by decide)
    · rw [hgens] at e; simp at e
    · show 270 ≤ s₁.heap.objs.size; omega
  have key : Y.H s₁ ⟨callTree PySem.Challenge.rw_rk0005_04.name [.ref 270], .builtin b_caller {}, default, []⟩ := by
    have h := @P00 q Y _ s₁ default [] (RestB.nil 300) St0
    simp only [P00_a, P00_e, SE.cd, List.append_nil] at h
    refine h fun i s2 p2 c2 _ _ S2 => ?_
    refine lawWalk Y (kCall q.P, i.p) xs hxs (by omega) (R := []) (fun s3 p3 c3 co vt S3 => ?_) S2
    refine Y.step1 (step_leaf_ret _ _ _ _ _ (.ok (.ret (.bool true))) _ _ _ _ _ _ _) ?_
    show Y.H s3 ⟨kCall q.P (.ok (.ret (.bool true))), cCaller, i.p, []⟩
    rw [kCall_end]
    have S3c := S3
    obtain ⟨mem, F3, S3s⟩ := S3
    have hfin : ∀ (g : Nat) (st : GenState), s3.gens[g]? = some st → st = .finished := fun g st e => by
      rcases S3s.gfin g st e with ⟨x, hx, _⟩ | h
      · cases hx
      · exact h
    have hbare : AllBare s3.gens := fun y hy => by
      obtain ⟨g, hg, e⟩ := Array.mem_iff_getElem.mp hy
      rw [hfin g y (by rw [Array.getElem?_eq_getElem hg, e])]; rfl
    have hos : s3.os = s₁.os := by have := S3s.os; rw [hq] at this; exact this
    have hkeep : ∀ b o, s₁.heap.get? b = some o → b ∉ [180, 242, 252] → b < 270 → s3.heap.get? b = some o := by have := S3s.keep; rw [hq] at this; exact this
    refine ⟨1, .ok (.ret (.bool true)), s3, ?_, ?_⟩
    · rw [runN_succ]
      have e : (model PySem.Challenge.pw_rk0005_04 w).step s3 ⟨.pure (.done (.ret (.bool true))), cCaller, i.p, []⟩ = PySem.finish (outcomeOf (.ok (.ret (.bool true)))) s3 := step_leaf_nil (M := model PySem.Challenge.pw_rk0005_04 w) (s := s3) (c := cCaller) (p := i.p) (.ok (.ret (.bool true)))
      rw [e]
      unfold PySem.finish
      rw [leftWithCleanup_false_of_bare hbare]
      rfl
    · refine ⟨.inl ⟨.bool true, .bool true, [], rfl, fun cls => rfl, .bool true, by wrow_post, fun _ => ⟨List.nodup_nil, fun a ha => nomatch ha⟩⟩, ?_, hos, hbare⟩
      have h270 : s3.heap.get? 270 = some (listO xs 0) := by
        obtain ⟨τ, n, e⟩ := S3c.get (a := 270) (o := .raw (listO xs 0)) (by simp)
        exact e
      have g242 : s3.heap.get? 242 = some (listO nvV 0) := by
        obtain ⟨τ, n, e⟩ := S3c.get (a := 242) (o := .raw (listO nvV 0)) (by simp [nvD])
        exact e
      have g180 : ∃ vs', s3.heap.get? 180 = some ⟨.none, none, .fields vs', #[]⟩ := by
        cases co with
        | none =>
          obtain ⟨τ, n, e⟩ := S3c.get (a := 180) (o := .tab []) (by simp [tabD])
          exact ⟨_, e⟩
        | some c =>
          obtain ⟨τ, n, e⟩ := S3c.get (a := 180) (o := .tab [.raw (.int 83 0), .raw (.int 22 0), .ref c]) (by simp [tabD])
          exact ⟨_, e⟩
      have g252 : ∃ vs', s3.heap.get? 252 = some ⟨.none, none, .fields vs', #[]⟩ := by
        obtain ⟨τ, n, e⟩ := S3c.get (a := 252) (o := .tab vt) (by simp)
        exact ⟨_, e⟩
      have cases4 : ∀ b o, s₁.heap.get? b = some o → (b = 180 ∧ o = ⟨.none, none, .fields #[], #[]⟩) ∨ (b = 252 ∧ o = ⟨.none, none, .fields #[], #[]⟩) ∨ s3.heap.get? b = some o := by
        intro b o e
        have hb := Heap.lt_size e
        by_cases h1 : b = 270
        · subst h1; rw [hobj] at e; cases e; exact .inr (.inr h270)
        by_cases h2 : b = 180
        · subst h2; rw [h180] at e; cases e; exact .inl ⟨rfl, rfl⟩
        by_cases h3 : b = 252
        · subst h3; rw [h252] at e; cases e; exact .inr (.inl ⟨rfl, rfl⟩)
        by_cases h4 : b = 242
        · subst h4; rw [h242] at e; cases e; exact .inr (.inr g242)
        · exact .inr (.inr (hkeep b o e (by simp [h2, h3, h4]) (Nat.lt_of_le_of_ne (Nat.le_of_lt_succ (by rw [hsz] at hb; exact hb)) h1)))
      refine ⟨fun b o e => ?_, fun b o e => ?_⟩
      · rcases cases4 b o e with ⟨rfl, rfl⟩ | ⟨rfl, rfl⟩ | h
        · obtain ⟨vs', e'⟩ := g180
          exact .inr (.inl ⟨table_of (c := 184) (fun o h => hkt 184 o h) (code180 w.params), rfl, #[], vs', rfl, by simpa using e'⟩)
        · obtain ⟨vs', e'⟩ := g252
          exact .inr (.inl ⟨table_of (c := 256) (fun o h => hkt 256 o h) (code252 w.params), rfl, #[], vs', rfl, by simpa using e'⟩)
        · exact .inl h
      · rcases cases4 b o e with ⟨rfl, rfl⟩ | ⟨rfl, rfl⟩ | h
        · obtain ⟨vs', e'⟩ := g180; exact ⟨_, e'⟩
        · obtain ⟨vs', e'⟩ := g252; exact ⟨_, e'⟩
        · exact ⟨_, h⟩
  obtain ⟨n, res, s', hn, hg⟩ := key
  exact ⟨n, res, s', hn, hg⟩
end Mine
end
section
open PySem PySem.W PySem.W.X PyProof.Rows
set_option maxRecDepth 100000
set_option maxHeartbeats 0
namespace Mine
def top.tw1660284356323562032 : Unit := ()
def top.tw8941264354851200702 : Unit := ()
def top.tw6907230589319955440 : Unit := ()
def top.tw11285379026988237546 : Unit := ()
def top.tw9647932998770659716 : Unit := ()
def top.tw12042868631781727738 : Unit := ()
def top.tw2644727805214041557 : Unit := ()
def top.tw15881637761420801603 : Unit := ()
def top.tw5552270689369575618 : Unit := ()
def top.tw4468942710605802240 : Unit := ()
def top.tw10760901731976001555 : Unit := ()
def top.tw10839237931461845117 : Unit := ()
set_option Elab.async true in
theorem top : PySem.Challenge.rw_rk0005_04.Holds := by
  w_on; o_law; z_head
  case hw => w_witness2
  intro w s₀ s₁ mg mb G y hgens args vs as L hpre hlay
  z_open y L KX ZH ZN ZT
  obtain ⟨ns, rfl, hl⟩ := argsOf hpre hlay
  exact joinW w s₀ s₁ ns hl vs as L ZH ZN hgens
end Mine
end

theorem PySem.Challenge.cw_rk0005_04_holds : PySem.Challenge.rw_rk0005_04.Holds := by
  exact Mine.top
