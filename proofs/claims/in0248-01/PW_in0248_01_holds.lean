import PyProof.Rows.All
import PyProof.SliceList
import PyProof.MeetsStr
import PyProof.CallStr
import PyProof.Rows.SortStr
import Wide.FinOn
import OpenK.AllK
import Wide.All
import Lean
import PySem.Challenge.RW_in0248_01
set_option Elab.async false
set_option maxRecDepth 100000
set_option maxHeartbeats 0
set_option linter.unusedVariables false
set_option genSizeOf false
set_option genInjectivity false
set_option linter.unusedSimpArgs false
set_option linter.unusedSectionVars false
namespace Sol
open PySem PySem.Spec PySem.Calls PyProof.Rows PySem.W PySem.W.X


inductive Ob (Γ : Type) where
  | n (a b : Nat)
  | c (a b : Code)
  | o (a b : Obj)
  | g (a b : Γ)
noncomputable def Ob.ok {Γ : Type} : Ob Γ → Prop
  | .n a b => a = b
  | .c a b => a = b
  | .o a b => a = b
  | .g a b => a = b
noncomputable def Ob.l {Γ : Type} : Ob Γ → Ob Γ
  | .n a _ => .n a a
  | .c a _ => .c a a
  | .o a _ => .o a a
  | .g a _ => .g a a
noncomputable def Ob.r {Γ : Type} : Ob Γ → Ob Γ
  | .n _ b => .n b b
  | .c _ b => .c b b
  | .o _ b => .o b b
  | .g _ b => .g b b
theorem Ob.ok_of {Γ : Type} {x : Ob Γ} (h : x.l = x.r) : x.ok := by
  cases x <;> simp only [Ob.l, Ob.r] at h <;> injection h
theorem obs_ok {Γ : Type} : ∀ {l : List (Ob Γ)}, l.map Ob.l = l.map Ob.r → ∀ x ∈ l, x.ok
  | [], _, _, h => nomatch h
  | y :: l, e, x, h => by
    simp only [List.map_cons, List.cons.injEq] at e
    rcases List.mem_cons.mp h with rfl | h
    · exact Ob.ok_of e.1
    · exact obs_ok e.2 x h

structure Con (Γ : Type) where
  code : Code
  reads : List (Nat × Nat × Obj)
  gpre : Γ
  res : (Nat → Nat) → Result
  sets : (Nat → Nat) → List (Nat × Obj)
  news : (Nat → Nat) → List (Nat × Obj)
  gpost : (Nat → Nat) → Γ

structure Base (Γ : Type) where
  ad : Nat → Nat
  J : Nat
  N : Nat
  t : Nat
  G : Nat
  g : Γ
  ps : List (Nat → Nat)
noncomputable def Base.addr {Γ : Type} (B : Base Γ) (j : Nat) : Nat := @Bool.rec (fun _ => Nat) (B.N + 209 + (j - B.J)) (B.ad j) (Nat.blt j B.J)

structure Seen (Γ : Type) where
  l : List (Nat → Nat)
  c : Code
  T : BT
  g : Γ
structure Cfg (Γ : Type) where
  prog : Program
  w : World
  P : Params
  den : Code → Sem Fin
  qt : Code → Bool
  alt : Code → Option (Sem Fin)
  kt : KT
  con : Seen Γ → Nat → Option (Con Γ)
  cut : Code → Bool

noncomputable abbrev SkS := Nat → Pos × List (Code × Pos)
noncomputable abbrev XS := Nat → Nat → Nat

structure Out (Γ : Type) where
  r : Result
  B : Base Γ
  T : BT
  m : Nat
  i : Nat
  gl : List GenState
  lg : List (Ob Γ)
  ag : Option Code

inductive Res (Γ : Type) where
  | out (o : Out Γ)
  | stop (n a : Nat)
  | bad (s : String)

inductive Kt where
  | base
  | ret (c : Code) (k : Result → Sem Fin) (κ : Kt)
  | gen (g j : Nat) (c : Code) (k : GenResult → Sem Fin) (κ : Kt)
noncomputable def Kt.toK : Kt → Kont
  | .base => .base
  | .ret c k κ => .ret c none k κ.toK
  | .gen g _ c k κ => .gen g c k κ.toK
noncomputable def Kt.len : Kt → Nat
  | .base => 0
  | .ret _ _ κ => κ.len + 1
  | .gen _ _ _ _ κ => κ.len

section
variable {Γ : Type}
noncomputable abbrev Rst (Γ : Type) := Base Γ → BT → Nat → Nat → List GenState → SkS → XS → List Nat → List (Ob Γ) → Res Γ
noncomputable abbrev Ty (Γ : Type) := Code → Option (List Frame) → Kt → Sem Fin → Rst Γ
noncomputable def stp (n : Nat) : Rst Γ := fun _ _ _ _ _ _ _ _ _ => .stop n 0

noncomputable def wakeR (ih : Ty Γ) (e : End) (κ : Kt) : Rst Γ := match κ with
  | .gen _ j c k κ => fun B T m i gl sk X sc lg => ih c none κ (k e.result) B T m i (gl.set j e.genState) sk X sc lg
  | .base => stp 20
  | .ret _ _ _ => stp 20
noncomputable def retR (ih : Ty Γ) (r : Result) (md : Option (List Frame)) (κ : Kt) : Rst Γ := match md with
  | none => match κ with
    | .base => fun B T m i gl _ _ _ lg => .out ⟨r, B, T, m, i, gl, lg, none⟩
    | .ret c k κ => ih c none κ (k r)
    | .gen _ _ _ _ _ => stp 21
  | some fs => match fs with
    | [] => wakeR ih (.ret r) κ
    | f :: fs => match f with
      | .ret k _ _ _ c₁ _ _ => ih c₁ (some fs) κ (k r)
      | .gen _ _ _ _ _ => stp 22

noncomputable def plainF : List Frame → Bool
  | [] => true
  | f :: fs => match f with
    | .ret _ hd _ _ _ _ _ => match hd with
      | none => plainF fs
      | some _ => false
    | .gen _ _ _ _ _ => false

noncomputable def enter (C : Cfg Γ) (κ : Kt) (c : Code) : Option (Sem Fin) := match C.alt c with
  | some t => match Nat.blt κ.len 16 with
    | true => some t
    | false => none
  | none => some (C.den c)

noncomputable def putSets : List (Nat × Obj) → BT → BT
  | [], T => T
  | p :: l, T => putSets l (T.set p.1 fun _ => p.2)
noncomputable def putNews : List (Nat × Obj) → Nat → BT → BT
  | [], _, T => T
  | p :: l, n, T => putNews l (n + 1) (T.ins n p.2)
noncomputable def nthA : List (Nat × Obj) → Nat → Nat
  | [], _ => 0
  | p :: l, n => match n with
    | 0 => p.1
    | n + 1 => nthA l n
noncomputable def Base.next (B : Base Γ) (m : Nat) (news : List (Nat × Obj)) (x : Nat → Nat) (g : Γ) : Base Γ :=
  ⟨fun j => @Bool.rec (fun _ => Nat) (nthA news (j - (B.J + m))) (B.addr j) (Nat.blt j (B.J + m)), B.J + m + news.length, x 0, x 1, x 2, g, x :: B.ps⟩
noncomputable def readAll (B : Base Γ) (T : BT) : List (Nat × Nat × Obj) → List (Ob Γ) → Option (List (Ob Γ))
  | [], lg => some lg
  | p :: l, lg => match T.get p.1 with
    | some o => readAll B T l (.o o p.2.2 :: .n p.2.1 (B.addr p.1) :: lg)
    | none => none
noncomputable def newsIn : List (Nat × Obj) → Nat → BT → Bool
  | [], _, _ => true
  | p :: l, n, T => match T.get n with
    | some _ => newsIn l (n + 1) T
    | none => false
noncomputable def newsOk : List (Nat × Obj) → Nat → BT → Bool
  | [], _, _ => true
  | p :: l, n, T => match (T.ins n p.2).get n with
    | some _ => newsOk l (n + 1) (T.ins n p.2)
    | none => false

noncomputable def conR (C : Cfg Γ) (ih : Ty Γ) (c : Code) (κ : Kt) (c' : Code) (k : Result → Sem Fin) (q : Con Γ) : Rst Γ := fun B T m i gl sk X sc lg =>
  match gl with
  | _ :: _ => .stop 50 0
  | [] => match Nat.blt κ.len 16 with
    | false => .stop 51 0
    | true => match readAll B T q.reads lg with
      | none => .stop 52 0
      | some lg => match newsOk (q.news (X 0)) (B.J + m) (putSets (q.sets (X 0)) T) with
        | false => .stop 53 0
        | true => ih c none κ (k (q.res (X 0))) (B.next m (q.news (X 0)) (X 0) (q.gpost (X 0))) (putNews (q.news (X 0)) (B.J + m) (putSets (q.sets (X 0)) T)) 0 0 [] sk (fun j => X (j + 1)) sc (.g q.gpre B.g :: .c c' q.code :: lg)

noncomputable def cutAt (C : Cfg Γ) (κ : Kt) (c' : Code) : Bool := match κ with
  | .base => C.cut c'
  | .ret _ _ _ => false
  | .gen _ _ _ _ _ => false
noncomputable def againR (C : Cfg Γ) (ih : Ty Γ) (κ : Kt) (c' : Code) : Rst Γ := match cutAt C κ c' with
  | true => fun B T m i gl _ _ _ lg => .out ⟨.error .none, B, T, m, i, gl, lg, some c'⟩
  | false => match enter C κ c' with
    | some t => ih c' none κ t
    | none => stp 54

noncomputable def step (C : Cfg Γ) (ih : Ty Γ) (c : Code) (md : Option (List Frame)) (κ : Kt) (t : Sem Fin) : Rst Γ := match t with
  | .pure fin => match fin with
    | .done f => retR ih (.ok f) md κ
    | .again c' => match C.qt c' with
      | true => match md with
        | none => againR C ih κ c'
        | some fs => ih c' (some fs) κ (C.den c')
      | false => stp 5
  | .raise e => retR ih (.error e) md κ
  | .rule _ k => ih c md κ (k ())
  | .at _ k => ih c md κ (k ())
  | .point _ k => ih c md κ (k ())
  | .ask k => ih c md κ (k ⟨C.prog, C.P⟩)
  | .load a _ k => fun B T m i gl sk X sc lg => match sc with
    | [] => .stop 1 a
    | x :: sc => match x with
      | 0 => match C.kt.get a with
        | some o => ih c md κ (k o) B T m i gl sk X sc lg
        | none => .stop 1 a
      | j + 1 => match T.get j with
        | some o => ih c md κ (k o) B T m i gl sk X sc (.n a (B.addr j) :: lg)
        | none => .stop 2 j
  | .loadIfAlive a k => fun B T m i gl sk X sc lg => match sc with
    | [] => .stop 1 a
    | x :: sc => match x with
      | 0 => match C.kt.get a with
        | some o => ih c md κ (k (some o)) B T m i gl sk X sc lg
        | none => .stop 1 a
      | j + 1 => match T.get j with
        | some o => ih c md κ (k (some o)) B T m i gl sk X sc (.n a (B.addr j) :: lg)
        | none => .stop 2 j
  | .alloc o k => fun B T m i gl sk X sc lg => match o.isFreed with
    | true => .stop 3 0
    | false => match (T.ins (B.J + m) o).get (B.J + m) with
      | some _ => ih c md κ (k (B.N + 209 + m)) B (T.ins (B.J + m) o) (m + 1) i gl sk X sc lg
      | none => .stop 4 0
  | .update a _ f k => fun B T m i gl sk X sc lg => match sc with
    | [] => .stop 1 a
    | x :: sc => match x with
      | 0 => .stop 6 a
      | j + 1 => match T.get j with
        | some o => match (f o).isFreed with
          | true => .stop 3 a
          | false => ih c md κ (k ()) B (T.set j f) m i gl sk X sc (.n a (B.addr j) :: lg)
        | none => .stop 2 j
  | .fresh k => fun B T m i gl sk X sc lg => ih c md κ (k (B.t + 1 + i)) B T m (i + 1) gl sk X sc lg
  | .handled own k => match own with
    | false => match md with
      | none => ih c none κ (k none)
      | some fs => match plainF fs with
        | true => ih c (some fs) κ (k none)
        | false => stp 8
    | true => stp 7
  | .stack k => fun B T m i gl sk X sc lg => ih c md κ (k ((c, (sk 0).1) :: (sk 0).2)) B T m i gl (fun j => sk (j + 1)) X sc lg
  | .call c' hd g l k => match md with
    | none => match hd with
      | some _ => stp 9
      | none => fun B T m i gl sk X sc lg => match sc with
        | [] => .stop 10 0
        | x :: sc => match x with
          | 0 => match enter C (.ret c k κ) c' with
            | some t => ih c' none (.ret c k κ) t B T m i gl sk X sc lg
            | none => .stop 54 0
          | j + 1 => match C.con ⟨B.ps, c', T, B.g⟩ j with
            | some q => conR C ih c κ c' k q B T m i gl sk X sc lg
            | none => .stop 55 j
    | some fs => fun B T m i gl sk X sc lg => ih c' (some (.ret k hd g l c (sk 0).1 [] :: fs)) κ (C.den c') B T m i gl (fun j => sk (j + 1)) X sc lg
  | .newGen c' k => fun B T m i gl sk X sc lg => ih c md κ (k (B.G + gl.length)) B T m i (gl ++ [.fresh c']) sk X sc lg
  | .genState g k => fun B T m i gl sk X sc lg => match sc with
    | [] => .stop 11 g
    | x :: sc => match gl[x]? with
      | some gs => ih c md κ (k gs.seen) B T m i gl sk X sc (.n g (B.G + x) :: lg)
      | none => .stop 12 x
  | .resume g r _ k => fun B T m i gl sk X sc lg => match md with
    | some _ => .stop 13 0
    | none => match sc with
      | [] => .stop 11 g
      | x :: sc => match gl[x]? with
        | some gs => match gs with
          | .fresh c₀ => match r with
            | .send v => match v with
              | .none => ih c₀ (some []) (.gen g x c k κ) (C.den c₀) B T m i (gl.set x .running) sk X sc (.n g (B.G + x) :: lg)
              | .ellipsis => .stop 14 0
              | .notImplemented => .stop 14 0
              | .bool _ => .stop 14 0
              | .int _ _ => .stop 14 0
              | .float _ _ => .stop 14 0
              | .str _ _ => .stop 14 0
              | .bytes _ _ => .stop 14 0
              | .type _ => .stop 14 0
              | .builtin _ => .stop 14 0
              | .ref _ => .stop 14 0
            | .throw _ => .stop 14 1
          | .suspended k₀ _ c₀ _ fs₀ _ => ih c₀ (some fs₀) (.gen g x c k κ) (k₀ r) B T m i (gl.set x .running) sk X sc (.n g (B.G + x) :: lg)
          | .running => .stop 15 0
          | .finished => .stop 15 1
        | none => .stop 12 x
  | .yield v gd l k => match md with
    | none => stp 16
    | some fs => match gd with
      | true => stp 17
      | false => match splitAtGen fs with
        | some _ => stp 18
        | none => match fs.any Frame.guarded with
          | true => stp 19
          | false => fun B T m i gl sk X sc lg => wakeR ih (.susp v false l k c (sk 0).1 fs) κ B T m i gl (fun j => sk (j + 1)) X sc lg
  | .unsupported w => fun _ _ _ _ _ _ _ _ _ => .bad w
  | .finish _ => stp 30
  | .register _ _ => stp 31
  | .choose _ _ _ => stp 32
  | .os _ _ _ => stp 33
  | .fork _ _ => stp 34
  | .thread _ => stp 35
  | .await _ _ _ _ _ => stp 36

noncomputable def go (C : Cfg Γ) (n : Nat) : Ty Γ := @Nat.rec (fun _ => Ty Γ) (fun _ _ _ _ => stp 40) (fun _ ih => step C ih) n
end
end Sol
namespace Sol
open PySem PySem.Spec PySem.Calls PyProof.Rows PySem.W PySem.W.X
section
variable {Γ : Type}
noncomputable def Keeps (ih : Ty Γ) : Prop := ∀ c md κ t B T m i gl sk X sc lg o, ih c md κ t B T m i gl sk X sc lg = .out o → ∀ x ∈ lg, x ∈ o.lg
theorem stp_lg {n : Nat} {B : Base Γ} {T m i gl sk X sc lg o} (h : stp n B T m i gl sk X sc lg = .out o) : ∀ x ∈ lg, x ∈ o.lg := by cases h
theorem wakeR_lg {ih : Ty Γ} (K : Keeps ih) {e κ B T m i gl sk X sc lg o} (h : wakeR ih e κ B T m i gl sk X sc lg = .out o) : ∀ x ∈ lg, x ∈ o.lg := by
  unfold wakeR at h
  split at h
  · exact K _ _ _ _ _ _ _ _ _ _ _ _ _ _ h
  · exact stp_lg h
  · exact stp_lg h
theorem retR_lg {ih : Ty Γ} (K : Keeps ih) {r md κ B T m i gl sk X sc lg o} (h : retR ih r md κ B T m i gl sk X sc lg = .out o) : ∀ x ∈ lg, x ∈ o.lg := by
  unfold retR at h
  split at h
  · split at h
    · cases h; exact fun _ hx => hx
    · exact K _ _ _ _ _ _ _ _ _ _ _ _ _ _ h
    · exact stp_lg h
  · split at h
    · exact wakeR_lg K h
    · split at h
      · exact K _ _ _ _ _ _ _ _ _ _ _ _ _ _ h
      · exact stp_lg h
theorem readAll_lg {B : Base Γ} {T : BT} : ∀ {l : List (Nat × Nat × Obj)} {lg lg' : List (Ob Γ)}, readAll B T l lg = some lg' →
    (∀ x ∈ lg, x ∈ lg') ∧ ∀ p ∈ l, ∃ o, T.get p.1 = some o ∧ Ob.o o p.2.2 ∈ lg' ∧ Ob.n p.2.1 (B.addr p.1) ∈ lg'
  | [], lg, lg', h => by cases h; exact ⟨fun _ h => h, fun _ h => nomatch h⟩
  | p :: l, lg, lg', h => by
    unfold readAll at h
    split at h
    · rename_i o e
      have z := readAll_lg h
      refine ⟨fun x hx => z.1 x (.tail _ (.tail _ hx)), fun q hq => ?_⟩
      rcases List.mem_cons.mp hq with rfl | hq
      · exact ⟨o, e, z.1 _ (.head _), z.1 _ (.tail _ (.head _))⟩
      · exact z.2 q hq
    · cases h
theorem conR_lg {C : Cfg Γ} {ih : Ty Γ} (K : Keeps ih) {c κ c' k q B T m i gl sk X sc lg o} (h : conR C ih c κ c' k q B T m i gl sk X sc lg = .out o) : ∀ x ∈ lg, x ∈ o.lg := by
  unfold conR at h
  split at h
  · cases h
  · split at h
    · cases h
    · split at h
      · cases h
      · rename_i lg' e
        split at h
        · cases h
        · exact fun x hx => K _ _ _ _ _ _ _ _ _ _ _ _ _ _ h x (.tail _ (.tail _ ((readAll_lg e).1 x hx)))
theorem step_lg {C : Cfg Γ} {ih : Ty Γ} (K : Keeps ih) : Keeps (step C ih) := by
  intro c md κ t B T m i gl sk X sc lg o h
  have K1 : ∀ {c md κ t B T m i gl sk X sc y}, ih c md κ t B T m i gl sk X sc (y :: lg) = .out o → ∀ x ∈ lg, x ∈ o.lg := fun h x hx => K _ _ _ _ _ _ _ _ _ _ _ _ _ _ h x (.tail _ hx)
  have K0 : ∀ {c md κ t B T m i gl sk X sc}, ih c md κ t B T m i gl sk X sc lg = .out o → ∀ x ∈ lg, x ∈ o.lg := fun h => K _ _ _ _ _ _ _ _ _ _ _ _ _ _ h
  cases t
  case pure fin =>
    cases fin with
    | done f => exact retR_lg K h
    | again c' =>
      simp only [step] at h
      cases hq : C.qt c' with
      | false => rw [hq] at h; exact stp_lg h
      | true =>
        rw [hq] at h
        cases md with
        | some fs => exact K0 h
        | none =>
          simp only [againR] at h
          cases hc : cutAt C κ c' with
          | true => rw [hc] at h; cases h; exact fun _ hx => hx
          | false =>
            rw [hc] at h
            simp only at h
            cases he : enter C κ c' with
            | none => rw [he] at h; exact stp_lg h
            | some t => rw [he] at h; exact K0 h
  case raise e => exact retR_lg K h
  case handled own k =>
    simp only [step] at h
    cases own with
    | true => exact stp_lg h
    | false =>
      cases md with
      | none => exact K0 h
      | some fs =>
        simp only at h
        cases hp : plainF fs with
        | true => rw [hp] at h; exact K0 h
        | false => rw [hp] at h; exact stp_lg h
  case yield v gd l k =>
    simp only [step] at h
    cases md with
    | none => exact stp_lg h
    | some fs =>
      cases gd with
      | true => exact stp_lg h
      | false =>
        simp only at h
        cases hs : splitAtGen fs with
        | some _ => rw [hs] at h; exact stp_lg h
        | none =>
          rw [hs] at h
          simp only at h
          cases ha : fs.any Frame.guarded with
          | true => rw [ha] at h; exact stp_lg h
          | false => rw [ha] at h; exact wakeR_lg K h
  case call c' hd g l k =>
    simp only [step] at h
    cases md with
    | some fs => exact K0 h
    | none =>
      cases hd with
      | some _ => exact stp_lg h
      | none =>
        simp only at h
        repeat' split at h
        all_goals first | exact K0 h | exact conR_lg K h | cases h
  all_goals simp only [step] at h
  all_goals (repeat' split at h)
  all_goals first | exact K0 h | exact K1 h | exact stp_lg h | cases h
theorem go_lg (C : Cfg Γ) : ∀ n, Keeps (go C n)
  | 0 => fun _ _ _ _ _ _ _ _ _ _ _ _ _ _ h => nomatch (show Res.stop 40 0 = Res.out _ from h)
  | n + 1 => step_lg (go_lg C n)
end
end Sol
namespace Sol
open PySem PySem.Spec PySem.Calls PyProof.Rows PySem.W PySem.W.X
section
variable {Γ : Type}
structure Setup (Γ : Type) where
  C : Cfg Γ
  Foot : Γ → Nat → Prop
  I : Γ → Heap → Prop
  h₀ : Heap
  g₀ : Γ
  os : OsState
  A₀ : Around
  R₀ : Result → Shared → Prop
  dm : Nat
  um : Nat
  J₀ : Nat
noncomputable def Setup.V (S : Setup Γ) : XV := { prog := S.C.prog, w := S.C.w, h₀ := S.h₀, n₁ := 0, kt := S.C.kt, tabs := [], A₀ := S.A₀, R₀ := S.R₀, d := {}, t₀ := 0, os := S.os }

noncomputable def KtIn (kt : KT) (h : Heap) : Prop := ∀ a o, kt.get a = some o → h.get? a = some o

structure Rep (S : Setup Γ) (B : Base Γ) (T : BT) (m : Nat) (h : Heap) : Prop where
  size : h.objs.size = B.N + 209 + m
  all : ∀ j, j < B.J + m → ∃ o, T.get j = some o
  own : ∀ j o, T.get j = some o → j < B.J + m ∧ h.get? (B.addr j) = some o
  inj : ∀ i j, i < B.J + m → j < B.J + m → B.addr i = B.addr j → i = j
  foot : ∀ j, j < B.J + m → ¬ S.Foot B.g (B.addr j)
  off : ∀ j, j < B.J + m → S.C.kt.get (B.addr j) = none
  kt : KtIn S.C.kt h
  ktF : ∀ a o, S.C.kt.get a = some o → ¬ S.Foot B.g a
  gh : S.I B.g h
  keep : ∀ b o, S.h₀.get? b = some o → ¬ S.Foot S.g₀ b → (∀ j, j < B.J + m → B.addr j ≠ b) → h.get? b = some o
  ft : ∀ b, S.Foot B.g b → S.Foot S.g₀ b ∨ S.h₀.objs.size ≤ b
  le : S.h₀.objs.size ≤ h.objs.size
  newer : ∀ j, S.J₀ ≤ j → j < B.J + m → S.h₀.objs.size ≤ B.addr j

theorem addr_lt {B : Base Γ} {j : Nat} (h : j < B.J) : B.addr j = B.ad j := by
  unfold Base.addr
  have : Nat.blt j B.J = true := Nat.ble_eq_true_of_le h
  rw [this]
theorem addr_ge {B : Base Γ} {j : Nat} (h : B.J ≤ j) : B.addr j = B.N + 209 + (j - B.J) := by
  unfold Base.addr
  have : Nat.blt j B.J = false := by
    cases q : Nat.blt j B.J with
    | false => rfl
    | true => exact absurd (Nat.le_of_ble_eq_true q) (by omega)
  rw [this]

structure Fine (S : Setup Γ) : Prop where
  footIn : ∀ g h b, S.I g h → S.Foot g b → ∃ o, h.get? b = some o
  stable : ∀ g h h', (∀ b o, S.Foot g b → h.get? b = some o → h'.get? b = some o) → S.I g h → S.I g h'

variable {S : Setup Γ} {B : Base Γ} {T : BT} {m : Nat} {h : Heap}
theorem Rep.lt (D : Rep S B T m h) {j : Nat} (hj : j < B.J + m) : B.addr j < B.N + 209 + m := by
  obtain ⟨o, ho⟩ := D.all j hj
  rw [← D.size]
  exact Heap.lt_size (D.own j o ho).2
theorem Rep.new_addr : B.addr (B.J + m) = B.N + 209 + m := by
  rw [addr_ge (Nat.le_add_right ..), Nat.add_sub_cancel_left]
theorem Rep.alloc (F : Fine S) (D : Rep S B T m h) {o : Obj} (hf : o.isFreed = false) (hg : ((T.ins (B.J + m) o).get (B.J + m)).isSome = true) :
    Rep S B (T.ins (B.J + m) o) (m + 1) (h.push o) := by
  have na : B.addr (B.J + m) = B.N + 209 + m := Rep.new_addr
  have push : ∀ b o', h.get? b = some o' → (h.push o).get? b = some o' := fun b o' e => Heap.get?_push_of_some _ e
  have new : (h.push o).get? (B.N + 209 + m) = some o := by rw [← D.size]; exact Heap.get?_push_size _ hf
  have free : ∀ b o', h.get? b = some o' → b ≠ B.N + 209 + m := fun b o' e q => absurd (Heap.lt_size e) (by rw [D.size, q]; exact Nat.lt_irrefl _)
  have gi := BT.get_ins o T (B.J + m) hg
  refine ⟨by rw [Heap.size_push, D.size]; omega, fun j hj => ?_, fun j o' e => ?_, fun i j hi hj e => ?_, fun j hj => ?_, fun j hj => ?_, fun a o' e => push _ _ (D.kt a o' e), D.ktF, ?_, fun b o' e nf hn => ?_, D.ft, by rw [Heap.size_push]; have := D.le; omega, fun j hj hj' => ?_⟩
  · rw [gi]
    by_cases q : j = B.J + m
    · exact ⟨o, if_pos q⟩
    · obtain ⟨o', ho'⟩ := D.all j (by omega)
      exact ⟨o', by rw [if_neg q]; exact ho'⟩
  · rw [gi] at e
    by_cases q : j = B.J + m
    · rw [if_pos q] at e
      cases e
      subst q
      exact ⟨by omega, by rw [na]; exact new⟩
    · rw [if_neg q] at e
      obtain ⟨x, y⟩ := D.own j o' e
      exact ⟨by omega, push _ _ y⟩
  · by_cases q : i = B.J + m
    · by_cases r : j = B.J + m
      · omega
      · exfalso
        rw [q, na] at e
        have := D.lt (show j < B.J + m by omega)
        omega
    · by_cases r : j = B.J + m
      · exfalso
        rw [r, na] at e
        have := D.lt (show i < B.J + m by omega)
        omega
      · exact D.inj i j (by omega) (by omega) e
  · by_cases q : j = B.J + m
    · subst q
      rw [na]
      intro f
      obtain ⟨o', e⟩ := F.footIn _ _ _ D.gh f
      exact free _ _ e rfl
    · exact D.foot j (by omega)
  · by_cases q : j = B.J + m
    · subst q
      rw [na]
      cases e : S.C.kt.get (B.N + 209 + m) with
      | none => rfl
      | some o' => exact absurd rfl (free _ _ (D.kt _ _ e))
    · exact D.off j (by omega)
  · exact F.stable _ _ _ (fun b o' _ e => push b o' e) D.gh
  · exact push _ _ (D.keep b o' e nf fun j hj => hn j (by omega))
  · by_cases q : j = B.J + m
    · subst q; rw [na, ← D.size]; exact D.le
    · exact D.newer j hj (by omega)
theorem Rep.load (D : Rep S B T m h) {a j : Nat} {o : Obj} (e : T.get j = some o) (ea : a = B.addr j) : h.get? a = some o := ea ▸ (D.own j o e).2
theorem Rep.update (F : Fine S) (D : Rep S B T m h) {a j : Nat} {o : Obj} {f : Obj → Obj} (e : T.get j = some o) (ea : a = B.addr j) (hf : (f o).isFreed = false) : Rep S B (T.set j f) m (h.update a f) := by
  subst ea
  obtain ⟨hj, ho⟩ := D.own j o e
  have hs : Heap.SameBut (B.addr j) h (h.update (B.addr j) f) := Heap.SameBut.update ..
  have ge : (h.update (B.addr j) f).get? (B.addr j) = some (f o) := by first | exact Heap.get?_update_self f ho hf | exact Heap.get?_update_self _ ho hf
  have gs := fun i => BT.get_set f T j i
  refine ⟨by rw [hs.1, D.size], fun i hi => ?_, fun i o' e' => ?_, D.inj, D.foot, D.off, fun a o' e' => ?_, D.ktF, ?_, fun b o' e' nf hn => ?_, D.ft, by rw [hs.1]; exact D.le, D.newer⟩
  · obtain ⟨o', ho'⟩ := D.all i hi
    rw [BT.get_set]
    split
    · rename_i q; rw [q] at ho'; exact ⟨f o', by rw [ho']; rfl⟩
    · exact ⟨o', ho'⟩
  · rw [BT.get_set] at e'
    by_cases q : i = j
    · subst q
      rw [if_pos rfl, e] at e'
      cases e'
      exact ⟨hj, ge⟩
    · rw [if_neg q] at e'
      obtain ⟨x, y⟩ := D.own i o' e'
      refine ⟨x, (hs.2 _ fun z => q (D.inj i j x hj z)).trans y⟩
  · have ne : a ≠ B.addr j := by
      intro z
      have := D.off j hj
      rw [← z, e'] at this
      cases this
    exact (hs.2 _ ne).trans (D.kt a o' e')
  · refine F.stable _ _ _ (fun b o' fb eb => ?_) D.gh
    have ne : b ≠ B.addr j := fun z => D.foot j hj (z ▸ fb)
    exact (hs.2 _ ne).trans eb
  · exact (hs.2 b fun z => hn j hj z.symm).trans (D.keep b o' e' nf hn)
end
end Sol
namespace Sol
open PySem PySem.Spec PySem.Calls PyProof.Rows PySem.W PySem.W.X
section
variable {Γ : Type}
structure Left (S : Setup Γ) (q : Con Γ) (h : Heap) (x : Nat → Nat) (h' : Heap) (gb' : List GenState) : Prop where
  size : x 0 + 209 = h'.objs.size
  gens : x 2 = gb'.length
  bare : ∀ y ∈ gb', y.bare = true
  setN : ((q.sets x).map (·.1)).Nodup
  sets : ∀ p ∈ q.sets x, ∃ p' ∈ q.reads, p'.1 = p.1 ∧ h'.get? p'.2.1 = some p.2
  news : ∀ p ∈ q.news x, h'.get? p.1 = some p.2 ∧ h.objs.size ≤ p.1 ∧ ¬ S.Foot (q.gpost x) p.1
  newN : ((q.news x).map (·.1)).Nodup
  gh : S.I (q.gpost x) h'
  foot : ∀ b, S.Foot (q.gpost x) b → S.Foot q.gpre b ∨ h.objs.size ≤ b
  keep : ∀ b o, h.get? b = some o → ¬ S.Foot q.gpre b → (∀ p ∈ q.reads, p.1 ∈ (q.sets x).map (·.1) → p.2.1 ≠ b) → h'.get? b = some o
  le : h.objs.size ≤ h'.objs.size

noncomputable def ConOk (S : Setup Γ) (q : Con Γ) : Prop := ∀ (A : Around) (h : Heap) (gb : List GenState) (d : Drawn) (t : Nat), 209 ≤ h.objs.size → A.handled = none → A.depth ≤ S.dm + 90 → A.units ≤ S.um + 260 →
  KtIn S.C.kt h → (∀ a o, S.C.kt.get a = some o → ¬ S.Foot q.gpre a) →
  (∀ p ∈ q.reads, h.get? p.2.1 = some p.2.2 ∧ ¬ S.Foot q.gpre p.2.1 ∧ S.C.kt.get p.2.1 = none) → (∀ p ∈ q.reads, ∀ p' ∈ q.reads, p.1 ≠ p'.1 → p.2.1 ≠ p'.2.1) →
  S.I q.gpre h → (∀ y ∈ gb, y.bare = true) →
  codeAny (model S.C.prog S.C.w) A q.code (fun r s' => ∃ x h' gb' d', s' = ⟨h', ⟨gb'⟩, d', x 1 + 1, S.os⟩ ∧ r = q.res x ∧ Left S q h x h' gb') ⟨h, ⟨gb⟩, d, t + 1, S.os⟩

theorem get_putSets : ∀ (l : List (Nat × Obj)) (T : BT), (l.map (·.1)).Nodup → ∀ j,
    (∀ p ∈ l, p.1 = j → (T.get j).isSome = true → (putSets l T).get j = some p.2) ∧ (j ∉ l.map (·.1) → (putSets l T).get j = T.get j) ∧ ((putSets l T).get j).isSome = (T.get j).isSome
  | [], T, _, j => ⟨fun _ hp => (nomatch hp), fun _ => rfl, rfl⟩
  | p :: l, T, hn, j => by
    rw [List.map_cons, List.nodup_cons] at hn
    obtain ⟨a, b, c⟩ := get_putSets l (T.set p.1 fun _ => p.2) hn.2 j
    have gs := BT.get_set (fun _ => p.2) T p.1 j
    refine ⟨fun q hq e hs => ?_, fun hj => ?_, ?_⟩
    · show (putSets l (T.set p.1 fun _ => p.2)).get j = some q.2
      rcases List.mem_cons.mp hq with rfl | hq
      · rw [b (by rw [← e]; exact hn.1), gs, if_pos e.symm]
        subst e
        cases h : T.get q.1 with
        | none => rw [h] at hs; cases hs
        | some _ => rfl
      · refine a q hq e ?_
        rw [gs, if_neg (by intro z; exact hn.1 (by rw [← z, ← e]; exact List.mem_map_of_mem hq))]
        exact hs
    · show (putSets l (T.set p.1 fun _ => p.2)).get j = _
      rw [List.map_cons, List.mem_cons, not_or] at hj
      rw [b hj.2, gs, if_neg hj.1]
    · show ((putSets l (T.set p.1 fun _ => p.2)).get j).isSome = _
      rw [c, gs]
      split
      · rename_i z; rw [z]; cases T.get p.1 <;> rfl
      · rfl
theorem get_putNews : ∀ (l : List (Nat × Obj)) (n : Nat) (T : BT), newsOk l n T = true → ∀ j,
    (∀ i p, l[i]? = some p → j = n + i → (putNews l n T).get j = some p.2) ∧ ((j < n ∨ n + l.length ≤ j) → (putNews l n T).get j = T.get j)
  | [], n, T, _, j => ⟨fun i p h => by simp at h, fun _ => rfl⟩
  | p :: l, n, T, h, j => by
    unfold newsOk at h
    split at h
    · rename_i o e
      have gi := BT.get_ins p.2 T n (by rw [e]; rfl)
      obtain ⟨a, b⟩ := get_putNews l (n + 1) (T.ins n p.2) h j
      refine ⟨fun i q hi e => ?_, fun hj => ?_⟩
      · show (putNews l (n + 1) (T.ins n p.2)).get j = some q.2
        cases i with
        | zero =>
          simp only [List.getElem?_cons_zero, Option.some.injEq] at hi
          subst hi
          rw [b (.inl (by omega)), gi, if_pos (by omega)]
        | succ i => exact a i q (by simpa using hi) (by omega)
      · show (putNews l (n + 1) (T.ins n p.2)).get j = _
        rw [List.length_cons] at hj
        rw [b (by omega), gi, if_neg (by omega)]
    · cases h
theorem nthA_eq : ∀ (l : List (Nat × Obj)) (i : Nat) (p : Nat × Obj), l[i]? = some p → nthA l i = p.1
  | [], i, p, h => by simp at h
  | q :: l, 0, p, h => by simp at h; subst h; rfl
  | q :: l, i + 1, p, h => nthA_eq l i p (by simpa using h)

theorem nodup_idx {α : Type} : ∀ {l : List α}, l.Nodup → ∀ {i j : Nat} {a : α}, l[i]? = some a → l[j]? = some a → i = j
  | [], _, i, _, _, h, _ => by simp at h
  | x :: l, n, 0, 0, _, _, _ => rfl
  | x :: l, n, 0, j + 1, a, h, h' => by
    simp at h h'
    subst h
    exact absurd (List.mem_of_getElem? h') (List.nodup_cons.mp n).1
  | x :: l, n, i + 1, 0, a, h, h' => by
    simp at h h'
    subst h'
    exact absurd (List.mem_of_getElem? h) (List.nodup_cons.mp n).1
  | x :: l, n, i + 1, j + 1, a, h, h' => by
    have := nodup_idx (List.nodup_cons.mp n).2 (i := i) (j := j) (by simpa using h) (by simpa using h')
    omega
variable {S : Setup Γ} {B : Base Γ} {T : BT} {m : Nat} {h : Heap}
theorem next_old {news : List (Nat × Obj)} {x : Nat → Nat} {g : Γ} {j : Nat} (hj : j < B.J + m) : (B.next m news x g).addr j = B.addr j := by
  rw [addr_lt (show j < B.J + m + news.length by omega)]
  show @Bool.rec (fun _ => Nat) _ _ (Nat.blt j (B.J + m)) = _
  have : Nat.blt j (B.J + m) = true := Nat.ble_eq_true_of_le hj
  rw [this]
theorem next_new {news : List (Nat × Obj)} {x : Nat → Nat} {g : Γ} {i : Nat} {p : Nat × Obj} (hi : news[i]? = some p) : (B.next m news x g).addr (B.J + m + i) = p.1 := by
  have hl : i < news.length := (List.getElem?_eq_some_iff.mp hi).1
  rw [addr_lt (show B.J + m + i < B.J + m + news.length by omega)]
  show @Bool.rec (fun _ => Nat) _ _ (Nat.blt (B.J + m + i) (B.J + m)) = _
  have : Nat.blt (B.J + m + i) (B.J + m) = false := by
    cases q : Nat.blt (B.J + m + i) (B.J + m) with
    | false => rfl
    | true => exact absurd (Nat.le_of_ble_eq_true q) (by omega)
  rw [this]
  show nthA news (B.J + m + i - (B.J + m)) = p.1
  rw [Nat.add_sub_cancel_left]
  exact nthA_eq _ _ _ hi
theorem Rep.con (F : Fine S) (D : Rep S B T m h) {q : Con Γ} {x : Nat → Nat} {h' : Heap} {gb' : List GenState} (hg : q.gpre = B.g)
    (hr : ∀ p ∈ q.reads, T.get p.1 = some p.2.2 ∧ p.2.1 = B.addr p.1) (hn : newsOk (q.news x) (B.J + m) (putSets (q.sets x) T) = true) (L : Left S q h x h' gb') :
    Rep S (B.next m (q.news x) x (q.gpost x)) (putNews (q.news x) (B.J + m) (putSets (q.sets x) T)) 0 h' := by
  have cnt : (B.next m (q.news x) x (q.gpost x)).J + 0 = B.J + m + (q.news x).length := rfl
  have gn := get_putNews (q.news x) (B.J + m) (putSets (q.sets x) T) hn
  have gs := get_putSets (q.sets x) T L.setN
  -- where an index lies
  have cases_ : ∀ j, j < B.J + m + (q.news x).length → j < B.J + m ∨ ∃ i p, (q.news x)[i]? = some p ∧ j = B.J + m + i := fun j hj => by
    by_cases z : j < B.J + m
    · exact .inl z
    · refine .inr ⟨j - (B.J + m), (q.news x)[j - (B.J + m)]'(by omega), List.getElem?_eq_getElem _, by omega⟩
  have old : ∀ j o, j < B.J + m → T.get j = some o → j ∉ (q.sets x).map (·.1) → h'.get? (B.addr j) = some o := fun j o hj e hs => by
    refine L.keep _ _ (D.own j o e).2 (hg ▸ D.foot j hj) fun p hp hps z => ?_
    have hpj : p.1 < B.J + m := (D.own _ _ (hr p hp).1).1
    have := D.inj p.1 j hpj hj (by rw [← (hr p hp).2, z])
    exact hs (this ▸ hps)
  have there : ∀ j, j < B.J + m → ∃ o, h'.get? (B.addr j) = some o ∧ (putSets (q.sets x) T).get j = some o := fun j hj => by
    obtain ⟨o, ho⟩ := D.all j hj
    by_cases hs : j ∈ (q.sets x).map (·.1)
    · obtain ⟨p, hp, e⟩ := List.mem_map.mp hs
      obtain ⟨p', hp', e1, e2⟩ := L.sets p hp
      refine ⟨p.2, ?_, (gs j).1 p hp e (by rw [ho]; rfl)⟩
      rw [← e, ← e1, ← (hr p' hp').2]
      exact e2
    · exact ⟨o, old j o hj ho hs, by rw [(gs j).2.1 hs]; exact ho⟩
  have lo : ∀ j, j < B.J + m → B.addr j < h.objs.size := fun j hj => by rw [D.size]; exact D.lt hj
  refine ⟨by rw [← L.size]; rfl, fun j hj => ?_, fun j o e => ?_, fun i j hi hj e => ?_, fun j hj => ?_, fun j hj => ?_, fun a o e => ?_, fun a o e f => ?_, L.gh, fun b o e nf hn' => ?_, fun b f => ?_, Nat.le_trans D.le L.le, fun j hj hj' => ?_⟩
  · rcases cases_ j hj with z | ⟨i, p, hp, rfl⟩
    · obtain ⟨o, _, e⟩ := there j z
      exact ⟨o, by rw [(gn j).2 (.inl z)]; exact e⟩
    · exact ⟨p.2, (gn _).1 i p hp rfl⟩
  · by_cases hj : j < B.J + m + (q.news x).length
    · refine ⟨hj, ?_⟩
      rcases cases_ j hj with z | ⟨i, p, hp, rfl⟩
      · obtain ⟨o', e1, e2⟩ := there j z
        rw [(gn j).2 (.inl z), e2] at e
        cases e
        rw [next_old z]; exact e1
      · rw [(gn _).1 i p hp rfl] at e
        cases e
        rw [next_new hp]
        exact (L.news p (List.mem_of_getElem? hp)).1
    · exfalso
      rw [(gn j).2 (.inr (by omega))] at e
      have c := (gs j).2.2
      rw [e] at c
      obtain ⟨o', ho'⟩ := Option.isSome_iff_exists.mp c.symm
      have := (D.own j o' ho').1
      omega
  · rcases cases_ i hi with zi | ⟨i', p, hp, rfl⟩
    · rcases cases_ j hj with zj | ⟨j', p', hp', rfl⟩
      · rw [next_old zi, next_old zj] at e
        exact D.inj i j zi zj e
      · exfalso
        rw [next_old zi, next_new hp'] at e
        have a := (L.news p' (List.mem_of_getElem? hp')).2.1
        have b := lo i zi
        omega
    · rcases cases_ j hj with zj | ⟨j', p', hp', rfl⟩
      · exfalso
        rw [next_old zj, next_new hp] at e
        have a := (L.news p (List.mem_of_getElem? hp)).2.1
        have b := lo j zj
        omega
      · rw [next_new hp, next_new hp'] at e
        obtain ⟨hi', ei⟩ := List.getElem?_eq_some_iff.mp hp
        obtain ⟨hj', ej⟩ := List.getElem?_eq_some_iff.mp hp'
        have nd := L.newN
        have : i' = j' := by
          have k1 : ((q.news x).map (·.1))[i']? = some p.1 := by rw [List.getElem?_map, hp]; rfl
          have k2 : ((q.news x).map (·.1))[j']? = some p.1 := by rw [List.getElem?_map, hp', e]; rfl
          exact nodup_idx nd k1 k2
        omega
  · rcases cases_ j hj with z | ⟨i, p, hp, rfl⟩
    · rw [next_old z]
      intro f
      rcases L.foot _ f with y | y
      · exact D.foot j z (hg ▸ y)
      · have := lo j z; omega
    · rw [next_new hp]
      exact (L.news p (List.mem_of_getElem? hp)).2.2
  · rcases cases_ j hj with z | ⟨i, p, hp, rfl⟩
    · rw [next_old z]; exact D.off j z
    · rw [next_new hp]
      cases e : S.C.kt.get p.1 with
      | none => rfl
      | some o =>
        have a := (L.news p (List.mem_of_getElem? hp)).2.1
        have b : (p.1 : Nat) < h.objs.size := Heap.lt_size (D.kt _ _ e)
        exact absurd a (Nat.not_le_of_lt b)
  · refine L.keep a o (D.kt a o e) (hg ▸ D.ktF a o e) fun p hp _ z => ?_
    have := D.off p.1 (D.own _ _ (hr p hp).1).1
    rw [← (hr p hp).2, z, e] at this
    cases this
  · rcases L.foot _ f with y | y
    · exact D.ktF a o e (hg ▸ y)
    · have b : (a : Nat) < h.objs.size := Heap.lt_size (D.kt _ _ e)
      exact absurd y (Nat.not_le_of_lt b)
  · have hb : h.get? b = some o := D.keep b o e nf fun j hj => by
      have := hn' j (by rw [cnt]; omega)
      rwa [next_old hj] at this
    refine L.keep b o hb (fun f => ?_) fun p hp _ z => ?_
    · rcases D.ft b (hg ▸ f) with y | y
      · exact nf y
      · exact absurd (Heap.lt_size e) (Nat.not_lt.mpr y)
    · have hj := (D.own _ _ (hr p hp).1).1
      have := hn' p.1 (by rw [cnt]; omega)
      rw [next_old hj, ← (hr p hp).2] at this
      exact this z
  · rcases L.foot _ f with y | y
    · exact D.ft b (hg ▸ y)
    · exact .inr (Nat.le_trans D.le y)
  · rcases cases_ j hj' with z | ⟨i, p, hp, rfl⟩
    · rw [next_old z]; exact D.newer j hj z
    · rw [next_new hp]
      exact Nat.le_trans D.le (L.news p (List.mem_of_getElem? hp)).2.1
end
end Sol
namespace Sol
open PySem PySem.Spec PySem.Calls PyProof.Rows PySem.W PySem.W.X
theorem frames_le (c : Code) : c.frames ≤ 3 := by
  unfold Code.frames
  repeat' split
  all_goals omega
theorem weight_le {c : Code} (h : c.isCaller = false) : c.weight ≤ 5 := by
  have f := frames_le c
  unfold Code.weight
  rw [h]
  simp only [Bool.false_eq_true, if_false]
  have a : (if c.isCreation = true then 1 else 0) ≤ 1 := by split <;> omega
  have b : (if c.isGuard = true then 1 else 0) ≤ 1 := by split <;> omega
  omega
theorem units_le (c : Code) : c.cUnits ≤ 10 := by
  have f := frames_le c
  unfold Code.cUnits
  split <;> omega
theorem caller_entry : entryFor table "claim.caller" = none := by
  rw [PySem.W.ZFast.ze12177470255685639600, PySem.W.ZFast.tableZ_eq]
  kernel_rfl
theorem den_none (id : String) (args : Args) (h : entryFor table id = none) : denote table (.builtin id args) = .unsupported ((withoutEnding? id "#data").getD id) := by
  show (match entryFor table id with | some b => b args | none => unsupported ((withoutEnding? id "#data").getD id)) = _
  rw [h]; rfl
theorem caller_den {c : Code} (h : c.isCaller = true) : ∃ w, denote table c = .unsupported w := by
  unfold Code.isCaller at h
  split at h
  · exact ⟨_, den_none _ _ caller_entry⟩
  · cases h
section
variable {Γ : Type}
noncomputable def AltOk (C : Cfg Γ) (dm um : Nat) (c : Code) (t : Sem PySem.Fin) : Prop := c.weight ≤ 5 ∧ ∀ (A : Around) (Q : PySem.Fin → Shared → Prop) (E : Value → Shared → Prop) (s : Shared),
  A.handled = none → (A.under c).depth ≤ dm + 90 → (A.under c).units ≤ um + 260 → KtIn C.kt s.heap → wpOwn (model C.prog C.w) A c t Q E s → wpOwn (model C.prog C.w) A c (denote table c) Q E s
structure Setup.Ok (S : Setup Γ) : Prop extends Fine S where
  par : S.C.P = S.C.w.params
  den : ∀ c, S.C.den c = denote table c
  qt : ∀ c, S.C.qt c = c.quiet
  hd : S.A₀.handled = none
  dep : S.A₀.depth + 5 ≤ S.dm
  uni : S.A₀.units + 10 ≤ S.um
  con : ∀ ps j q, S.C.con ps j = some q → ConOk S q
  alt : ∀ c t, S.C.alt c = some t → AltOk S.C S.dm S.um c t

noncomputable def AgOr (S : Setup Γ) (c : Option Code) (p : Prop) (s : Shared) : Prop := match c with
  | none => p
  | some c' => codeAny (model S.C.prog S.C.w) S.A₀ c' S.R₀ s
noncomputable def Done (S : Setup Γ) (o : Out Γ) : Prop := ∀ h gb d, Rep S o.B o.T o.m h → gb.length = o.B.G → (∀ y ∈ gb, y.bare = true) → AgOr S o.ag (S.R₀ o.r ⟨h, ⟨gb ++ o.gl⟩, d, o.B.t + 1 + o.i, S.os⟩) ⟨h, ⟨gb ++ o.gl⟩, d, o.B.t + 1 + o.i, S.os⟩
noncomputable def Good (S : Setup Γ) (n : Nat) (c : Code) (md : Option (List Frame)) (κ : Kt) (t : Sem PySem.Fin) (B : Base Γ) (T : BT) (m i : Nat) (gl : List GenState) (sc : List Nat) (lg : List (Ob Γ)) : Prop :=
  ∀ sk X, ∃ o, go S.C n c md κ t B T m i gl sk X sc lg = .out o ∧ (∀ x ∈ o.lg, x.ok) ∧ Done S o
noncomputable def sk0 : SkS := fun _ => (default, [])
noncomputable def X0 : XS := fun _ _ => 0

noncomputable def CB (S : Setup Γ) (c : Code) (κ : Kt) : Prop := ((aroundOf S.V true κ.toK).under c).depth ≤ S.dm + 5 * κ.len ∧ ((aroundOf S.V true κ.toK).under c).units ≤ S.um + 10 * κ.len ∧ (aroundOf S.V true κ.toK).handled = none
noncomputable def KR (S : Setup Γ) : Kt → Prop
  | .base => True
  | .ret c _ κ => KR S κ ∧ CB S c κ
  | .gen .. => False
noncomputable def MI (S : Setup Γ) (md : Option (List Frame)) (κ : Kt) (c : Code) (G : Nat) : Prop := match md with
  | none => KR S κ ∧ CB S c κ
  | some _ => match κ with
    | .gen g j c' _ κ' => KR S κ' ∧ CB S c' κ' ∧ g = G + j
    | _ => False
variable {S : Setup Γ}
theorem mark_depth (A : Around) (h : Option Value) : (A.mark h).depth = A.depth := rfl
theorem mark_un (A : Around) (h : Option Value) : (A.mark h).units = A.units := rfl
theorem mark_no (A : Around) : (A.mark none).handled = A.handled := rfl
theorem under_dep (A : Around) (c : Code) : (A.under c).depth = A.depth + c.weight := rfl
theorem under_un (A : Around) (c : Code) : (A.under c).units = A.units + c.cUnits := rfl
theorem under_hd (A : Around) (c : Code) : (A.under c).handled = A.handled := rfl
theorem around_base (S : Setup Γ) : aroundOf S.V true Kt.base.toK = S.A₀ := rfl
theorem around_ret (S : Setup Γ) (c : Code) (k : Result → Sem PySem.Fin) (κ : Kt) : aroundOf S.V true (Kt.ret c k κ).toK = ((aroundOf S.V true κ.toK).under c).mark none := rfl
theorem len_ret (c : Code) (k : Result → Sem PySem.Fin) (κ : Kt) : (Kt.ret c k κ).len = κ.len + 1 := rfl
theorem len_base : Kt.base.len = 0 := rfl
theorem KR.bound (O : S.Ok) {κ : Kt} (h : KR S κ) : (aroundOf S.V true κ.toK).depth + 5 ≤ S.dm + 5 * κ.len ∧ (aroundOf S.V true κ.toK).units + 10 ≤ S.um + 10 * κ.len ∧ (aroundOf S.V true κ.toK).handled = none := by
  cases κ with
  | base =>
    rw [around_base, len_base]
    have d := O.dep
    have u := O.uni
    exact ⟨by omega, by omega, O.hd⟩
  | ret c k κ =>
    have h2 : CB S c κ := And.right h
    unfold CB at h2
    obtain ⟨a, b, e⟩ := h2
    rw [around_ret, len_ret, mark_depth, mark_un, mark_no, under_hd]
    generalize ((aroundOf S.V true κ.toK).under c).depth = x at a ⊢
    generalize ((aroundOf S.V true κ.toK).under c).units = y at b ⊢
    exact ⟨by omega, by omega, e⟩
  | gen g j c k κ => exact False.elim h
theorem KR.cb (O : S.Ok) {κ : Kt} (h : KR S κ) {c : Code} (hw : c.weight ≤ 5) : CB S c κ := by
  obtain ⟨a, b, e⟩ := h.bound O
  have u := units_le c
  refine ⟨?_, ?_, e⟩
  · rw [under_dep]; omega
  · rw [under_un]; omega
theorem Good.weight (O : S.Ok) {n c κ c' κ' t md B T m i gl sc lg} (e : enter S.C κ' c' = some t) (H : Good S n c md κ t B T m i gl sc lg) : c'.weight ≤ 5 := by
  unfold enter at e
  split at e
  · rename_i t' ha
    exact (O.alt _ _ ha).1
  · cases e
    cases h : c'.isCaller with
    | false => exact weight_le h
    | true =>
      obtain ⟨w, hw⟩ := caller_den h
      obtain ⟨o, e, _⟩ := H sk0 X0
      rw [O.den, hw] at e
      cases n with
      | zero => exact nomatch (show Res.stop 40 0 = Res.out o from e)
      | succ n => exact nomatch (show Res.bad w = Res.out o from e)
theorem blt20 {n : Nat} (h : Nat.blt n 16 = true) : n < 16 := Nat.le_of_ble_eq_true h
theorem enter_own (O : S.Ok) {κ κ' : Kt} {c' : Code} {t : Sem PySem.Fin} (e : enter S.C κ' c' = some t) (hl : κ.len ≤ κ'.len) (hk : KR S κ) (hw : c'.weight ≤ 5) {Q E s} (hkt : KtIn S.C.kt s.heap)
    (h : wpOwn (model S.C.prog S.C.w) (aroundOf S.V true κ.toK) c' t Q E s) : wpOwn (model S.C.prog S.C.w) (aroundOf S.V true κ.toK) c' (denote table c') Q E s := by
  unfold enter at e
  split at e
  · rename_i t' ha
    split at e
    · rename_i hb
      cases e
      have l := blt20 hb
      obtain ⟨a, b, e⟩ := hk.bound O
      have u := units_le c'
      refine (O.alt _ _ ha).2 _ _ _ _ e ?_ ?_ hkt h
      · rw [under_dep]; omega
      · rw [under_un]; omega
    · cases e
  · cases e
    rw [O.den] at h
    exact h
end
end Sol
namespace Sol
open PySem PySem.Spec PySem.Calls PyProof.Rows PySem.W PySem.W.X
section
variable {Γ : Type} {S : Setup Γ}
noncomputable abbrev At (S : Setup Γ) (gb : List GenState) (B : Base Γ) (i : Nat) (gl : List GenState) (d : Drawn) (h : Heap) : Shared := ⟨h, ⟨gb ++ gl⟩, d, B.t + 1 + i, S.os⟩
noncomputable def SoundAt (S : Setup Γ) (n : Nat) : Prop := ∀ c md κ t B T m i gl sc lg, Good S n c md κ t B T m i gl sc lg → MI S md κ c B.G → ∀ h gb d, Rep S B T m h → gb.length = B.G → (∀ y ∈ gb, y.bare = true) →
  Means S.V c md κ.toK t (At S gb B i gl d h)

theorem plainF_marks : ∀ {fs : List Frame}, plainF fs = true → marksOver fs (none, none) = (none, none)
  | [], _ => rfl
  | .ret k hd g l c p kp :: fs, h => by
    cases hd with
    | some _ => cases h
    | none =>
      have z := plainF_marks (fs := fs) h
      unfold marksOver at z ⊢
      rw [List.foldr_cons, z]
      rfl
  | .gen .. :: _, h => by cases h
theorem gl_get {gb gl : List GenState} {x : Nat} {gs : GenState} (h : gl[x]? = some gs) : (⟨gb ++ gl⟩ : Array GenState)[gb.length + x]? = some gs := by
  show (gb ++ gl).toArray[gb.length + x]? = _
  rw [List.getElem?_toArray, List.getElem?_append_right (Nat.le_add_right ..), Nat.add_sub_cancel_left]
  exact h
theorem gl_set {gb gl : List GenState} {x : Nat} {gs : GenState} (h : Heap) (d : Drawn) (t : Nat) (os : OsState) : (⟨h, ⟨gb ++ gl⟩, d, t, os⟩ : Shared).setGen (gb.length + x) gs = ⟨h, ⟨gb ++ gl.set x gs⟩, d, t, os⟩ := by
  unfold Shared.setGen
  have : (⟨gb ++ gl⟩ : Array GenState).setIfInBounds (gb.length + x) gs = ⟨gb ++ gl.set x gs⟩ := by
    show (gb ++ gl).toArray.setIfInBounds (gb.length + x) gs = (gb ++ gl.set x gs).toArray
    rw [List.setIfInBounds_toArray, List.set_append, if_neg (by omega), Nat.add_sub_cancel_left]
  rw [this]

theorem wake_ok {n : Nat} (IH : SoundAt S n) {e : End} {κ : Kt} {B : Base Γ} {T : BT} {m i : Nat} {gl : List GenState} {sc : List Nat} {lg : List (Ob Γ)} {fs : List Frame} {c : Code}
    (H : ∀ sk X, ∃ o, wakeR (go S.C n) e κ B T m i gl sk X sc lg = .out o ∧ (∀ x ∈ o.lg, x.ok) ∧ Done S o) (M : MI S (some fs) κ c B.G) {h : Heap} {gb : List GenState} {d : Drawn} (D : Rep S B T m h)
    (hg : gb.length = B.G) (hb : ∀ y ∈ gb, y.bare = true) : wakeOf S.V κ.toK e (At S gb B i gl d h) := by
  cases κ with
  | base => exact False.elim M
  | ret c k κ => exact False.elim M
  | gen g j c k κ =>
    obtain ⟨kr, cb, rfl⟩ := M
    show Means S.V c none κ.toK (k e.result) ((At S gb B i gl d h).setGen (B.G + j) e.genState)
    have hs : (At S gb B i gl d h).setGen (B.G + j) e.genState = At S gb B i (gl.set j e.genState) d h := by
      rw [← hg]
      exact gl_set ..
    rw [hs]
    exact IH c none κ _ B T m i _ sc lg H ⟨kr, cb⟩ h gb d D hg hb
theorem ret_ok {n : Nat} (O : S.Ok) (IH : SoundAt S n) {r : Result} {c : Code} {md : Option (List Frame)} {κ : Kt} {t : Sem PySem.Fin} (ht : t = leafOf r) {B : Base Γ} {T : BT} {m i : Nat} {gl : List GenState} {sc : List Nat} {lg : List (Ob Γ)}
    (H : ∀ sk X, ∃ o, retR (go S.C n) r md κ B T m i gl sk X sc lg = .out o ∧ (∀ x ∈ o.lg, x.ok) ∧ Done S o) (M : MI S md κ c B.G) {h : Heap} {gb : List GenState} {d : Drawn} (D : Rep S B T m h)
    (hg : gb.length = B.G) (hb : ∀ y ∈ gb, y.bare = true) : Means S.V c md κ.toK t (At S gb B i gl d h) := by
  cases md with
  | none =>
    have key : endOf S.V κ.toK r (At S gb B i gl d h) := by
      cases κ with
      | base =>
        obtain ⟨o, e, _, dn⟩ := H sk0 X0
        cases e
        exact dn h gb d D hg hb
      | ret c₁ k κ =>
        obtain ⟨⟨kr, cb⟩, _⟩ := M
        exact IH c₁ none κ (k r) B T m i gl sc lg H ⟨kr, cb⟩ h gb d D hg hb
      | gen => exact False.elim M.1
    cases r with
    | ok f => subst ht; exact y_pure _ _ _ _ _ _ _ _ _ (y_done _ _ _ _ _ _ key)
    | error e => subst ht; exact y_raise _ _ _ _ _ _ _ _ _ (y_err _ _ _ key)
  | some fs =>
    cases fs with
    | nil => exact s_end _ _ _ _ _ _ r t ht (wake_ok IH H M D hg hb)
    | cons f fs =>
      cases f with
      | ret k hd g l c₁ p₁ kp =>
        refine s_pop _ _ _ _ _ _ _ r t ht k hd g l c₁ p₁ kp (IH c₁ (some fs) κ (k r) B T m i gl sc lg H ?_ h gb d D hg hb)
        exact M
      | gen =>
        obtain ⟨o, e, _⟩ := H sk0 X0
        cases e
end
end Sol
namespace Sol
open PySem PySem.Spec PySem.Calls PyProof.Rows PySem.W PySem.W.X
section
variable {Γ : Type} {S : Setup Γ}
variable {n : Nat} {c : Code} {md : Option (List Frame)} {κ : Kt} {B : Base Γ} {T : BT} {m i : Nat} {gl : List GenState} {sc : List Nat} {lg : List (Ob Γ)} {h : Heap} {gb : List GenState} {d : Drawn}

theorem st_rule (O : S.Ok) (IH : SoundAt S n) {k : Unit → Sem PySem.Fin} {t : Sem PySem.Fin} (ht : ∀ g : Setting, skim g 1 t = skim g 0 (k ())) (H : Good S n c md κ (k ()) B T m i gl sc lg) (M : MI S md κ c B.G) (D : Rep S B T m h)
    (hg : gb.length = B.G) (hb : ∀ y ∈ gb, y.bare = true) : Means S.V c md κ.toK t (At S gb B i gl d h) := by
  have z := IH _ _ _ _ _ _ _ _ _ _ _ H M h gb d D hg hb
  cases md with
  | none => exact y_skim _ _ _ _ _ _ _ _ _ 1 (by rw [ht]; exact z)
  | some fs => exact s_skim _ _ _ _ _ _ _ _ 1 (by rw [ht]; exact z)
theorem st_load (IH : SoundAt S n) {a : Addr} {q : Option Value} {k : Obj → Sem PySem.Fin} {o : Obj} {lg' : List (Ob Γ)} {sc' : List Nat} (ho : h.get? a = some o) (H : Good S n c md κ (k o) B T m i gl sc' lg') (M : MI S md κ c B.G) (D : Rep S B T m h)
    (hg : gb.length = B.G) (hb : ∀ y ∈ gb, y.bare = true) : Means S.V c md κ.toK (.load a q k) (At S gb B i gl d h) := by
  have z := IH _ _ _ _ _ _ _ _ _ _ _ H M h gb d D hg hb
  cases md with
  | none => exact y_load _ _ _ _ _ _ _ _ _ _ _ _ _ _ _ _ ho z
  | some fs => exact s_load _ _ _ _ _ _ _ _ _ _ _ _ _ _ _ ho z
theorem st_alive (IH : SoundAt S n) {a : Addr} {k : Option Obj → Sem PySem.Fin} {o : Obj} {lg' : List (Ob Γ)} {sc' : List Nat} (ho : h.get? a = some o) (H : Good S n c md κ (k (some o)) B T m i gl sc' lg') (M : MI S md κ c B.G) (D : Rep S B T m h)
    (hg : gb.length = B.G) (hb : ∀ y ∈ gb, y.bare = true) : Means S.V c md κ.toK (.loadIfAlive a k) (At S gb B i gl d h) := by
  have z := IH _ _ _ _ _ _ _ _ _ _ _ H M h gb d D hg hb
  cases md with
  | none => exact y_alive _ _ _ _ _ _ _ _ _ _ _ _ _ _ _ ho z
  | some fs => exact s_alive _ _ _ _ _ _ _ _ _ _ _ _ _ _ ho z
theorem logged {C : Cfg Γ} {c md κ t B T m i gl sk X sc} {lg : List (Ob Γ)} {y : Ob Γ} {o : Out Γ} (e : go C n c md κ t B T m i gl sk X sc (y :: lg) = .out o) (hx : ∀ x ∈ o.lg, x.ok) : y.ok :=
  hx y (go_lg C n _ _ _ _ _ _ _ _ _ _ _ _ _ _ e y (.head _))
theorem Good.log {t : Sem PySem.Fin} {y : Ob Γ} (H : Good S n c md κ t B T m i gl sc (y :: lg)) : y.ok := by
  obtain ⟨o, e, hx, _⟩ := H sk0 X0
  exact logged e hx
theorem st_alloc (O : S.Ok) (IH : SoundAt S n) {o : Obj} {k : Addr → Sem PySem.Fin} (hf : o.isFreed = false) {o' : Obj} (hi : (T.ins (B.J + m) o).get (B.J + m) = some o')
    (H : Good S n c md κ (k (B.N + 209 + m)) B (T.ins (B.J + m) o) (m + 1) i gl sc lg) (M : MI S md κ c B.G) (D : Rep S B T m h)
    (hg : gb.length = B.G) (hb : ∀ y ∈ gb, y.bare = true) : Means S.V c md κ.toK (.alloc o k) (At S gb B i gl d h) := by
  have D' := D.alloc O.toFine hf (by rw [hi]; rfl)
  have z := IH _ _ _ _ _ _ _ _ _ _ _ H M (h.push o) gb d D' hg hb
  have ea : h.objs.size = B.N + 209 + m := D.size
  cases md with
  | none => exact wpOwn_bind (m := PySem.alloc o) (f := k) (wpOwn_of_wpAny (wpAny_alloc (by show wpOwn _ _ _ (k h.objs.size) _ _ _; rw [ea]; exact z)))
  | some fs => exact s_cmd _ _ _ _ _ _ (m := PySem.alloc o) (k := k) (wpAny_alloc (by show SegX _ _ _ (k h.objs.size) _ _ _; rw [ea]; exact z))
theorem st_update (O : S.Ok) (IH : SoundAt S n) {a j : Nat} {q : Option Value} {f : Obj → Obj} {k : Unit → Sem PySem.Fin} {o : Obj} (e : T.get j = some o) (ea : a = B.addr j) (hf : (f o).isFreed = false) {lg' : List (Ob Γ)} {sc' : List Nat}
    (H : Good S n c md κ (k ()) B (T.set j f) m i gl sc' lg') (M : MI S md κ c B.G) (D : Rep S B T m h)
    (hg : gb.length = B.G) (hb : ∀ y ∈ gb, y.bare = true) : Means S.V c md κ.toK (.update a q f k) (At S gb B i gl d h) := by
  have D' := D.update O.toFine e ea hf
  have z := IH _ _ _ _ _ _ _ _ _ _ _ H M _ gb d D' hg hb
  have ho := D.load e ea
  cases md with
  | none => exact wpOwn_bind (m := updatePart a q f) (f := k) (wpOwn_of_wpAny (wpAny_updatePart ho z))
  | some fs => exact s_cmd _ _ _ _ _ _ (m := updatePart a q f) (k := k) (wpAny_updatePart ho z)
theorem st_fresh (IH : SoundAt S n) {k : Tok → Sem PySem.Fin} (H : Good S n c md κ (k (B.t + 1 + i)) B T m (i + 1) gl sc lg) (M : MI S md κ c B.G) (D : Rep S B T m h)
    (hg : gb.length = B.G) (hb : ∀ y ∈ gb, y.bare = true) : Means S.V c md κ.toK (.fresh k) (At S gb B i gl d h) := by
  have z := IH _ _ _ _ _ _ _ _ _ _ _ H M h gb d D hg hb
  cases md with
  | none => exact y_fresh _ _ _ _ _ _ _ _ _ _ _ _ _ z
  | some fs => exact s_fresh _ _ _ _ _ _ _ _ _ _ _ _ z
theorem st_newGen (IH : SoundAt S n) {c' : Code} {k : Nat → Sem PySem.Fin} (H : Good S n c md κ (k (B.G + gl.length)) B T m i (gl ++ [.fresh c']) sc lg) (M : MI S md κ c B.G) (D : Rep S B T m h)
    (hg : gb.length = B.G) (hb : ∀ y ∈ gb, y.bare = true) : Means S.V c md κ.toK (.newGen c' k) (At S gb B i gl d h) := by
  have z := IH _ _ _ _ _ _ _ _ _ _ _ H M h gb d D hg hb
  have es : (⟨gb ++ gl⟩ : Array GenState).size = B.G + gl.length := by
    show (gb ++ gl).length = _
    rw [List.length_append, hg]
  have ep : (⟨gb ++ gl⟩ : Array GenState).push (.fresh c') = ⟨gb ++ (gl ++ [.fresh c'])⟩ := by
    rw [push_gens, List.append_assoc]
  cases md with
  | none => exact y_newGen _ _ _ _ _ _ _ _ _ _ _ _ _ _ (by rw [ep, es]; exact z)
  | some fs => exact s_newGen _ _ _ _ _ _ _ _ _ _ _ _ _ (by rw [ep, es]; exact z)
theorem st_genState (IH : SoundAt S n) {g x : Nat} {k : GenStatus × Option (List (Code × Pos)) → Sem PySem.Fin} {gs : GenState} (e : gl[x]? = some gs) (ea : g = B.G + x) {lg' : List (Ob Γ)} {sc' : List Nat}
    (H : Good S n c md κ (k gs.seen) B T m i gl sc' lg') (M : MI S md κ c B.G) (D : Rep S B T m h)
    (hg : gb.length = B.G) (hb : ∀ y ∈ gb, y.bare = true) : Means S.V c md κ.toK (.genState g k) (At S gb B i gl d h) := by
  have z := IH _ _ _ _ _ _ _ _ _ _ _ H M h gb d D hg hb
  have hgs : (At S gb B i gl d h).gens[g]? = some gs := by rw [ea, ← hg]; exact gl_get e
  cases md with
  | none => exact y_genState _ _ _ _ _ _ _ _ _ _ gs hgs z
  | some fs => exact s_genState _ _ _ _ _ _ _ _ _ gs hgs z
theorem st_stack (IH : SoundAt S n) {k : List (Code × Pos) → Sem PySem.Fin} (H : ∀ p below, Good S n c md κ (k ((c, p) :: below)) B T m i gl sc lg) (M : MI S md κ c B.G) (D : Rep S B T m h)
    (hg : gb.length = B.G) (hb : ∀ y ∈ gb, y.bare = true) : Means S.V c md κ.toK (.stack k) (At S gb B i gl d h) := by
  cases md with
  | none => exact y_stack _ _ _ _ _ _ _ _ _ fun p below l => IH _ _ _ _ _ _ _ _ _ _ _ (H p below) M h gb d D hg hb
  | some fs => exact s_stack _ _ _ _ _ _ _ _ fun p below l => IH _ _ _ _ _ _ _ _ _ _ _ (H p below) M h gb d D hg hb
end
end Sol
namespace Sol
open PySem PySem.Spec PySem.Calls PyProof.Rows PySem.W PySem.W.X
section
variable {Γ : Type} {S : Setup Γ}
variable {n : Nat} {c : Code} {md : Option (List Frame)} {κ : Kt} {B : Base Γ} {T : BT} {m i : Nat} {gl : List GenState} {sc : List Nat} {lg : List (Ob Γ)} {h : Heap} {gb : List GenState} {d : Drawn}

theorem st_call (O : S.Ok) (IH : SoundAt S n) {c' : Code} {g : Bool} {l : List Value} {k : Result → Sem PySem.Fin} {t : Sem PySem.Fin} (e : enter S.C (.ret c k κ) c' = some t) {sc' : List Nat}
    (H : Good S n c' none (.ret c k κ) t B T m i gl sc' lg) (M : MI S none κ c B.G) (D : Rep S B T m h)
    (hg : gb.length = B.G) (hb : ∀ y ∈ gb, y.bare = true) : Means S.V c none κ.toK (.call c' none g l k) (At S gb B i gl d h) := by
  have kr : KR S (.ret c k κ) := M
  have w := H.weight O e
  have z := IH _ _ _ _ _ _ _ _ _ _ _ H ⟨kr, kr.cb O w⟩ h gb d D hg hb
  have z2 := enter_own O e (Nat.le_refl _) kr w (s := At S gb B i gl d h) D.kt z
  exact y_call _ _ _ _ _ _ _ _ _ _ _ _ _ (by intro x; cases x) (y_code _ _ _ _ _ _ z2)
theorem st_again (O : S.Ok) (IH : SoundAt S n) {c' : Code} (hq : c'.quiet = true) {t : Sem PySem.Fin} (e : enter S.C κ c' = some t)
    (H : Good S n c' none κ t B T m i gl sc lg) (M : MI S none κ c B.G) (D : Rep S B T m h)
    (hg : gb.length = B.G) (hb : ∀ y ∈ gb, y.bare = true) : Means S.V c none κ.toK (.pure (.again c')) (At S gb B i gl d h) := by
  have w := H.weight O e
  have z := IH _ _ _ _ _ _ _ _ _ _ _ H ⟨M.1, M.1.cb O w⟩ h gb d D hg hb
  have z2 := enter_own O e (Nat.le_refl _) M.1 w (s := At S gb B i gl d h) D.kt z
  exact y_pure _ _ _ _ _ _ _ _ _ (y_again _ _ _ _ _ _ hq (y_code _ _ _ _ _ _ z2))
theorem st_cut {c' : Code} (hq : c'.quiet = true) (e : cutAt S.C κ c' = true)
    (H : ∃ o, Res.out ⟨.error .none, B, T, m, i, gl, lg, some c'⟩ = Res.out o ∧ (∀ x ∈ o.lg, x.ok) ∧ Done S o) (D : Rep S B T m h)
    (hg : gb.length = B.G) (hb : ∀ y ∈ gb, y.bare = true) : Means S.V c none κ.toK (.pure (.again c')) (At S gb B i gl d h) := by
  cases κ with
  | base =>
    obtain ⟨o, eo, _, dn⟩ := H
    cases eo
    have z : codeAny (model S.C.prog S.C.w) S.A₀ c' S.R₀ (At S gb B i gl d h) := dn h gb d D hg hb
    exact y_pure _ _ _ _ _ _ _ _ _ (y_again _ _ _ _ _ _ hq z)
  | ret => cases e
  | gen => cases e
theorem st_againS (O : S.Ok) (IH : SoundAt S n) {c' : Code} (hq : c'.quiet = true) {fs : List Frame}
    (H : Good S n c' (some fs) κ (S.C.den c') B T m i gl sc lg) (M : MI S (some fs) κ c B.G) (D : Rep S B T m h)
    (hg : gb.length = B.G) (hb : ∀ y ∈ gb, y.bare = true) : Means S.V c (some fs) κ.toK (.pure (.again c')) (At S gb B i gl d h) := by
  have z := IH _ _ _ _ _ _ _ _ _ _ _ H M h gb d D hg hb
  rw [O.den] at z
  exact s_again _ _ _ _ _ _ _ _ hq z
theorem st_callS (O : S.Ok) (IH : SoundAt S n) {c' : Code} {hd : Option Value} {g : Bool} {l : List Value} {k : Result → Sem PySem.Fin} {fs : List Frame}
    (H : ∀ p, Good S n c' (some (.ret k hd g l c p [] :: fs)) κ (S.C.den c') B T m i gl sc lg) (M : MI S (some fs) κ c B.G) (D : Rep S B T m h)
    (hg : gb.length = B.G) (hb : ∀ y ∈ gb, y.bare = true) : Means S.V c (some fs) κ.toK (.call c' hd g l k) (At S gb B i gl d h) := by
  refine s_call _ _ _ _ _ _ _ _ _ _ _ _ fun p => ?_
  have z := IH _ _ _ _ _ _ _ _ _ _ _ (H p) M h gb d D hg hb
  rw [O.den] at z
  exact z
theorem st_handled (IH : SoundAt S n) {k : Option Value → Sem PySem.Fin} (H : Good S n c none κ (k none) B T m i gl sc lg) (M : MI S none κ c B.G) (D : Rep S B T m h)
    (hg : gb.length = B.G) (hb : ∀ y ∈ gb, y.bare = true) : Means S.V c none κ.toK (.handled false k) (At S gb B i gl d h) := by
  have z := IH _ _ _ _ _ _ _ _ _ _ _ H M h gb d D hg hb
  have e := M.2.2.2
  exact y_handled _ _ _ _ _ _ _ _ _ (by rw [e]; exact z)
theorem around_gen (S : Setup Γ) (g j : Nat) (c' : Code) (k : GenResult → Sem PySem.Fin) (κ : Kt) : aroundOf S.V false (Kt.gen g j c' k κ).toK = (aroundOf S.V true κ.toK).under c' := rfl
theorem over_hd (A : Around) (c : Code) (fs : List Frame) : (A.over c fs).handled = (marksOver fs (A.handled, A.handled)).1 := rfl
theorem st_handledS (IH : SoundAt S n) {k : Option Value → Sem PySem.Fin} {fs : List Frame} (hp : plainF fs = true) (H : Good S n c (some fs) κ (k none) B T m i gl sc lg) (M : MI S (some fs) κ c B.G) (D : Rep S B T m h)
    (hg : gb.length = B.G) (hb : ∀ y ∈ gb, y.bare = true) : Means S.V c (some fs) κ.toK (.handled false k) (At S gb B i gl d h) := by
  have z := IH _ _ _ _ _ _ _ _ _ _ _ H M h gb d D hg hb
  cases κ with
  | base => exact False.elim M
  | ret => exact False.elim M
  | gen g j c' k' κ =>
    have e := M.2.1.2.2
    refine s_handled _ _ _ _ _ _ _ _ ?_
    have e2 : ((aroundOf S.V false (Kt.gen g j c' k' κ).toK).over c fs).handled = none := by
      rw [around_gen, over_hd, under_hd, e, plainF_marks hp]
    rw [e2]
    exact z
theorem st_resume (O : S.Ok) (IH : SoundAt S n) {g x : Nat} {r : Resume} {l : List Value} {k : GenResult → Sem PySem.Fin} {gs : GenState} (e : gl[x]? = some gs) (ea : g = B.G + x) {c₀ : Code} {t₀ : Sem PySem.Fin} {fs₀ : List Frame}
    (hgs : (gs = .fresh c₀ ∧ r = .send .none ∧ t₀ = denote table c₀ ∧ fs₀ = []) ∨ (∃ k₀ l₀ p₀ cl, gs = .suspended k₀ l₀ c₀ p₀ fs₀ cl ∧ t₀ = k₀ r)) {lg' : List (Ob Γ)} {sc' : List Nat}
    (H : Good S n c₀ (some fs₀) (.gen g x c k κ) t₀ B T m i (gl.set x .running) sc' lg') (M : MI S none κ c B.G) (D : Rep S B T m h)
    (hg : gb.length = B.G) (hb : ∀ y ∈ gb, y.bare = true) : Means S.V c none κ.toK (.resume g r l k) (At S gb B i gl d h) := by
  have z := IH _ _ _ _ _ _ _ _ _ _ _ H ⟨M.1, M.2, ea⟩ h gb d D hg hb
  have hget : (At S gb B i gl d h).gens[g]? = some gs := by rw [ea, ← hg]; exact gl_get e
  have hs : (At S gb B i gl d h).setGen g .running = At S gb B i (gl.set x .running) d h := by
    rw [ea, ← hg]; exact gl_set ..
  rcases hgs with ⟨rfl, rfl, rfl, rfl⟩ | ⟨k₀, l₀, p₀, cl, rfl, rfl⟩
  · exact y_resume_f _ _ _ _ _ _ _ _ _ _ _ _ hget (by rw [hs]; exact z)
  · exact y_resume_s _ _ _ _ _ _ _ _ _ _ _ _ _ _ _ _ _ _ hget (by rw [hs]; exact z)
theorem st_yield (IH : SoundAt S n) {v : Value} {l : List Value} {k : Resume → Sem PySem.Fin} {fs : List Frame} (hfs : splitAtGen fs = none) (hfg : fs.any Frame.guarded = false)
    (H : ∀ p, ∀ sk X, ∃ o, wakeR (go S.C n) (.susp v false l k c p fs) κ B T m i gl sk X sc lg = .out o ∧ (∀ x ∈ o.lg, x.ok) ∧ Done S o) (M : MI S (some fs) κ c B.G) (D : Rep S B T m h)
    (hg : gb.length = B.G) (hb : ∀ y ∈ gb, y.bare = true) : Means S.V c (some fs) κ.toK (.yield v false l k) (At S gb B i gl d h) :=
  s_yield _ _ _ _ _ _ _ _ _ _ hfs hfg fun p => wake_ok IH (H p) M D hg hb
theorem st_con (O : S.Ok) (IH : SoundAt S n) {c' : Code} {g : Bool} {l : List Value} {k : Result → Sem PySem.Fin} {q : Con Γ} {j : Nat} (hq : S.C.con ps j = some q) {sc' : List Nat}
    (H : ∀ sk X, ∃ o, conR S.C (go S.C n) c κ c' k q B T m i gl sk X sc' lg = .out o ∧ (∀ x ∈ o.lg, x.ok) ∧ Done S o) (M : MI S none κ c B.G) (D : Rep S B T m h)
    (hg : gb.length = B.G) (hb : ∀ y ∈ gb, y.bare = true) : Means S.V c none κ.toK (.call c' none g l k) (At S gb B i gl d h) := by
  have e : gl = [] := by
    cases gl with
    | nil => rfl
    | cons _ _ => obtain ⟨o, e, _⟩ := H sk0 X0; cases e
  subst e
  have hl : Nat.blt κ.len 16 = true := by
    cases z : Nat.blt κ.len 16 with
    | true => rfl
    | false => obtain ⟨o, e, _⟩ := H sk0 X0; simp only [conR, z] at e; cases e
  obtain ⟨lg', hr⟩ : ∃ lg', readAll B T q.reads lg = some lg' := by
    cases z : readAll B T q.reads lg with
    | some lg' => exact ⟨lg', rfl⟩
    | none => obtain ⟨o, e, _⟩ := H sk0 X0; simp only [conR, hl, z] at e; cases e
  have hn : ∀ x, newsOk (q.news x) (B.J + m) (putSets (q.sets x) T) = true := fun x => by
    cases z : newsOk (q.news x) (B.J + m) (putSets (q.sets x) T) with
    | true => rfl
    | false => obtain ⟨o, e, _⟩ := H sk0 fun _ => x; simp only [conR, hl, hr, z] at e; cases e
  have H' : ∀ x, Good S n c none κ (k (q.res x)) (B.next m (q.news x) x (q.gpost x)) (putNews (q.news x) (B.J + m) (putSets (q.sets x) T)) 0 0 [] sc' (.g q.gpre B.g :: .c c' q.code :: lg') := by
    intro x sk X
    obtain ⟨o, e, a, b⟩ := H sk fun j => match j with | 0 => x | j + 1 => X j
    have hx := hn x
    simp only [conR, hl, hr, hx] at e
    exact ⟨o, e, a, b⟩
  -- what was logged
  obtain ⟨o, e, hok, _⟩ := H' (X0 0) sk0 X0
  have gl_ := go_lg S.C n _ _ _ _ _ _ _ _ _ _ _ _ _ _ e
  have e1 : q.gpre = B.g := hok _ (gl_ _ (.head _))
  have e2 : c' = q.code := hok _ (gl_ _ (.tail _ (.head _)))
  have rd := (readAll_lg hr).2
  have hrd : ∀ p ∈ q.reads, T.get p.1 = some p.2.2 ∧ p.2.1 = B.addr p.1 := fun p hp => by
    obtain ⟨o, ho, h1, h2⟩ := rd p hp
    have a : o = p.2.2 := hok _ (gl_ _ (.tail _ (.tail _ h1)))
    have b : p.2.1 = B.addr p.1 := hok _ (gl_ _ (.tail _ (.tail _ h2)))
    exact ⟨by rw [ho, a], b⟩
  subst e2
  obtain ⟨kr, cb⟩ := M
  have l20 := blt20 hl
  have K := O.con _ j q hq (((aroundOf S.V true κ.toK).under c).mark none) h gb d (B.t + i) (by rw [D.size]; omega) ?_ ?_ ?_ D.kt (fun a o e => e1 ▸ D.ktF a o e) (fun p hp => ?_) (fun p hp p' hp' ne z => ?_) (e1 ▸ D.gh) hb
  have es0 : At S gb B i [] d h = ⟨h, ⟨gb⟩, d, B.t + i + 1, S.os⟩ := by
    show (⟨h, ⟨gb ++ []⟩, d, B.t + 1 + i, S.os⟩ : Shared) = _
    rw [List.append_nil, Nat.add_right_comm]
  rw [es0]
  refine y_call _ _ _ _ _ _ _ _ _ _ _ _ _ (by intro x; cases x) (codeAny_mono K ?_)
  · rintro r s' ⟨x, h', gb', d', rfl, rfl, L⟩
    have D' := D.con O.toFine e1 hrd (hn x) L
    have z := IH _ _ _ _ _ _ _ _ _ _ _ (H' x) ⟨kr, cb⟩ h' gb' d' D' L.gens.symm L.bare
    have es : At S gb' (B.next m (q.news x) x (q.gpost x)) 0 [] d' h' = ⟨h', ⟨gb'⟩, d', x 1 + 1, S.os⟩ := by
      show (⟨h', ⟨gb' ++ []⟩, d', x 1 + 1 + 0, S.os⟩ : Shared) = _
      rw [List.append_nil]
    rw [es] at z
    exact z
  · have := cb.2.2
    rw [mark_no, under_hd]; exact this
  · have := cb.1
    rw [mark_depth]
    generalize ((aroundOf S.V true κ.toK).under c).depth = x at this ⊢
    omega
  · have := cb.2.1
    rw [mark_un]
    generalize ((aroundOf S.V true κ.toK).under c).units = x at this ⊢
    omega
  · obtain ⟨a, b⟩ := hrd p hp
    have hj := (D.own _ _ a).1
    refine ⟨b ▸ (D.own _ _ a).2, ?_, ?_⟩
    · rw [b, e1]; exact D.foot _ hj
    · rw [b]; exact D.off _ hj
  · obtain ⟨a, b⟩ := hrd p hp
    obtain ⟨a', b'⟩ := hrd p' hp'
    exact ne (D.inj _ _ (D.own _ _ a).1 (D.own _ _ a').1 (by rw [← b, ← b', z]))
end
end Sol
namespace Sol
open PySem PySem.Spec PySem.Calls PyProof.Rows PySem.W PySem.W.X
section
variable {Γ : Type} {S : Setup Γ}
theorem no_stop {P : Out Γ → Prop} {n a : Nat} : ¬ ∃ o, Res.stop n a = Res.out o ∧ P o := fun ⟨_, e, _⟩ => nomatch e
theorem no_bad {P : Out Γ → Prop} {w : String} : ¬ ∃ o, Res.bad w = Res.out o ∧ P o := fun ⟨_, e, _⟩ => nomatch e
theorem sound_zero : SoundAt S 0 := fun c md κ t B T m i gl sc lg H _ _ _ _ _ _ _ => by
  obtain ⟨o, e, _⟩ := H sk0 X0
  exact nomatch (show Res.stop 40 0 = Res.out o from e)
theorem sound_step (O : S.Ok) {n : Nat} (IH : SoundAt S n) : SoundAt S (n + 1) := by
  intro c md κ t B T m i gl sc lg H M h gb d D hg hb
  have H' : ∀ sk X, ∃ o, step S.C (go S.C n) c md κ t B T m i gl sk X sc lg = .out o ∧ (∀ x ∈ o.lg, x.ok) ∧ Done S o := H
  clear H
  cases t with
  | pure fin =>
    cases fin with
    | done f => exact ret_ok O IH rfl H' M D hg hb
    | again c' =>
      simp only [step] at H'
      cases hq : S.C.qt c' with
      | false => rw [hq] at H'; exact absurd (H' sk0 X0) no_stop
      | true =>
        rw [hq] at H'
        cases md with
        | some fs => exact st_againS O IH ((O.qt c').symm.trans hq) H' M D hg hb
        | none =>
          simp only [againR] at H'
          cases hc : cutAt S.C κ c' with
          | true => rw [hc] at H'; exact st_cut ((O.qt c').symm.trans hq) hc (H' sk0 X0) D hg hb
          | false =>
            rw [hc] at H'
            simp only at H'
            cases he : enter S.C κ c' with
            | none => rw [he] at H'; exact absurd (H' sk0 X0) no_stop
            | some t => rw [he] at H'; exact st_again O IH ((O.qt c').symm.trans hq) he H' M D hg hb
  | raise e => exact ret_ok O IH rfl H' M D hg hb
  | unsupported w => exact absurd (H' sk0 X0) no_bad
  | finish e => exact absurd (H' sk0 X0) no_stop
  | rule tag k => exact st_rule O IH (fun _ => rfl) H' M D hg hb
  | «at» q k => exact st_rule O IH (fun _ => rfl) H' M D hg hb
  | point l k => exact st_rule O IH (fun _ => rfl) H' M D hg hb
  | ask k =>
    have z := IH _ _ _ _ _ _ _ _ _ _ _ H' M h gb d D hg hb
    rw [O.par] at z
    cases md with
    | none => exact y_skim _ _ _ _ _ _ _ _ _ 1 z
    | some fs => exact s_skim _ _ _ _ _ _ _ _ 1 z
  | load a q k =>
    cases sc with
    | nil => exact absurd (H' sk0 X0) no_stop
    | cons x sc =>
      cases x with
      | zero =>
        simp only [step] at H'
        cases e : S.C.kt.get a with
        | none => rw [e] at H'; exact absurd (H' sk0 X0) no_stop
        | some o => rw [e] at H'; exact st_load IH (D.kt a o e) H' M D hg hb
      | succ j =>
        simp only [step] at H'
        cases e : T.get j with
        | none => rw [e] at H'; exact absurd (H' sk0 X0) no_stop
        | some o =>
          rw [e] at H'
          have G : Good S n c md κ (k o) B T m i gl sc (.n a (B.addr j) :: lg) := H'
          exact st_load IH (D.load e G.log) G M D hg hb
  | loadIfAlive a k =>
    cases sc with
    | nil => exact absurd (H' sk0 X0) no_stop
    | cons x sc =>
      cases x with
      | zero =>
        simp only [step] at H'
        cases e : S.C.kt.get a with
        | none => rw [e] at H'; exact absurd (H' sk0 X0) no_stop
        | some o => rw [e] at H'; exact st_alive IH (D.kt a o e) H' M D hg hb
      | succ j =>
        simp only [step] at H'
        cases e : T.get j with
        | none => rw [e] at H'; exact absurd (H' sk0 X0) no_stop
        | some o =>
          rw [e] at H'
          have G : Good S n c md κ (k (some o)) B T m i gl sc (.n a (B.addr j) :: lg) := H'
          exact st_alive IH (D.load e G.log) G M D hg hb
  | alloc o k =>
    simp only [step] at H'
    cases hf : o.isFreed with
    | true => rw [hf] at H'; exact absurd (H' sk0 X0) no_stop
    | false =>
      rw [hf] at H'
      simp only at H'
      cases e : (T.ins (B.J + m) o).get (B.J + m) with
      | none => rw [e] at H'; exact absurd (H' sk0 X0) no_stop
      | some o' => rw [e] at H'; exact st_alloc O IH hf e H' M D hg hb
  | update a q f k =>
    cases sc with
    | nil => exact absurd (H' sk0 X0) no_stop
    | cons x sc =>
      cases x with
      | zero => exact absurd (H' sk0 X0) no_stop
      | succ j =>
        simp only [step] at H'
        cases e : T.get j with
        | none => rw [e] at H'; exact absurd (H' sk0 X0) no_stop
        | some o =>
          rw [e] at H'
          simp only at H'
          cases hf : (f o).isFreed with
          | true => rw [hf] at H'; exact absurd (H' sk0 X0) no_stop
          | false =>
            rw [hf] at H'
            have G : Good S n c md κ (k ()) B (T.set j f) m i gl sc (.n a (B.addr j) :: lg) := H'
            exact st_update O IH e G.log hf G M D hg hb
  | fresh k => exact st_fresh IH H' M D hg hb
  | handled own k =>
    cases own with
    | true => exact absurd (H' sk0 X0) no_stop
    | false =>
      cases md with
      | none => exact st_handled IH H' M D hg hb
      | some fs =>
        simp only [step] at H'
        cases hp : plainF fs with
        | false => rw [hp] at H'; exact absurd (H' sk0 X0) no_stop
        | true => rw [hp] at H'; exact st_handledS IH hp H' M D hg hb
  | stack k =>
    refine st_stack (sc := sc) (lg := lg) IH (fun p below sk X => ?_) M D hg hb
    exact H' (fun j => match j with | 0 => (p, below) | j + 1 => sk j) X
  | call c' hd g l k =>
    cases md with
    | some fs =>
      refine st_callS (sc := sc) (lg := lg) O IH (fun p sk X => ?_) M D hg hb
      exact H' (fun j => match j with | 0 => (p, []) | j + 1 => sk j) X
    | none =>
      cases hd with
      | some _ => exact absurd (H' sk0 X0) no_stop
      | none =>
        cases sc with
        | nil => exact absurd (H' sk0 X0) no_stop
        | cons x sc =>
          cases x with
          | zero =>
            simp only [step] at H'
            cases he : enter S.C (.ret c k κ) c' with
            | none => rw [he] at H'; exact absurd (H' sk0 X0) no_stop
            | some t => rw [he] at H'; exact st_call O IH he H' M D hg hb
          | succ j =>
            simp only [step] at H'
            cases hq : S.C.con ⟨B.ps, c', T, B.g⟩ j with
            | none => rw [hq] at H'; exact absurd (H' sk0 X0) no_stop
            | some q => rw [hq] at H'; exact st_con O IH hq H' M D hg hb
  | newGen c' k => exact st_newGen IH H' M D hg hb
  | genState g k =>
    cases sc with
    | nil => exact absurd (H' sk0 X0) no_stop
    | cons x sc =>
      simp only [step] at H'
      cases e : gl[x]? with
      | none => rw [e] at H'; exact absurd (H' sk0 X0) no_stop
      | some gs =>
        rw [e] at H'
        have G : Good S n c md κ (k gs.seen) B T m i gl sc (.n g (B.G + x) :: lg) := H'
        exact st_genState IH e G.log G M D hg hb
  | resume g r l k =>
    cases md with
    | some fs => exact absurd (H' sk0 X0) no_stop
    | none =>
      cases sc with
      | nil => exact absurd (H' sk0 X0) no_stop
      | cons x sc =>
        simp only [step] at H'
        cases e : gl[x]? with
        | none => rw [e] at H'; exact absurd (H' sk0 X0) no_stop
        | some gs =>
          rw [e] at H'
          cases gs with
          | running => exact absurd (H' sk0 X0) no_stop
          | finished => exact absurd (H' sk0 X0) no_stop
          | suspended k₀ l₀ c₀ p₀ fs₀ cl =>
            have G : Good S n c₀ (some fs₀) (.gen g x c k κ) (k₀ r) B T m i (gl.set x .running) sc (.n g (B.G + x) :: lg) := H'
            exact st_resume O IH e G.log (.inr ⟨_, _, _, _, rfl, rfl⟩) G M D hg hb
          | fresh c₀ =>
            cases r with
            | throw _ => exact absurd (H' sk0 X0) no_stop
            | send v =>
              cases v with
              | none =>
                have G : Good S n c₀ (some []) (.gen g x c k κ) (S.C.den c₀) B T m i (gl.set x .running) sc (.n g (B.G + x) :: lg) := H'
                have lo := G.log
                rw [O.den] at G
                exact st_resume O IH e lo (.inl ⟨rfl, rfl, rfl, rfl⟩) G M D hg hb
              | _ => exact absurd (H' sk0 X0) no_stop
  | yield v gd l k =>
    cases md with
    | none => exact absurd (H' sk0 X0) no_stop
    | some fs =>
      cases gd with
      | true => exact absurd (H' sk0 X0) no_stop
      | false =>
        simp only [step] at H'
        cases hs : splitAtGen fs with
        | some _ => rw [hs] at H'; exact absurd (H' sk0 X0) no_stop
        | none =>
          rw [hs] at H'
          simp only at H'
          cases ha : fs.any Frame.guarded with
          | true => rw [ha] at H'; exact absurd (H' sk0 X0) no_stop
          | false =>
            rw [ha] at H'
            refine st_yield (sc := sc) (lg := lg) IH hs ha (fun p sk X => ?_) M D hg hb
            exact H' (fun j => match j with | 0 => (p, []) | j + 1 => sk j) X
  | register a k => exact absurd (H' sk0 X0) no_stop
  | choose s n k => exact absurd (H' sk0 X0) no_stop
  | os r l k => exact absurd (H' sk0 X0) no_stop
  | fork c k => exact absurd (H' sk0 X0) no_stop
  | thread k => exact absurd (H' sk0 X0) no_stop
  | await a t b l k => exact absurd (H' sk0 X0) no_stop
theorem sound (O : S.Ok) : ∀ n, SoundAt S n
  | 0 => sound_zero
  | n + 1 => sound_step O (sound O n)
end
end Sol
namespace Sol
open PySem PySem.Spec PySem.Calls PyProof.Rows PySem.W PySem.W.X

section
variable {prog : Program} {w : World} {G : PySem.Ctx} {α β : Type}
noncomputable def Ref (prog : Program) (w : World) (G : PySem.Ctx) {α : Type} (t' t : Sem α) : Prop := ∀ (Q : α → Pos → Shared → Prop) (E : Value → Pos → Shared → Prop) (p : Pos) (s : Shared), Sem.wp (model prog w) G t' Q E p s → Sem.wp (model prog w) G t Q E p s
theorem Ref.refl (t : Sem α) : Ref prog w G t t := fun _ _ _ _ h => h
theorem Ref.bind {m' m : Sem α} {f' f : α → Sem β} (h : Ref prog w G m' m) (hf : ∀ a, Ref prog w G (f' a) (f a)) : Ref prog w G (m' >>= f') (m >>= f) := fun Q E p s x => by
  rw [Sem.wp_bind'] at x ⊢
  exact Sem.wp_mono _ _ m (fun a p s y => hf a _ _ _ _ y) (fun _ _ _ y => y) p s (h _ _ _ _ x)
theorem Ref.bindR {m : Sem α} {f' f : α → Sem β} (hf : ∀ a, Ref prog w G (f' a) (f a)) : Ref prog w G (m >>= f') (m >>= f) := .bind (.refl _) hf
theorem Ref.holding {vs : List Value} {m' m : Sem α} (h : Ref prog w G m' m) : Ref prog w G (holding vs m') (holding vs m) := fun Q E p s x => by
  rw [Sem.wp_holding] at x ⊢
  exact h _ _ _ _ x
theorem Ref.onRaise {m' m : Sem α} {f : Value → Sem Unit} (h : Ref prog w G m' m) : Ref prog w G (m'.onRaise f) (m.onRaise f) := fun Q E p s x => by
  rw [Sem.wp_onRaise] at x ⊢
  exact h _ _ _ _ x
theorem Ref.bad {t : Sem α} {x : String} : Ref prog w G (.unsupported x) t := fun _ _ _ _ h => False.elim h
theorem Ref.skip {m : Sem Unit} {f' f : Sem α} (h : ∀ Q E p s, Sem.wp (model prog w) G f' Q E p s → Sem.wp (model prog w) G (m >>= fun _ => f) Q E p s) : Ref prog w G f' (m >>= fun _ => f) := h

noncomputable def limCheck : Sem Unit := do
  match ← nsGet cStatics "sys.recursionlimit" with
  | none => pure ()
  | some _ => .unsupported "limit"
theorem sums {A : Around} (hG : G.In A) (hd : A.depth < recursionLimit) (p : Pos) :
    ((((G.code, p) :: G.below).map (·.1)).map (·.frames)).sum + ((((G.code, p) :: G.below).map (·.1)).filter Code.isCreation).length < recursionLimit := by
  have hge := frameCount_ge ((G.code, p) :: G.below)
  rw [frameCount_cons] at hge
  have := hG.2.1
  omega
theorem lim_enter {A : Around} (hG : G.In A) (hd : A.depth < recursionLimit) : Ref prog w G limCheck (enterFrame 0) := by
  intro Q E p s h
  have hs := sums hG hd p
  unfold limCheck at h
  rw [Sem.wp_bind'] at h
  simp only [enterFrame, currentRecursionLimit, Sem.wp_bind']
  refine Sem.wp_mono (model prog w) G (nsGet cStatics "sys.recursionlimit") (fun r p' s' h' => ?_) (fun _ _ _ e => e) p s h
  cases r with
  | some _ => exact False.elim h'
  | none =>
    show Sem.wp (model prog w) G (if nearTheLimitUnderAClaim (((G.code, p) :: G.below).map (·.1)) (((((G.code, p) :: G.below).map (·.1)).map (·.frames)).sum + ((((G.code, p) :: G.below).map (·.1)).filter Code.isCreation).length) recursionLimit = true then _ else _) _ _ p' s'
    rw [if_neg (by rw [not_nearTheLimit hG hd]; exact Bool.false_ne_true)]
    show Sem.wp (model prog w) G (if ((((G.code, p) :: G.below).map (·.1)).map (·.frames)).sum ≥ recursionLimit then _ else _) _ _ p' s'
    rw [if_neg (by omega)]
    show Sem.wp (model prog w) G (if ((((G.code, p) :: G.below).map (·.1)).map (·.frames)).sum + ((((G.code, p) :: G.below).map (·.1)).filter Code.isCreation).length ≥ recursionLimit then _ else _) _ _ p' s'
    rw [if_neg (by omega)]
    exact h'
theorem lim_wake {A : Around} (hG : G.In A) (hd : A.depth < recursionLimit) : Ref prog w G limCheck roomToWake := by
  intro Q E p s h
  have hs := sums hG hd p
  unfold limCheck at h
  rw [Sem.wp_bind'] at h
  simp only [roomToWake, currentRecursionLimit, Sem.wp_bind']
  refine Sem.wp_mono (model prog w) G (nsGet cStatics "sys.recursionlimit") (fun r p' s' h' => ?_) (fun _ _ _ e => e) p s h
  cases r with
  | some _ => exact False.elim h'
  | none =>
    show Sem.wp (model prog w) G (if nearTheLimitUnderAClaim (((G.code, p) :: G.below).map (·.1)) (((((G.code, p) :: G.below).map (·.1)).map (·.frames)).sum + ((((G.code, p) :: G.below).map (·.1)).filter Code.isCreation).length) recursionLimit = true then _ else _) _ _ p' s'
    rw [if_neg (by rw [not_nearTheLimit hG hd]; exact Bool.false_ne_true)]
    show Sem.wp (model prog w) G (if ((((G.code, p) :: G.below).map (·.1)).map (·.frames)).sum + ((((G.code, p) :: G.below).map (·.1)).filter Code.isCreation).length ≥ recursionLimit then _ else _) _ _ p' s'
    rw [if_neg (by omega)]
    exact h'

noncomputable def defT (self : Addr) (fd : FuncData) (args : Args) : Sem PySem.Fin := match fd.body with
  | .expr _ => .unsupported "def"
  | .stmts b => match fd.scope.isGenerator with
    | true => .unsupported "def"
    | false => match fd.scope.isCoroutine with
      | true => .unsupported "def"
      | false => do
        let q ← match fd.code with
          | .none => pure fd.qualname
          | c => do match ← field c 1 with
            | .str q _ => pure q
            | _ => pure fd.qualname
        let binds ← bindArgs fd args
        let env ← newFunctionEnv fd.scope fd.globals fd.closure binds (q ++ ".<locals>.") (some self) fd.code none fd.builtins
        limCheck
        again (.func b env)
theorem defT_ref {A : Around} (hG : G.In A) (hd : A.depth < recursionLimit) (a : Addr) (fd : FuncData) (args : Args) : Ref prog w G (defT a fd args) (callFunction a fd args) := by
  unfold defT callFunction
  split
  · exact .bad
  · rename_i b hb
    split
    · exact .bad
    · rename_i hg
      split
      · exact .bad
      · rename_i hc
        simp only [hb, hg, hc]
        cases fd.code <;> simp only
        all_goals first
          | exact .bindR fun _ => .bindR fun _ => .bindR fun _ => .bind (lim_enter hG hd) fun _ => .refl _
          | (refine .bindR fun v => ?_; cases v <;> exact .bindR fun _ => .bindR fun _ => .bindR fun _ => .bind (lim_enter hG hd) fun _ => .refl _)
noncomputable def callT (den : Code → Sem PySem.Fin) (a : Addr) (args : Args) : Sem PySem.Fin := .load a none fun o => match o.data with
  | .func fd => defT a fd args
  | _ => den (.call (.ref a) args)
theorem callT_ref {A : Around} (hG : G.In A) (hd : A.depth < recursionLimit) (a : Addr) (args : Args) : Ref prog w G (callT (denote table) a args) (denote table (.call (.ref a) args)) := by
  intro Q E p s h
  obtain ⟨o, ho, h⟩ := h
  refine ⟨o, ho, ?_⟩
  show Sem.wp _ _ (match o.data with | .func fd => callFunction a fd args | .fields vs => _ | _ => _) _ _ _ _
  replace h : Sem.wp (model prog w) G (match o.data with | .func fd => defT a fd args | _ => denote table (.call (.ref a) args)) Q E p s := h
  obtain ⟨dd, hx⟩ : ∃ d, o.data = d := ⟨_, rfl⟩
  cases dd with
  | func fd =>
    rw [hx] at h ⊢
    exact defT_ref hG hd a fd args _ _ _ _ h
  | _ =>
    rw [hx] at h
    obtain ⟨o', ho', h⟩ := (h : Sem.wp (model prog w) G (.load a none _) Q E p s)
    rw [ho] at ho'
    cases ho'
    exact h
end
end Sol
namespace Sol
open PySem PySem.Spec PySem.Calls PyProof.Rows PySem.W PySem.W.X
section
variable {prog : Program} {w : World} {G : PySem.Ctx} {α β : Type}
open PySem.Builtin.Generator in
noncomputable def nextT (args : Args) : Sem PySem.Fin := do
  let (g, _) ← slotArgs "__next__" 0 args
  let n ← holding [.none] (genNumber g)
  let before ← genState n
  match before with
  | GenStatus.fresh => do
    limCheck
    turn n
  | .suspended => do
    limCheck
    turn n
  | .running => .unsupported "next"
  | .finished => .unsupported "next"
where turn (n : Nat) : Sem PySem.Fin := do
  match ← resume n (.send .none) with
  | .yielded v => ret v
  | .returned v => match v with
    | .none => raiseNew (← newExc (.type "StopIteration") [])
    | _ => .unsupported "next"
  | .raised _ => .unsupported "next"
  | .running => .unsupported "next"
  | .finished => .unsupported "next"
  | .justStarted => .unsupported "next"
theorem raiseNew_ref (e : Value) (f : Unit → Sem α) : Ref prog w G (raiseNew e : Sem α) ((raiseNew e : Sem Unit) >>= f) := by
  intro Q E p s h
  rw [Sem.wp_bind']
  unfold raiseNew at h ⊢
  rw [Sem.wp_bind'] at h ⊢
  refine Sem.wp_mono _ _ _ (fun hd p s h => ?_) (fun _ _ _ y => y) p s h
  cases e <;> cases hd <;> first
    | exact h
    | (simp only at h ⊢
       split at h
       · rename_i hne
         rw [if_pos hne]
         rw [Sem.wp_bind'] at h ⊢
         refine Sem.wp_mono _ _ _ (fun _ p s h => ?_) (fun _ _ _ y => y) p s h
         rw [Sem.wp_bind'] at h ⊢
         exact Sem.wp_mono _ _ _ (fun _ p s h => h) (fun _ _ _ y => y) p s h
       · rename_i hne
         rw [if_neg hne]
         exact h)
open PySem.Builtin.Generator in
theorem nextT_ref {A : Around} (hG : G.In A) (hd : A.depth < recursionLimit) (args : Args) : Ref prog w G (nextT args) (PySem.Builtin.«generator.__next__» args) := by
  unfold nextT PySem.Builtin.«generator.__next__» genWake
  refine .bindR fun x => ?_
  simp only
  refine .bindR fun n => .bindR fun b => ?_
  cases b with
  | running => exact .bad
  | finished => exact .bad
  | _ =>
    refine .bind (lim_wake hG hd) fun _ => .bindR fun r => ?_
    cases r with
    | yielded v => exact .refl _
    | returned v => cases v <;> first | exact .bad | exact .bindR fun e => raiseNew_ref e _
    | _ => exact .bad

noncomputable def a_file : Str := ⟨#[47, 99, 108, 97, 105, 109, 47, 99, 117, 116, 46, 112, 121]⟩
noncomputable def superT (env : Env) (q : Pos) : Sem Value := match env.func with
  | none => .unsupported "super"
  | some f => .load f none fun o => match o.data with
    | .func fd => match (fd.params.posonlyargs ++ fd.params.args).head? with
      | none => .unsupported "super"
      | some ar => do
        let fl ← (match env.code with | .none => pure .none | c => field c 2)
        match fl with
        | .str file _ => match file == a_file with
          | false => .unsupported "super"
          | true => do
            standAt q
            let g ← loadName env "super"
            let cls ← loadName env "__class__"
            let self ← loadName env ar.arg
            let aType ← isType cls
            match g == .type "super" && aType with
            | true => call g [cls, self]
            | false => .unsupported "super"
        | _ => .unsupported "super"
    | _ => .unsupported "super"
theorem noComps {A : Around} (hG : G.In A) {body : List Stmt} {env : Env} (hc : G.code = .func body env) {Q : List Env → Pos → Shared → Prop} {E : Value → Pos → Shared → Prop} {p : Pos} {s : Shared} (h : Q [] p s) : Sem.wp (model prog w) G comprehensionsAround Q E p s := by
  unfold comprehensionsAround callersCodes
  rw [Sem.wp_bind', Sem.wp_bind']
  show Sem.wp (model prog w) G (if _ then _ else _) _ _ p s
  have e : pastTheWaiting ((.func body env, p) :: G.below) = (.func body env, p) :: pastTheWaiting.go false (some (.func body env)) G.below := rfl
  rw [hc, e]
  split
  · rename_i hc
    exact absurd (show (some env.frame != some env.frame) = true from hc) (by simp)
  · exact h
end
end Sol
namespace Sol
open PySem PySem.Spec PySem.Calls PyProof.Rows PySem.W PySem.W.X
section
variable {prog : Program} {w : World} {G : PySem.Ctx} {α β : Type}
noncomputable def supAsks (env : Env) (id attr : Str) : Bool := id == ("super" : Str) && (env.kindOf ("super" : Str) == some .globalImplicit && (env.kindOf ("__class__" : Str) == some .free && attr != ("__class__" : Str)))
noncomputable def ProgOk (prog : Program) : Prop := prog.main.file = a_file ∧ (prog.main.scope.names.lookup ("super" : Str)).isSome = false
theorem superT_ref (hP : ProgOk prog) {A : Around} (hG : G.In A) {body : List Stmt} {env : Env} (hc : G.code = .func body env) {id attr : Str} (ha : supAsks env id attr = true) (p0 p1 : Pos) (whole : Sem Value) :
    Ref prog w G (superT env p1) (attributeBase (.Call (.Name id p0) [] [] p1) attr env whole) := by
  unfold supAsks at ha
  simp only [Bool.and_eq_true, beq_iff_eq, bne_iff_ne, ne_eq] at ha
  obtain ⟨rfl, hks, hkc, hat⟩ := ha
  have hat' : (attr == ("__class__" : Str)) = false := by rw [beq_eq_false_iff_ne]; exact hat
  intro Q E p s h
  unfold superT at h
  cases hfu : env.func with
  | none => rw [hfu] at h; exact False.elim h
  | some f =>
    rw [hfu] at h
    obtain ⟨o, ho, h⟩ := h
    unfold attributeBase
    simp only [bne_self_eq_false, hat', hks, hkc, hfu, Bool.or_false, Bool.or_self, Bool.false_eq_true, if_false, Option.isSome_some, if_true, pure_bind]
    unfold funcData
    rw [Sem.wp_bind', Sem.wp_bind']
    refine ⟨o, ho, ?_⟩
    obtain ⟨dd, hx⟩ : ∃ d, o.data = d := ⟨_, rfl⟩
    cases dd with
    | func fd =>
      dsimp only at h
      rw [hx] at h
      dsimp only at h
      show Sem.wp (model prog w) G (match o.data with | Data.func f => pure f | x => unsupported "internal:not-a-function") _ E p s
      rw [hx]
      rw [Sem.wp_pure']
      cases har : (fd.params.posonlyargs ++ fd.params.args).head? with
      | none => rw [har] at h; exact False.elim h
      | some ar =>
        rw [har] at h
        dsimp only at h ⊢
        rw [Sem.wp_bind', Sem.wp_cmd_ask]
        cases hcd : env.code <;> simp only [hcd, pure_bind] at h ⊢ <;> first
          | exact False.elim h
          | (rw [Sem.wp_bind'] at h ⊢
             refine Sem.wp_mono _ _ _ (fun fl p s h => ?_) (fun _ _ _ y => y) p s h
             cases fl with
             | str file tk =>
               simp only at h ⊢
               cases hf : file == a_file with
               | false => rw [hf] at h; exact False.elim h
               | true =>
                 rw [hf] at h
                 simp only at h
                 have hf2 : ((model prog w).prog.main.file == file) = true := by
                   show (prog.main.file == file) = true
                   rw [hP.1, beq_iff_eq]
                   exact (eq_of_beq hf).symm
                 have ht : ((model prog w).prog.main.scope.names.lookup ("super" : Str)).isSome = false := hP.2
                 simp only [hf2, ht, if_true, Bool.false_eq_true, if_false]
                 rw [Sem.wp_bind', Sem.wp_cmd_rule, Sem.wp_bind', Sem.wp_cmd_standAt]
                 rw [Sem.wp_bind', Sem.wp_cmd_standAt] at h
                 rw [Sem.wp_bind'] at h ⊢
                 refine Sem.wp_mono _ _ _ (fun g p s h => ?_) (fun _ _ _ y => y) _ s h
                 rw [Sem.wp_bind'] at h ⊢
                 refine Sem.wp_mono _ _ _ (fun cls p s h => ?_) (fun _ _ _ y => y) p s h
                 rw [Sem.wp_bind']
                 refine noComps hG hc ?_
                 show Sem.wp _ G (loadName env ar.arg >>= _) Q E p s
                 rw [Sem.wp_bind'] at h ⊢
                 refine Sem.wp_mono _ _ _ (fun self p s h => ?_) (fun _ _ _ y => y) p s h
                 rw [Sem.wp_bind'] at h ⊢
                 refine Sem.wp_mono _ _ _ (fun ty p s h => ?_) (fun _ _ _ y => y) p s h
                 split at h
                 · rename_i hg
                   rw [if_pos hg]; exact h
                 · exact False.elim h
             | _ => exact False.elim h)
    | _ => dsimp only at h; rw [hx] at h; exact False.elim h
end
end Sol
namespace Sol
open PySem PySem.Spec PySem.Calls PyProof.Rows PySem.W PySem.W.X
section
variable {prog : Program} {w : World} {G : PySem.Ctx} {α β : Type}
noncomputable def genT (elt : PySem.Expr) (gens : List Comprehension) (scope : Scope) (pos : Pos) (env : Env) : Sem Value := match scope.isCoroutine with
  | true => .unsupported "gen"
  | false => match firstAsync gens with
    | true => .unsupported "gen"
    | false => do
      let x ← firstIter gens env
      standAt (firstIterPos gens pos)
      let x ← genexprIterable false gens env x
      let it ← holding [x] (pyIter x)
      limCheck
      let cl ← closureFor scope env
      let cd ← genexprCode env pos (env.qual ++ "<genexpr>") scope
      let bi ← builtinsFor env.globals env.builtins
      let cenv ← newFunctionEnv scope env.globals cl [(".0", it)] (env.qual ++ "<genexpr>.") none cd none bi
      newGenerator (.compStart (.GeneratorExp elt gens scope pos) 0 it .none cenv) "<genexpr>" (env.qual ++ "<genexpr>")
theorem genT_ref {A : Around} (hG : G.In A) (hd : A.depth < recursionLimit) (elt : PySem.Expr) (gens : List Comprehension) (scope : Scope) (pos : Pos) (env : Env) : Ref prog w G (genT elt gens scope pos env) (eval (.GeneratorExp elt gens scope pos) env) := by
  unfold genT
  split
  · exact .bad
  · rename_i hc
    split
    · exact .bad
    · rename_i ha
      show Ref prog w G _ (do
        let x ← firstIter gens env
        standAt (firstIterPos gens pos)
        let x ← genexprIterable (firstAsync gens) gens env x
        let it ← holding [x] (if firstAsync gens then asyncIter x else pyIter x)
        enterFrame
        let cl ← closureFor scope env
        let cd ← genexprCode env pos (env.qual ++ "<genexpr>") scope
        let bi ← builtinsFor env.globals env.builtins
        let cenv ← newFunctionEnv scope env.globals cl [(".0", it)] (env.qual ++ "<genexpr>.") none cd none bi
        (if scope.isCoroutine then newAsyncGenerator else newGenerator) (.compStart (.GeneratorExp elt gens scope pos) 0 it .none cenv) "<genexpr>" (env.qual ++ "<genexpr>"))
      rw [ha, hc]
      simp only [Bool.false_eq_true, if_false]
      exact .bindR fun x => .bindR fun _ => .bindR fun x => .bindR fun it => .bind (lim_enter hG hd) fun _ => .refl _

theorem Ref.spliced {x' x : Sem Value} (h : Ref prog w G x' x) (rest : List (Bool × Sem Value)) : Ref prog w G (spliced ((false, x') :: rest)) (spliced ((false, x) :: rest)) := by
  unfold PySem.spliced
  exact .bind h fun _ => .refl _
theorem Ref.evalArgs {x' x : Sem Value} (h : Ref prog w G x' x) (f : Value) (rest : List (Bool × Sem Value)) (kws : List (Option Str × Sem Value)) : Ref prog w G (evalArgs f true ((false, x') :: rest) kws) (evalArgs f true ((false, x) :: rest) kws) := by
  unfold PySem.evalArgs
  cases rest with
  | nil => simp only; exact .bind (Ref.spliced h []) fun _ => .refl _
  | cons y rest => simp only; exact .bind (Ref.spliced h (y :: rest)) fun _ => .refl _
theorem Ref.callWith {x' x : Sem Value} (h : Ref prog w G x' x) (pos : Pos) (f : Value) (first : List Value) (rest : List (Bool × Sem Value)) (kws : List (Option Str × Sem Value)) :
    Ref prog w G (callWith pos f first ((false, x') :: rest) kws) (callWith pos f first ((false, x) :: rest) kws) := by
  unfold PySem.callWith
  exact .bind (.holding (Ref.evalArgs h f rest kws)) fun _ => .refl _
theorem Ref.methodCall {x' x : Sem Value} (h : Ref prog w G x' x) (o : PySem.Expr) (name : Str) (apos pos : Pos) (env : Env) (ov : Value) (n : Nat) (rest : List (Bool × Sem Value)) (kws : List (Option Str × Sem Value)) :
    Ref prog w G (methodCall o name apos pos env ov n ((false, x') :: rest) kws) (methodCall o name apos pos env ov n ((false, x) :: rest) kws) := by
  unfold PySem.methodCall
  have e : methodCallForm n ((false, x') :: rest) kws = methodCallForm n ((false, x) :: rest) kws := rfl
  rw [e]
  exact .bindR fun fx => .bindR fun cp => Ref.callWith h _ _ _ _ _

noncomputable def altAttr (o : PySem.Expr) (name : Str) (apos : Pos) (args : List PySem.Expr) (kws : List Keyword) (pos : Pos) (env : Env) : Option (Sem Value) := match o with
  | .Call g gas gks p1 => match g with
    | .Name id p0 => match gas with
      | [] => match gks with
        | [] => match supAsks env id name with
          | true => some do
            let ov ← superT env p1
            standAt apos.atName
            methodCall (.Call (.Name id p0) [] [] p1) name apos pos env ov (args.length + kws.length) (backTo pos (starEach args env)) (backToKw pos (keywordEach kws env))
          | false => none
        | _ :: _ => none
      | _ :: _ => none
    | _ => none
  | .Name id p0 => match args with
    | [] => none
    | a :: as => match a with
      | .GeneratorExp elt gens scope gpos => match as with
        | [] => some do
          let ov ← attributeBase (.Name id p0) name env (eval (.Name id p0) env)
          standAt apos.atName
          methodCall (.Name id p0) name apos pos env ov (1 + kws.length) [(false, genT elt gens scope gpos env)] (backToKw pos (keywordEach kws env))
        | _ :: _ => none
      | _ => none
  | _ => none
noncomputable def altName (id : Str) (p0 : Pos) (args : List PySem.Expr) (kws : List Keyword) (pos : Pos) (env : Env) : Option (Sem Value) := match args with
  | [] => none
  | a :: as => match a with
    | .GeneratorExp elt gens scope gpos => match as with
      | [] => none
      | b :: bs => match b with
        | .Attribute o2 n2 p2 => match bs with
          | [] => some do
            let f ← eval (.Name id p0) env
            callWith pos f [] [(false, genT elt gens scope gpos env), (false, eval (.Attribute o2 n2 p2) env)] (backToKw pos (keywordEach kws env))
          | _ :: _ => none
        | _ => none
    | _ => none
noncomputable def altEval (e : PySem.Expr) (env : Env) : Option (Sem Value) := match e with
  | .Call f args kws pos => match f with
    | .Attribute o name apos => altAttr o name apos args kws pos env
    | .Name id p0 => altName id p0 args kws pos env
    | _ => none
  | _ => none
theorem altEval_ref (hP : ProgOk prog) {A : Around} (hG : G.In A) (hd : A.depth < recursionLimit) {body : List Stmt} {env : Env} (hc : G.code = .func body env) {e : PySem.Expr} {t : Sem Value} (h : altEval e env = some t) : Ref prog w G t (eval e env) := by
  unfold altEval at h
  split at h
  · split at h
    · unfold altAttr at h
      split at h
      · split at h
        · split at h
          · split at h
            · split at h
              · rename_i ha
                cases h
                exact .bind (superT_ref hP hG hc ha _ _ _) fun _ => .refl _
              · cases h
            · cases h
          · cases h
        · cases h
      · split at h
        · cases h
        · split at h
          · split at h
            · cases h
              exact .bindR fun ov => .bindR fun _ => Ref.methodCall (genT_ref hG hd _ _ _ _ _) _ _ _ _ _ _ _ _ _
            · cases h
          · cases h
      · cases h
    · unfold altName at h
      split at h
      · cases h
      · split at h
        · split at h
          · cases h
          · split at h
            · split at h
              · cases h
                exact .bindR fun f => Ref.callWith (genT_ref hG hd _ _ _ _ _) _ _ _ _ _
              · cases h
            · cases h
        · cases h
    · cases h
  · cases h
noncomputable def altExec (s : Stmt) (env : Env) : Sem Flow := match s with
  | .Return (some e) pos => match altEval e env with
    | some t => do
      standAt pos
      return .ret (← t)
    | none => execs [s] env
  | .Expr e pos => match altEval e env with
    | some t => do
      standAt pos
      match interactive env with
      | true => .unsupported "expr"
      | false => do
        match ← swapsWith e none pos.line env with
        | true => .unsupported "expr"
        | false => do dropValue e pos (← t)
    | none => execs [s] env
  | _ => execs [s] env
theorem execs1_ref (s : Stmt) (env : Env) : Ref prog w G (execs [s] env) (exec s env) := by
  intro Q E p s' h
  replace h : Sem.wp (model prog w) G (do
    match ← exec s env with
    | .next => pure .next
    | f => pure f) Q E p s' := h
  rw [Sem.wp_bind'] at h
  refine Sem.wp_mono _ _ _ (fun f p s h => ?_) (fun _ _ _ y => y) p s' h
  cases f <;> exact h
theorem altExec_ref (hP : ProgOk prog) {A : Around} (hG : G.In A) (hd : A.depth < recursionLimit) {body : List Stmt} {env : Env} (hc : G.code = .func body env) (s : Stmt) : Ref prog w G (altExec s env) (exec s env) := by
  unfold altExec
  split
  · split
    · rename_i t h
      exact .bindR fun _ => .bind (altEval_ref hP hG hd hc h) fun _ => .refl _
    · exact execs1_ref _ _
  · rename_i e pos
    split
    · rename_i t h
      show Ref prog w G _ (do
        standAt pos
        if interactive env then printExpr (eval e env)
        else if ← swapsWith e none pos.line env then do evalThenUse e env fun _ => point; pure .next
        else do dropValue e pos (← eval e env))
      refine .bindR fun _ => ?_
      split
      · exact .bad
      · rename_i hi
        rw [hi]
        simp only [Bool.false_eq_true, if_false]
        refine .bindR fun b => ?_
        cases b with
        | true => exact .bad
        | false => exact .bind (altEval_ref hP hG hd hc h) fun _ => .refl _
    · exact execs1_ref _ _
  · exact execs1_ref _ _
end
end Sol
namespace Sol
open PySem PySem.Spec PySem.Calls PyProof.Rows PySem.W PySem.W.X
noncomputable def a_locals : Str := ⟨#[46, 60, 108, 111, 99, 97, 108, 115, 62, 46]⟩
theorem a_locals_eq : Str.ofString ".<locals>." = a_locals := by kernel_rfl
noncomputable def a_class : Str := ⟨#[95, 95, 99, 108, 97, 115, 115, 95, 95]⟩
theorem a_class_eq : Str.ofString "__class__" = a_class := by kernel_rfl
noncomputable def a_super : Str := ⟨#[115, 117, 112, 101, 114]⟩
theorem a_super_eq : Str.ofString "super" = a_super := by kernel_rfl
noncomputable def a_genexpr : Str := ⟨#[60, 103, 101, 110, 101, 120, 112, 114, 62, 46]⟩
theorem a_genexpr_eq : Str.ofString "<genexpr>." = a_genexpr := by kernel_rfl
noncomputable def a_genexpr2 : Str := ⟨#[60, 103, 101, 110, 101, 120, 112, 114, 62]⟩
theorem a_genexpr2_eq : Str.ofString "<genexpr>" = a_genexpr2 := by kernel_rfl
noncomputable def a_ : Str := ⟨#[46, 48]⟩
theorem a__eq : Str.ofString ".0" = a_ := by kernel_rfl
noncomputable def a_sysrecursionlimit : Str := ⟨#[115, 121, 115, 46, 114, 101, 99, 117, 114, 115, 105, 111, 110, 108, 105, 109, 105, 116]⟩
theorem a_sysrecursionlimit_eq : Str.ofString "sys.recursionlimit" = a_sysrecursionlimit := by kernel_rfl
noncomputable def limCheckZ : Sem Unit := do
  match ← PySem.W.ZFast.zw13143150168775219229 cStatics a_sysrecursionlimit with
  | none => pure ()
  | some _ => .unsupported "limit"
noncomputable def defTZ (self : Addr) (fd : FuncData) (args : Args) : Sem PySem.Fin := match fd.body with
  | .expr _ => .unsupported "def"
  | .stmts b => match fd.scope.isGenerator with
    | true => .unsupported "def"
    | false => match fd.scope.isCoroutine with
      | true => .unsupported "def"
      | false => do
        let q ← match fd.code with
          | .none => pure fd.qualname
          | c => do match ← PySem.W.ZFast.zw6609576154772507232 c 1 with
            | .str q _ => pure q
            | _ => pure fd.qualname
        let binds ← PySem.W.ZFast.zw9782568553167038054 fd args
        let env ← PySem.W.ZFast.zw11113344188204177931 fd.scope fd.globals fd.closure binds (q ++ a_locals) (some self) fd.code none fd.builtins
        limCheckZ
        PySem.W.ZFast.zw12377390311714414960 (.func b env)
noncomputable def callTZ (den : Code → Sem PySem.Fin) (a : Addr) (args : Args) : Sem PySem.Fin := .load a none fun o => match o.data with
  | .func fd => defTZ a fd args
  | _ => den (.call (.ref a) args)
noncomputable def nextTZ (args : Args) : Sem PySem.Fin := do
  let (g, _) ← PySem.W.ZFast.zw7913626950604309744 "__next__" 0 args
  let n ← PySem.W.ZFast.zw17359229931016689406 [.none] (PySem.W.ZFast.zw12255447999362386569 g)
  let before ← genState n
  match before with
  | GenStatus.fresh => do
    limCheckZ
    turn n
  | .suspended => do
    limCheckZ
    turn n
  | .running => .unsupported "next"
  | .finished => .unsupported "next"
where turn (n : Nat) : Sem PySem.Fin := do
  match ← resume n (.send .none) with
  | .yielded v => PySem.W.ZFast.zw6905046200447255374 v
  | .returned v => match v with
    | .none => PySem.W.ZFast.zw17609497360097468838 (← PySem.W.ZFast.zw11364817496384490316 (.type "StopIteration") [])
    | _ => .unsupported "next"
  | .raised _ => .unsupported "next"
  | .running => .unsupported "next"
  | .finished => .unsupported "next"
  | .justStarted => .unsupported "next"
noncomputable def superTZ (env : Env) (q : Pos) : Sem Value := match env.func with
  | none => .unsupported "super"
  | some f => .load f none fun o => match o.data with
    | .func fd => match (fd.params.posonlyargs ++ fd.params.args).head? with
      | none => .unsupported "super"
      | some ar => do
        let fl ← (match env.code with | .none => pure .none | c => PySem.W.ZFast.zw6609576154772507232 c 2)
        match fl with
        | .str file _ => match (PySem.W.Fast.sDec file a_file).decide with
          | false => .unsupported "super"
          | true => do
            standAt q
            let g ← PySem.W.ZFast.zw8468629109055619292 env a_super
            let cls ← PySem.W.ZFast.zw8468629109055619292 env a_class
            let self ← PySem.W.ZFast.zw8468629109055619292 env ar.arg
            let aType ← PySem.W.ZFast.zw10380811246957099773 cls
            match (PySem.W.ZFast.zw7966671052430208091 g (.type "super")).decide && aType with
            | true => PySem.W.ZFast.zw11478286150595567475 g [cls, self]
            | false => .unsupported "super"
        | _ => .unsupported "super"
    | _ => .unsupported "super"
noncomputable def supAsksZ (env : Env) (id attr : Str) : Bool := (PySem.W.Fast.sDec id a_super).decide && (PySem.W.ZFast.zw4777696345729990297 env a_super == some .globalImplicit && (PySem.W.ZFast.zw4777696345729990297 env a_class == some .free && !(PySem.W.Fast.sDec attr a_class).decide))
noncomputable def genTZ (elt : PySem.Expr) (gens : List Comprehension) (scope : Scope) (pos : Pos) (env : Env) : Sem Value := match scope.isCoroutine with
  | true => .unsupported "gen"
  | false => match PySem.W.ZFast.zw13045342395687058021 gens with
    | true => .unsupported "gen"
    | false => do
      let x ← PySem.W.ZFast.zw18100340678103251363 gens env
      standAt (firstIterPos gens pos)
      let x ← PySem.W.ZFast.zw11392484809677674534 false gens env x
      let it ← PySem.W.ZFast.zw17359229931016689406 [x] (PySem.W.ZFast.zw8711993805878244202 x)
      limCheckZ
      let cl ← PySem.W.ZFast.zw14069538253670106520 scope env
      let cd ← PySem.W.ZFast.zw9492743126541576920 env pos (env.qual ++ a_genexpr2) scope
      let bi ← PySem.W.ZFast.zw6600643334278800223 env.globals env.builtins
      let cenv ← PySem.W.ZFast.zw11113344188204177931 scope env.globals cl [(a_, it)] (env.qual ++ a_genexpr) none cd none bi
      PySem.W.ZFast.zw2426001476595277715 (.compStart (.GeneratorExp elt gens scope pos) 0 it .none cenv) a_genexpr2 (env.qual ++ a_genexpr2)
noncomputable def altAttrZ (o : PySem.Expr) (name : Str) (apos : Pos) (args : List PySem.Expr) (kws : List Keyword) (pos : Pos) (env : Env) : Option (Sem Value) := match o with
  | .Call g gas gks p1 => match g with
    | .Name id p0 => match gas with
      | [] => match gks with
        | [] => match supAsksZ env id name with
          | true => some do
            let ov ← superTZ env p1
            standAt apos.atName
            PySem.W.ZFast.zw13401596951702201221 (.Call (.Name id p0) [] [] p1) name apos pos env ov (args.length + kws.length) (PySem.W.ZFast.zw4897270859577272712 pos (PySem.W.ZFast.zw13897175071876407860 args env)) (PySem.W.ZFast.zw621762911399731506 pos (PySem.W.ZFast.zw11621922129505618389 kws env))
          | false => none
        | _ :: _ => none
      | _ :: _ => none
    | _ => none
  | .Name id p0 => match args with
    | [] => none
    | a :: as => match a with
      | .GeneratorExp elt gens scope gpos => match as with
        | [] => some do
          let ov ← PySem.W.ZFast.zw15487144857313948548 (.Name id p0) name env (PySem.W.ZFast.zw14044960220447912780 (.Name id p0) env)
          standAt apos.atName
          PySem.W.ZFast.zw13401596951702201221 (.Name id p0) name apos pos env ov (1 + kws.length) [(false, genTZ elt gens scope gpos env)] (PySem.W.ZFast.zw621762911399731506 pos (PySem.W.ZFast.zw11621922129505618389 kws env))
        | _ :: _ => none
      | _ => none
  | _ => none
noncomputable def altNameZ (id : Str) (p0 : Pos) (args : List PySem.Expr) (kws : List Keyword) (pos : Pos) (env : Env) : Option (Sem Value) := match args with
  | [] => none
  | a :: as => match a with
    | .GeneratorExp elt gens scope gpos => match as with
      | [] => none
      | b :: bs => match b with
        | .Attribute o2 n2 p2 => match bs with
          | [] => some do
            let f ← PySem.W.ZFast.zw14044960220447912780 (.Name id p0) env
            PySem.W.ZFast.zw8289420714989923916 pos f [] [(false, genTZ elt gens scope gpos env), (false, PySem.W.ZFast.zw14044960220447912780 (.Attribute o2 n2 p2) env)] (PySem.W.ZFast.zw621762911399731506 pos (PySem.W.ZFast.zw11621922129505618389 kws env))
          | _ :: _ => none
        | _ => none
    | _ => none
noncomputable def altEvalZ (e : PySem.Expr) (env : Env) : Option (Sem Value) := match e with
  | .Call f args kws pos => match f with
    | .Attribute o name apos => altAttrZ o name apos args kws pos env
    | .Name id p0 => altNameZ id p0 args kws pos env
    | _ => none
  | _ => none
noncomputable def altExecZ (s : Stmt) (env : Env) : Sem Flow := match s with
  | .Return (some e) pos => match altEvalZ e env with
    | some t => do
      standAt pos
      return .ret (← t)
    | none => PySem.W.ZFast.zw12563942051412417395 [s] env
  | .Expr e pos => match altEvalZ e env with
    | some t => do
      standAt pos
      match PySem.W.ZFast.zw15112477048112897374 env with
      | true => .unsupported "expr"
      | false => do
        match ← PySem.W.ZFast.zw17223243974762974889 e none pos.line env with
        | true => .unsupported "expr"
        | false => do PySem.W.ZFast.zw12372662630863984472 e pos (← t)
    | none => PySem.W.ZFast.zw12563942051412417395 [s] env
  | _ => PySem.W.ZFast.zw12563942051412417395 [s] env
theorem limCheckZ_eq : limCheckZ = limCheck := by
  unfold limCheckZ limCheck
  simp only [PySem.W.ZFast.ze10380811246957099773, PySem.W.ZFast.ze11113344188204177931, PySem.W.ZFast.ze11364817496384490316, PySem.W.ZFast.ze11392484809677674534, PySem.W.ZFast.ze11478286150595567475, PySem.W.ZFast.ze11621922129505618389, PySem.W.ZFast.ze12255447999362386569, PySem.W.ZFast.ze12372662630863984472, PySem.W.ZFast.ze12377390311714414960, PySem.W.ZFast.ze12563942051412417395, PySem.W.ZFast.ze13045342395687058021, PySem.W.ZFast.ze13143150168775219229, PySem.W.ZFast.ze13401596951702201221, PySem.W.ZFast.ze13897175071876407860, PySem.W.ZFast.ze14044960220447912780, PySem.W.ZFast.ze14069538253670106520, PySem.W.ZFast.ze15112477048112897374, PySem.W.ZFast.ze15487144857313948548, PySem.W.ZFast.ze17223243974762974889, PySem.W.ZFast.ze17359229931016689406, PySem.W.ZFast.ze17609497360097468838, PySem.W.ZFast.ze18100340678103251363, PySem.W.ZFast.ze2426001476595277715, PySem.W.ZFast.ze4777696345729990297, PySem.W.ZFast.ze4897270859577272712, PySem.W.ZFast.ze621762911399731506, PySem.W.ZFast.ze6600643334278800223, PySem.W.ZFast.ze6609576154772507232, PySem.W.ZFast.ze6905046200447255374, PySem.W.ZFast.ze7913626950604309744, PySem.W.ZFast.ze7966671052430208091, PySem.W.ZFast.ze8289420714989923916, PySem.W.ZFast.ze8468629109055619292, PySem.W.ZFast.ze8711993805878244202, PySem.W.ZFast.ze9442747609961115081, PySem.W.ZFast.ze9492743126541576920, PySem.W.ZFast.ze9782568553167038054, a_locals_eq, a_class_eq, a_super_eq, a_genexpr_eq, a_genexpr2_eq, a__eq, a_sysrecursionlimit_eq]
  try rfl
theorem defTZ_eq : defTZ = defT := by
  funext a fd args
  unfold defTZ defT
  simp only [PySem.W.ZFast.ze10380811246957099773, PySem.W.ZFast.ze11113344188204177931, PySem.W.ZFast.ze11364817496384490316, PySem.W.ZFast.ze11392484809677674534, PySem.W.ZFast.ze11478286150595567475, PySem.W.ZFast.ze11621922129505618389, PySem.W.ZFast.ze12255447999362386569, PySem.W.ZFast.ze12372662630863984472, PySem.W.ZFast.ze12377390311714414960, PySem.W.ZFast.ze12563942051412417395, PySem.W.ZFast.ze13045342395687058021, PySem.W.ZFast.ze13143150168775219229, PySem.W.ZFast.ze13401596951702201221, PySem.W.ZFast.ze13897175071876407860, PySem.W.ZFast.ze14044960220447912780, PySem.W.ZFast.ze14069538253670106520, PySem.W.ZFast.ze15112477048112897374, PySem.W.ZFast.ze15487144857313948548, PySem.W.ZFast.ze17223243974762974889, PySem.W.ZFast.ze17359229931016689406, PySem.W.ZFast.ze17609497360097468838, PySem.W.ZFast.ze18100340678103251363, PySem.W.ZFast.ze2426001476595277715, PySem.W.ZFast.ze4777696345729990297, PySem.W.ZFast.ze4897270859577272712, PySem.W.ZFast.ze621762911399731506, PySem.W.ZFast.ze6600643334278800223, PySem.W.ZFast.ze6609576154772507232, PySem.W.ZFast.ze6905046200447255374, PySem.W.ZFast.ze7913626950604309744, PySem.W.ZFast.ze7966671052430208091, PySem.W.ZFast.ze8289420714989923916, PySem.W.ZFast.ze8468629109055619292, PySem.W.ZFast.ze8711993805878244202, PySem.W.ZFast.ze9442747609961115081, PySem.W.ZFast.ze9492743126541576920, PySem.W.ZFast.ze9782568553167038054, a_locals_eq, a_class_eq, a_super_eq, a_genexpr_eq, a_genexpr2_eq, a__eq, a_sysrecursionlimit_eq, limCheckZ_eq]
  try rfl
theorem callTZ_eq : callTZ = callT := by
  funext d a args
  unfold callTZ callT
  simp only [defTZ_eq]
  try rfl
theorem turnZ_eq : nextTZ.turn = nextT.turn := by
  funext n
  unfold nextTZ.turn nextT.turn
  simp only [PySem.W.ZFast.ze10380811246957099773, PySem.W.ZFast.ze11113344188204177931, PySem.W.ZFast.ze11364817496384490316, PySem.W.ZFast.ze11392484809677674534, PySem.W.ZFast.ze11478286150595567475, PySem.W.ZFast.ze11621922129505618389, PySem.W.ZFast.ze12255447999362386569, PySem.W.ZFast.ze12372662630863984472, PySem.W.ZFast.ze12377390311714414960, PySem.W.ZFast.ze12563942051412417395, PySem.W.ZFast.ze13045342395687058021, PySem.W.ZFast.ze13143150168775219229, PySem.W.ZFast.ze13401596951702201221, PySem.W.ZFast.ze13897175071876407860, PySem.W.ZFast.ze14044960220447912780, PySem.W.ZFast.ze14069538253670106520, PySem.W.ZFast.ze15112477048112897374, PySem.W.ZFast.ze15487144857313948548, PySem.W.ZFast.ze17223243974762974889, PySem.W.ZFast.ze17359229931016689406, PySem.W.ZFast.ze17609497360097468838, PySem.W.ZFast.ze18100340678103251363, PySem.W.ZFast.ze2426001476595277715, PySem.W.ZFast.ze4777696345729990297, PySem.W.ZFast.ze4897270859577272712, PySem.W.ZFast.ze621762911399731506, PySem.W.ZFast.ze6600643334278800223, PySem.W.ZFast.ze6609576154772507232, PySem.W.ZFast.ze6905046200447255374, PySem.W.ZFast.ze7913626950604309744, PySem.W.ZFast.ze7966671052430208091, PySem.W.ZFast.ze8289420714989923916, PySem.W.ZFast.ze8468629109055619292, PySem.W.ZFast.ze8711993805878244202, PySem.W.ZFast.ze9442747609961115081, PySem.W.ZFast.ze9492743126541576920, PySem.W.ZFast.ze9782568553167038054, a_locals_eq, a_class_eq, a_super_eq, a_genexpr_eq, a_genexpr2_eq, a__eq, a_sysrecursionlimit_eq]
  try rfl
theorem nextTZ_eq : nextTZ = nextT := by
  funext args
  unfold nextTZ nextT
  simp only [PySem.W.ZFast.ze10380811246957099773, PySem.W.ZFast.ze11113344188204177931, PySem.W.ZFast.ze11364817496384490316, PySem.W.ZFast.ze11392484809677674534, PySem.W.ZFast.ze11478286150595567475, PySem.W.ZFast.ze11621922129505618389, PySem.W.ZFast.ze12255447999362386569, PySem.W.ZFast.ze12372662630863984472, PySem.W.ZFast.ze12377390311714414960, PySem.W.ZFast.ze12563942051412417395, PySem.W.ZFast.ze13045342395687058021, PySem.W.ZFast.ze13143150168775219229, PySem.W.ZFast.ze13401596951702201221, PySem.W.ZFast.ze13897175071876407860, PySem.W.ZFast.ze14044960220447912780, PySem.W.ZFast.ze14069538253670106520, PySem.W.ZFast.ze15112477048112897374, PySem.W.ZFast.ze15487144857313948548, PySem.W.ZFast.ze17223243974762974889, PySem.W.ZFast.ze17359229931016689406, PySem.W.ZFast.ze17609497360097468838, PySem.W.ZFast.ze18100340678103251363, PySem.W.ZFast.ze2426001476595277715, PySem.W.ZFast.ze4777696345729990297, PySem.W.ZFast.ze4897270859577272712, PySem.W.ZFast.ze621762911399731506, PySem.W.ZFast.ze6600643334278800223, PySem.W.ZFast.ze6609576154772507232, PySem.W.ZFast.ze6905046200447255374, PySem.W.ZFast.ze7913626950604309744, PySem.W.ZFast.ze7966671052430208091, PySem.W.ZFast.ze8289420714989923916, PySem.W.ZFast.ze8468629109055619292, PySem.W.ZFast.ze8711993805878244202, PySem.W.ZFast.ze9442747609961115081, PySem.W.ZFast.ze9492743126541576920, PySem.W.ZFast.ze9782568553167038054, a_locals_eq, a_class_eq, a_super_eq, a_genexpr_eq, a_genexpr2_eq, a__eq, a_sysrecursionlimit_eq, limCheckZ_eq, turnZ_eq]
  try rfl
theorem sDec_dec (a b : Str) : (PySem.W.Fast.sDec a b).decide = (a == b) := by
  rw [← PySem.W.Fast.sDec_eq]; rfl
theorem vDec_dec (a b : Value) : (PySem.W.ZFast.zw7966671052430208091 a b).decide = (a == b) := by
  rw [← PySem.W.ZFast.ze7966671052430208091]; rfl
theorem superTZ_eq : superTZ = superT := by
  funext env q
  unfold superTZ superT
  simp only [sDec_dec, vDec_dec, PySem.W.ZFast.ze10380811246957099773, PySem.W.ZFast.ze11113344188204177931, PySem.W.ZFast.ze11364817496384490316, PySem.W.ZFast.ze11392484809677674534, PySem.W.ZFast.ze11478286150595567475, PySem.W.ZFast.ze11621922129505618389, PySem.W.ZFast.ze12255447999362386569, PySem.W.ZFast.ze12372662630863984472, PySem.W.ZFast.ze12377390311714414960, PySem.W.ZFast.ze12563942051412417395, PySem.W.ZFast.ze13045342395687058021, PySem.W.ZFast.ze13143150168775219229, PySem.W.ZFast.ze13401596951702201221, PySem.W.ZFast.ze13897175071876407860, PySem.W.ZFast.ze14044960220447912780, PySem.W.ZFast.ze14069538253670106520, PySem.W.ZFast.ze15112477048112897374, PySem.W.ZFast.ze15487144857313948548, PySem.W.ZFast.ze17223243974762974889, PySem.W.ZFast.ze17359229931016689406, PySem.W.ZFast.ze17609497360097468838, PySem.W.ZFast.ze18100340678103251363, PySem.W.ZFast.ze2426001476595277715, PySem.W.ZFast.ze4777696345729990297, PySem.W.ZFast.ze4897270859577272712, PySem.W.ZFast.ze621762911399731506, PySem.W.ZFast.ze6600643334278800223, PySem.W.ZFast.ze6609576154772507232, PySem.W.ZFast.ze6905046200447255374, PySem.W.ZFast.ze7913626950604309744, PySem.W.ZFast.ze7966671052430208091, PySem.W.ZFast.ze8289420714989923916, PySem.W.ZFast.ze8468629109055619292, PySem.W.ZFast.ze8711993805878244202, PySem.W.ZFast.ze9442747609961115081, PySem.W.ZFast.ze9492743126541576920, PySem.W.ZFast.ze9782568553167038054, a_locals_eq, a_class_eq, a_super_eq, a_genexpr_eq, a_genexpr2_eq, a__eq, a_sysrecursionlimit_eq]
  try rfl
theorem supAsksZ_eq : supAsksZ = supAsks := by
  funext env id attr
  unfold supAsksZ supAsks
  simp only [sDec_dec, vDec_dec, PySem.W.ZFast.ze10380811246957099773, PySem.W.ZFast.ze11113344188204177931, PySem.W.ZFast.ze11364817496384490316, PySem.W.ZFast.ze11392484809677674534, PySem.W.ZFast.ze11478286150595567475, PySem.W.ZFast.ze11621922129505618389, PySem.W.ZFast.ze12255447999362386569, PySem.W.ZFast.ze12372662630863984472, PySem.W.ZFast.ze12377390311714414960, PySem.W.ZFast.ze12563942051412417395, PySem.W.ZFast.ze13045342395687058021, PySem.W.ZFast.ze13143150168775219229, PySem.W.ZFast.ze13401596951702201221, PySem.W.ZFast.ze13897175071876407860, PySem.W.ZFast.ze14044960220447912780, PySem.W.ZFast.ze14069538253670106520, PySem.W.ZFast.ze15112477048112897374, PySem.W.ZFast.ze15487144857313948548, PySem.W.ZFast.ze17223243974762974889, PySem.W.ZFast.ze17359229931016689406, PySem.W.ZFast.ze17609497360097468838, PySem.W.ZFast.ze18100340678103251363, PySem.W.ZFast.ze2426001476595277715, PySem.W.ZFast.ze4777696345729990297, PySem.W.ZFast.ze4897270859577272712, PySem.W.ZFast.ze621762911399731506, PySem.W.ZFast.ze6600643334278800223, PySem.W.ZFast.ze6609576154772507232, PySem.W.ZFast.ze6905046200447255374, PySem.W.ZFast.ze7913626950604309744, PySem.W.ZFast.ze7966671052430208091, PySem.W.ZFast.ze8289420714989923916, PySem.W.ZFast.ze8468629109055619292, PySem.W.ZFast.ze8711993805878244202, PySem.W.ZFast.ze9442747609961115081, PySem.W.ZFast.ze9492743126541576920, PySem.W.ZFast.ze9782568553167038054, a_locals_eq, a_class_eq, a_super_eq, a_genexpr_eq, a_genexpr2_eq, a__eq, a_sysrecursionlimit_eq]
  try rfl
theorem genTZ_eq : genTZ = genT := by
  funext elt gens scope pos env
  unfold genTZ genT
  simp only [PySem.W.ZFast.ze10380811246957099773, PySem.W.ZFast.ze11113344188204177931, PySem.W.ZFast.ze11364817496384490316, PySem.W.ZFast.ze11392484809677674534, PySem.W.ZFast.ze11478286150595567475, PySem.W.ZFast.ze11621922129505618389, PySem.W.ZFast.ze12255447999362386569, PySem.W.ZFast.ze12372662630863984472, PySem.W.ZFast.ze12377390311714414960, PySem.W.ZFast.ze12563942051412417395, PySem.W.ZFast.ze13045342395687058021, PySem.W.ZFast.ze13143150168775219229, PySem.W.ZFast.ze13401596951702201221, PySem.W.ZFast.ze13897175071876407860, PySem.W.ZFast.ze14044960220447912780, PySem.W.ZFast.ze14069538253670106520, PySem.W.ZFast.ze15112477048112897374, PySem.W.ZFast.ze15487144857313948548, PySem.W.ZFast.ze17223243974762974889, PySem.W.ZFast.ze17359229931016689406, PySem.W.ZFast.ze17609497360097468838, PySem.W.ZFast.ze18100340678103251363, PySem.W.ZFast.ze2426001476595277715, PySem.W.ZFast.ze4777696345729990297, PySem.W.ZFast.ze4897270859577272712, PySem.W.ZFast.ze621762911399731506, PySem.W.ZFast.ze6600643334278800223, PySem.W.ZFast.ze6609576154772507232, PySem.W.ZFast.ze6905046200447255374, PySem.W.ZFast.ze7913626950604309744, PySem.W.ZFast.ze7966671052430208091, PySem.W.ZFast.ze8289420714989923916, PySem.W.ZFast.ze8468629109055619292, PySem.W.ZFast.ze8711993805878244202, PySem.W.ZFast.ze9442747609961115081, PySem.W.ZFast.ze9492743126541576920, PySem.W.ZFast.ze9782568553167038054, a_locals_eq, a_class_eq, a_super_eq, a_genexpr_eq, a_genexpr2_eq, a__eq, a_sysrecursionlimit_eq, limCheckZ_eq]
  try rfl
theorem altAttrZ_eq : altAttrZ = altAttr := by
  funext o name apos args kws pos env
  unfold altAttrZ altAttr
  simp only [PySem.W.ZFast.ze10380811246957099773, PySem.W.ZFast.ze11113344188204177931, PySem.W.ZFast.ze11364817496384490316, PySem.W.ZFast.ze11392484809677674534, PySem.W.ZFast.ze11478286150595567475, PySem.W.ZFast.ze11621922129505618389, PySem.W.ZFast.ze12255447999362386569, PySem.W.ZFast.ze12372662630863984472, PySem.W.ZFast.ze12377390311714414960, PySem.W.ZFast.ze12563942051412417395, PySem.W.ZFast.ze13045342395687058021, PySem.W.ZFast.ze13143150168775219229, PySem.W.ZFast.ze13401596951702201221, PySem.W.ZFast.ze13897175071876407860, PySem.W.ZFast.ze14044960220447912780, PySem.W.ZFast.ze14069538253670106520, PySem.W.ZFast.ze15112477048112897374, PySem.W.ZFast.ze15487144857313948548, PySem.W.ZFast.ze17223243974762974889, PySem.W.ZFast.ze17359229931016689406, PySem.W.ZFast.ze17609497360097468838, PySem.W.ZFast.ze18100340678103251363, PySem.W.ZFast.ze2426001476595277715, PySem.W.ZFast.ze4777696345729990297, PySem.W.ZFast.ze4897270859577272712, PySem.W.ZFast.ze621762911399731506, PySem.W.ZFast.ze6600643334278800223, PySem.W.ZFast.ze6609576154772507232, PySem.W.ZFast.ze6905046200447255374, PySem.W.ZFast.ze7913626950604309744, PySem.W.ZFast.ze7966671052430208091, PySem.W.ZFast.ze8289420714989923916, PySem.W.ZFast.ze8468629109055619292, PySem.W.ZFast.ze8711993805878244202, PySem.W.ZFast.ze9442747609961115081, PySem.W.ZFast.ze9492743126541576920, PySem.W.ZFast.ze9782568553167038054, a_locals_eq, a_class_eq, a_super_eq, a_genexpr_eq, a_genexpr2_eq, a__eq, a_sysrecursionlimit_eq, supAsksZ_eq, superTZ_eq, genTZ_eq]
  try rfl
theorem altNameZ_eq : altNameZ = altName := by
  funext id p0 args kws pos env
  unfold altNameZ altName
  simp only [PySem.W.ZFast.ze10380811246957099773, PySem.W.ZFast.ze11113344188204177931, PySem.W.ZFast.ze11364817496384490316, PySem.W.ZFast.ze11392484809677674534, PySem.W.ZFast.ze11478286150595567475, PySem.W.ZFast.ze11621922129505618389, PySem.W.ZFast.ze12255447999362386569, PySem.W.ZFast.ze12372662630863984472, PySem.W.ZFast.ze12377390311714414960, PySem.W.ZFast.ze12563942051412417395, PySem.W.ZFast.ze13045342395687058021, PySem.W.ZFast.ze13143150168775219229, PySem.W.ZFast.ze13401596951702201221, PySem.W.ZFast.ze13897175071876407860, PySem.W.ZFast.ze14044960220447912780, PySem.W.ZFast.ze14069538253670106520, PySem.W.ZFast.ze15112477048112897374, PySem.W.ZFast.ze15487144857313948548, PySem.W.ZFast.ze17223243974762974889, PySem.W.ZFast.ze17359229931016689406, PySem.W.ZFast.ze17609497360097468838, PySem.W.ZFast.ze18100340678103251363, PySem.W.ZFast.ze2426001476595277715, PySem.W.ZFast.ze4777696345729990297, PySem.W.ZFast.ze4897270859577272712, PySem.W.ZFast.ze621762911399731506, PySem.W.ZFast.ze6600643334278800223, PySem.W.ZFast.ze6609576154772507232, PySem.W.ZFast.ze6905046200447255374, PySem.W.ZFast.ze7913626950604309744, PySem.W.ZFast.ze7966671052430208091, PySem.W.ZFast.ze8289420714989923916, PySem.W.ZFast.ze8468629109055619292, PySem.W.ZFast.ze8711993805878244202, PySem.W.ZFast.ze9442747609961115081, PySem.W.ZFast.ze9492743126541576920, PySem.W.ZFast.ze9782568553167038054, a_locals_eq, a_class_eq, a_super_eq, a_genexpr_eq, a_genexpr2_eq, a__eq, a_sysrecursionlimit_eq, supAsksZ_eq, superTZ_eq, genTZ_eq]
  try rfl
theorem altEvalZ_eq : altEvalZ = altEval := by
  funext e env
  unfold altEvalZ altEval
  simp only [altAttrZ_eq, altNameZ_eq]
  try rfl
theorem altExecZ_eq : altExecZ = altExec := by
  funext e env
  unfold altExecZ altExec
  simp only [PySem.W.ZFast.ze10380811246957099773, PySem.W.ZFast.ze11113344188204177931, PySem.W.ZFast.ze11364817496384490316, PySem.W.ZFast.ze11392484809677674534, PySem.W.ZFast.ze11478286150595567475, PySem.W.ZFast.ze11621922129505618389, PySem.W.ZFast.ze12255447999362386569, PySem.W.ZFast.ze12372662630863984472, PySem.W.ZFast.ze12377390311714414960, PySem.W.ZFast.ze12563942051412417395, PySem.W.ZFast.ze13045342395687058021, PySem.W.ZFast.ze13143150168775219229, PySem.W.ZFast.ze13401596951702201221, PySem.W.ZFast.ze13897175071876407860, PySem.W.ZFast.ze14044960220447912780, PySem.W.ZFast.ze14069538253670106520, PySem.W.ZFast.ze15112477048112897374, PySem.W.ZFast.ze15487144857313948548, PySem.W.ZFast.ze17223243974762974889, PySem.W.ZFast.ze17359229931016689406, PySem.W.ZFast.ze17609497360097468838, PySem.W.ZFast.ze18100340678103251363, PySem.W.ZFast.ze2426001476595277715, PySem.W.ZFast.ze4777696345729990297, PySem.W.ZFast.ze4897270859577272712, PySem.W.ZFast.ze621762911399731506, PySem.W.ZFast.ze6600643334278800223, PySem.W.ZFast.ze6609576154772507232, PySem.W.ZFast.ze6905046200447255374, PySem.W.ZFast.ze7913626950604309744, PySem.W.ZFast.ze7966671052430208091, PySem.W.ZFast.ze8289420714989923916, PySem.W.ZFast.ze8468629109055619292, PySem.W.ZFast.ze8711993805878244202, PySem.W.ZFast.ze9442747609961115081, PySem.W.ZFast.ze9492743126541576920, PySem.W.ZFast.ze9782568553167038054, a_locals_eq, a_class_eq, a_super_eq, a_genexpr_eq, a_genexpr2_eq, a__eq, a_sysrecursionlimit_eq, altEvalZ_eq]
  try rfl
end Sol
namespace Sol
open PySem PySem.Spec PySem.Calls PyProof.Rows PySem.W PySem.W.X
section
variable {prog : Program} {w : World} {G : PySem.Ctx} {α β : Type}
open PySem.Builtin.List in
noncomputable def iaddT (den : Code → Sem PySem.Fin) (args : Args) : Sem PySem.Fin := match args with
  | ⟨[.ref l, .ref x], []⟩ => .load l none fun o1 => .load x none fun o2 => match o1.cls == .type "list" && o2.cls == .type "generator" with
    | false => den (.builtin "list.__iadd__" args)
    | true => do
      let iter ← pyIter (.ref x)
      let room ← holding [iter] (listLengthHint (.ref x))
      match room with
      | false => .unsupported "iadd"
      | true => do
        rule "list.extend.makes-room"
        listTouch (.ref l)
        again (.builtin "list.extend.loop" ⟨[.ref l, iter, .ref l], []⟩)
  | _ => den (.builtin "list.__iadd__" args)
theorem iadd_entry : entryFor table "list.__iadd__" = some PySem.Builtin.«list.__iadd__» := entryFor_of_tree (by kernel_rfl)
theorem den_one (id : String) (args : Args) (b : Builtin) (h : entryFor table id = some b) : denote table (.builtin id args) = b args := by
  show (match entryFor table id with | some b => b args | none => unsupported ((withoutEnding? id "#data").getD id)) = _
  rw [h]
theorem iaddT_ref (args : Args) : Ref prog w G (iaddT (denote table) args) (denote table (.builtin "list.__iadd__" args)) := by
  unfold iaddT
  split
  · rename_i l x
    intro Q E p s h
    obtain ⟨o1, h1, o2, h2, h⟩ := h
    dsimp only at h
    cases hc : (o1.cls == .type "list" && o2.cls == .type "generator") with
    | false => rw [hc] at h; exact h
    | true =>
      rw [hc] at h
      simp only [Bool.and_eq_true, beq_iff_eq] at hc
      have hne : l ≠ x := by
        rintro rfl
        rw [h1] at h2
        cases h2
        rw [hc.1] at hc
        exact absurd hc.2 (by decide)
      rw [den_one _ _ _ iadd_entry]
      show Sem.wp (model prog w) G (PySem.Builtin.List.listExtendWith (.ref l) (.ref x) (.ref l)) Q E p s
      unfold PySem.Builtin.List.listExtendWith
      rw [Sem.wp_bind']
      refine ⟨o2, h2, ?_⟩
      show Sem.wp (model prog w) G (if (PySem.Builtin.List.listSameRef (.ref l) (.ref x) || o2.cls == .type "list" || o2.cls == .type "tuple") = true then _ else _) Q E p s
      have hs : PySem.Builtin.List.listSameRef (.ref l) (.ref x) = false := by
        show (l == x) = false
        rw [beq_eq_false_iff_ne]; exact hne
      rw [hs, hc.2, if_neg (by decide)]
      rw [Sem.wp_bind'] at h ⊢
      refine Sem.wp_mono _ _ _ (fun it p s h => ?_) (fun _ _ _ y => y) p s h
      rw [Sem.wp_bind'] at h ⊢
      refine Sem.wp_mono _ _ _ (fun room p s h => ?_) (fun _ _ _ y => y) p s h
      cases room with
      | false => exact False.elim h
      | true =>
        simp only [Bool.true_or, if_true]
        exact h
  · exact .refl _
open PySem.Builtin.List in
noncomputable def iaddTZ (den : Code → Sem PySem.Fin) (args : Args) : Sem PySem.Fin := match args with
  | ⟨[.ref l, .ref x], []⟩ => .load l none fun o1 => .load x none fun o2 => match (PySem.W.ZFast.zw7966671052430208091 o1.cls (.type "list")).decide && (PySem.W.ZFast.zw7966671052430208091 o2.cls (.type "generator")).decide with
    | false => den (.builtin "list.__iadd__" args)
    | true => do
      let iter ← PySem.W.ZFast.zw8711993805878244202 (.ref x)
      let room ← PySem.W.ZFast.zw17359229931016689406 [iter] (PySem.W.ZFast.zw15112759502256325868 (.ref x))
      match room with
      | false => .unsupported "iadd"
      | true => do
        rule "list.extend.makes-room"
        PySem.W.ZFast.zw922294955767894045 (.ref l)
        PySem.W.ZFast.zw12377390311714414960 (.builtin "list.extend.loop" ⟨[.ref l, iter, .ref l], []⟩)
  | _ => den (.builtin "list.__iadd__" args)
theorem iaddTZ_eq : iaddTZ = iaddT := by
  funext d args
  unfold iaddTZ iaddT
  simp only [vDec_dec, PySem.W.ZFast.ze8711993805878244202, PySem.W.ZFast.ze17359229931016689406, PySem.W.ZFast.ze15112759502256325868, PySem.W.ZFast.ze922294955767894045, PySem.W.ZFast.ze12377390311714414960]
end
end Sol
namespace Sol
open PySem PySem.Spec PySem.Calls PyProof.Rows PySem.W PySem.W.X
section
variable {prog : Program} {w : World} {G : PySem.Ctx}
noncomputable def smallI (a : Int) : Bool := Nat.blt a.natAbs 1000000
theorem small_bits {a : Int} (h : smallI a = true) : PySem.Builtin.Int.intBits a ≤ 64 := by
  have l : a.natAbs < 1000000 := Nat.le_of_ble_eq_true h
  rw [bitsQ_eq]
  exact bits_le (by omega) (by omega)
noncomputable def mulT (args : Args) : Sem PySem.Fin := match args with
  | ⟨[.int a t, .int b u], []⟩ => match smallI a with
    | true => .fresh fun k => .pure (.done (.ret (.int (a * b) k)))
    | false => .unsupported "mul"
  | _ => .unsupported "mul"
theorem mul_entry : entryFor table "int.__mul__" = some PySem.Builtin.«int.__mul__» := entryFor_of_tree (by kernel_rfl)
theorem mulT_ref (args : Args) : Ref prog w G (mulT args) (denote table (.builtin "int.__mul__" args)) := by
  unfold mulT
  split
  · rename_i a t b u
    split
    · rename_i h
      have hm : IntMulOk a b := .of_left (small_bits h)
      rw [den_one _ _ _ mul_entry]
      have e : PySem.Builtin.«int.__mul__» ⟨[.int a t, .int b u], []⟩ = .fresh fun k => .pure (.done (.ret (.int (a * b) k))) := by
        show (ite _ _ _ : Sem PySem.Fin) = _
        rw [if_neg hm]; rfl
      rw [e]
      exact Ref.refl _
    · exact Ref.bad
  · exact Ref.bad
theorem rshift_entry : entryFor table "int.__rshift__" = some PySem.Builtin.«int.__rshift__» := entryFor_of_tree (by kernel_rfl)
theorem fdiv_entry : entryFor table "int.__floordiv__" = some PySem.Builtin.«int.__floordiv__» := entryFor_of_tree (by kernel_rfl)
theorem mod_entry : entryFor table "int.__mod__" = some PySem.Builtin.«int.__mod__» := entryFor_of_tree (by kernel_rfl)
noncomputable def origOf (id : String) : Option Builtin := match PySem.W.S.eqLit 1954753560319954401256180983099242 id with
  | true => some PySem.Builtin.«int.__rshift__»
  | false => match PySem.W.S.eqLit 128106770130096871752080967664072486762 id with
    | true => some PySem.Builtin.«int.__floordiv__»
    | false => match PySem.W.S.eqLit 116512097088030077292474218 id with
      | true => some PySem.Builtin.«int.__mod__»
      | false => none
theorem lit_id {lit : String} {n : Nat} (e : PySem.code lit = n) {id : String} (h : PySem.W.S.eqLit n id = true) : id = lit := by
  have z := congrFun (PySem.W.S.eqLit_eq lit _ e) id
  rw [← z] at h
  exact eq_of_beq h
theorem origOf_entry {id : String} {b : Builtin} (h : origOf id = some b) : entryFor table id = some b := by
  unfold origOf at h
  split at h
  · rename_i e
    cases h
    rw [lit_id (lit := "int.__rshift__") (by kernel_rfl) e]; exact rshift_entry
  · split at h
    · rename_i e
      cases h
      rw [lit_id (lit := "int.__floordiv__") (by kernel_rfl) e]; exact fdiv_entry
    · split at h
      · rename_i e
        cases h
        rw [lit_id (lit := "int.__mod__") (by kernel_rfl) e]; exact mod_entry
      · cases h
end
end Sol
namespace Sol
open PySem PySem.Spec PySem.Calls PyProof.Rows PySem.W PySem.W.X
section
variable {prog : Program} {w : World} {G : PySem.Ctx} {α β : Type}
noncomputable def cmpT1 (f : Str) (a b : Value) : Sem Value := holding [a, b] do
  let ta ← typeOf a
  let tb ← typeOf b
  match ta == tb with
  | false => .unsupported "cmp"
  | true => do
    match ← tryCompare a f b with
    | some v => return v
    | none => .unsupported "cmp"
noncomputable def cmpT (op : CmpOp) (a b : Value) : Sem Value := match a with
  | .ref x => match b with
    | .ref y => match op with
      | .Eq => cmpT1 "__eq__" (.ref x) (.ref y)
      | .NotEq => cmpT1 "__ne__" (.ref x) (.ref y)
      | op => compareOp op (.ref x) (.ref y)
    | b => compareOp op (.ref x) b
  | a => compareOp op a b
theorem cmpT1_ref {A : Around} (hG : G.In A) (hu : A.units < cLine) (op : CmpOp) (x y : Addr) (h : op = .Eq ∨ op = .NotEq) : Ref prog w G (cmpT1 (cmpInfo op).2.1 (.ref x) (.ref y)) (richCompare op (.ref x) (.ref y)) := by
  unfold cmpT1 richCompare
  refine .holding fun Q E p s h' => ?_
  rw [Sem.wp_bind']
  refine Sem.wp_cRoomFor _ _ (Nat.lt_of_le_of_lt hG.2.2.2.2 hu) ?_
  have e : oneThing? op (.ref x) (.ref y) = none := rfl
  simp only [e]
  rw [Sem.wp_bind'] at h' ⊢
  refine Sem.wp_mono _ _ _ (fun ta p s h => ?_) (fun _ _ _ y => y) p s h'
  rw [Sem.wp_bind'] at h ⊢
  refine Sem.wp_mono _ _ _ (fun tb p s h => ?_) (fun _ _ _ y => y) p s h
  cases ht : ta == tb with
  | false => rw [ht] at h; exact False.elim h
  | true =>
    rw [ht] at h
    have hne : (ta != tb) = false := by show (!(ta == tb)) = false; rw [ht]; rfl
    simp only [hne, Bool.false_eq_true, if_false, pure_bind]
    replace h : Sem.wp (model prog w) G ((tryCompare (.ref x) (cmpInfo op).2.1 (.ref y)) >>= fun o => match o with
      | some v => pure v
      | none => .unsupported "cmp") Q E p s := h
    rw [Sem.wp_bind'] at h ⊢
    refine Sem.wp_mono _ _ _ (fun o p s h => ?_) (fun _ _ _ y => y) p s h
    cases o with
    | none => exact False.elim h
    | some v => exact h
theorem cmpT_ref {A : Around} (hG : G.In A) (hu : A.units < cLine) (op : CmpOp) (a b : Value) : Ref prog w G (cmpT op a b) (compareOp op a b) := by
  unfold cmpT
  split
  · split
    · split
      · exact cmpT1_ref hG hu .Eq _ _ (.inl rfl)
      · exact cmpT1_ref hG hu .NotEq _ _ (.inr rfl)
      · exact .refl _
    · exact .refl _
  · exact .refl _
noncomputable def testT (pos : Pos) (left : Value) (ops : List CmpOp) (rs : List (Sem Value)) : Sem Bool := match ops with
  | [op] => match rs with
    | [r] => do
      let rv ← holding [left] r
      standAt pos
      let c ← operate [left, rv] (cmpT op left rv)
      holding [c] (truthy c)
    | rs => testChain pos left [op] rs
  | ops => testChain pos left ops rs
noncomputable def chainT (pos : Pos) (left : Value) (ops : List CmpOp) (rs : List (Sem Value)) : Sem Value := match ops with
  | [op] => match rs with
    | [r] => do
      let rv ← holding [left] r
      standAt pos
      operate [left, rv] (cmpT op left rv)
    | rs => compareChain pos left [op] rs
  | ops => compareChain pos left ops rs
theorem Ref.operate {vs : List Value} {m' m : Sem Value} (h : Ref prog w G m' m) : Ref prog w G (operate vs m') (operate vs m) := by
  unfold PySem.operate
  exact .bind (.holding h) fun _ => .refl _
theorem testT_ref {A : Around} (hG : G.In A) (hu : A.units < cLine) (pos : Pos) (left : Value) (ops : List CmpOp) (rs : List (Sem Value)) : Ref prog w G (testT pos left ops rs) (testChain pos left ops rs) := by
  unfold testT
  split
  · split
    · exact .bindR fun rv => .bindR fun _ => .bind (Ref.operate (cmpT_ref hG hu _ _ _)) fun _ => .refl _
    · exact .refl _
  · exact .refl _
theorem chainT_ref {A : Around} (hG : G.In A) (hu : A.units < cLine) (pos : Pos) (left : Value) (ops : List CmpOp) (rs : List (Sem Value)) : Ref prog w G (chainT pos left ops rs) (compareChain pos left ops rs) := by
  unfold chainT
  split
  · split
    · exact .bindR fun rv => .bindR fun _ => Ref.operate (cmpT_ref hG hu _ _ _)
    · exact .refl _
  · exact .refl _
noncomputable def isTrueT (e : PySem.Expr) (env : Env) : Sem Bool := match e with
  | .Compare left ops comparators pos => do testT pos (← eval left env) ops (markedEach ops comparators (evalEach comparators env))
  | e => isTrue e env (eval e env)
theorem isTrueT_ref {A : Around} (hG : G.In A) (hu : A.units < cLine) (e : PySem.Expr) (env : Env) : Ref prog w G (isTrueT e env) (isTrue e env (eval e env)) := by
  unfold isTrueT
  split
  · exact .bindR fun l => testT_ref hG hu _ _ _ _
  · exact .refl _
noncomputable def evalC (left : PySem.Expr) (ops : List CmpOp) (comparators : List PySem.Expr) (cpos : Pos) (env : Env) : Sem Value := do
  chainT cpos (← eval left env) ops (markedEach ops comparators (evalEach comparators env))
noncomputable def evalIf (test body orelse : PySem.Expr) (env : Env) : Sem Value := do
  match ← isTrueT test env with
  | true => eval body env
  | false => eval orelse env
noncomputable def exec2 (dflt : Stmt → Env → Sem Flow) (s : Stmt) (env : Env) : Sem Flow := match s with
  | .If test body orelse pos => do
    standAt pos
    match ← isTrueT test env with
    | true => execs body env
    | false => execs orelse env
  | .Return v pos => match v with
    | some e => match e with
      | .Compare left ops comparators cpos => do
        standAt pos
        return .ret (← evalC left ops comparators cpos env)
      | e => dflt (.Return (some e) pos) env
    | none => dflt (.Return none pos) env
  | .For target it fbody forelse pos => match it with
    | .IfExp test body orelse ipos => do
      standAt pos
      let x ← foldedSetIterable (.IfExp test body orelse ipos) env (← evalIf test body orelse env)
      standAt ipos
      runOwn (.forLoop target (← holding [x] (pyIter x)) fbody forelse env) env
    | it => dflt (.For target it fbody forelse pos) env
  | s => dflt s env
theorem Ref.ite {b : Bool} {x y x' y' : Sem α} (hx : Ref prog w G x' x) (hy : Ref prog w G y' y) : Ref prog w G (match b with | true => x' | false => y') (if b = true then x else y) := by
  cases b
  · exact hy
  · exact hx
theorem evalC_ref {A : Around} (hG : G.In A) (hu : A.units < cLine) (left : PySem.Expr) (ops : List CmpOp) (comparators : List PySem.Expr) (cpos : Pos) (env : Env) : Ref prog w G (evalC left ops comparators cpos env) (eval (.Compare left ops comparators cpos) env) :=
  .bindR fun l => chainT_ref hG hu _ _ _ _
theorem evalIf_ref {A : Around} (hG : G.In A) (hu : A.units < cLine) (test body orelse : PySem.Expr) (pos : Pos) (env : Env) : Ref prog w G (evalIf test body orelse env) (eval (.IfExp test body orelse pos) env) :=
  .bind (isTrueT_ref hG hu _ _) fun b => .ite (.refl _) (.refl _)
theorem exec2_ref {A : Around} (hG : G.In A) (hu : A.units < cLine) {env : Env} {dflt : Stmt → Env → Sem Flow} (hdf : ∀ s, Ref prog w G (dflt s env) (exec s env)) (s : Stmt) : Ref prog w G (exec2 dflt s env) (exec s env) := by
  unfold exec2
  split
  · refine .bindR fun _ => .bind (isTrueT_ref hG hu _ _) fun b => ?_
    exact .ite (.refl _) (.refl _)
  · split
    · split
      · exact .bindR fun _ => .bind (evalC_ref hG hu _ _ _ _ _) fun v => .refl _
      · exact hdf _
    · exact hdf _
  · split
    · exact .bindR fun _ => .bind (evalIf_ref hG hu _ _ _ _ _) fun x => .refl _
    · exact hdf _
  · exact hdf _
noncomputable def execs2 (dflt : Stmt → Env → Sem Flow) : List Stmt → Env → Sem Flow
  | [], _ => pure .next
  | s :: rest, env => do
    match ← exec2 dflt s env with
    | .next => execs2 dflt rest env
    | f => pure f
theorem execs2_ref {A : Around} (hG : G.In A) (hu : A.units < cLine) {env : Env} {dflt : Stmt → Env → Sem Flow} (hdf : ∀ s, Ref prog w G (dflt s env) (exec s env)) : ∀ ss : List Stmt, Ref prog w G (execs2 dflt ss env) (execs ss env)
  | [] => .refl _
  | s :: rest => by
    show Ref prog w G (execs2 dflt (s :: rest) env) (do
      match ← exec s env with
      | .next => execs rest env
      | f => pure f)
    unfold execs2
    refine .bind (exec2_ref hG hu hdf s) fun f => ?_
    cases f with
    | next => exact execs2_ref hG hu hdf rest
    | _ => exact .refl _
noncomputable def func2T (body : List Stmt) (env : Env) : Sem PySem.Fin := do
  point
  match ← (execs2 altExec body env).onRaise (leaving env) with
  | .ret v => ret v
  | _ => ret .none
theorem func2T_ref (hP : ProgOk prog) {A : Around} (hG : G.In A) (hd : A.depth < recursionLimit) (hu : A.units < cLine) {body : List Stmt} {env : Env} (hc : G.code = .func body env) : Ref prog w G (func2T body env) (denote table (.func body env)) := by
  show Ref prog w G _ (do
    point
    match ← (execs body env).onRaise (leaving env) with
    | .ret v => ret v
    | _ => ret .none)
  exact .bindR fun _ => .bind (.onRaise (execs2_ref hG hu (altExec_ref hP hG hd hc) body)) fun _ => .refl _
noncomputable def plainExec (s : Stmt) (env : Env) : Sem Flow := execs [s] env
noncomputable def whileW (test : PySem.Expr) (body orelse : List Stmt) (env : Env) : Sem PySem.Fin := do
  match ← isTrueT test env with
  | true => do
    match ← execs2 plainExec body env with
    | .next => again (.whileLoop test body orelse env)
    | .cont => again (.whileLoop test body orelse env)
    | .brk => pure (.done .next)
    | .ret v => pure (.done (.ret v))
  | false => return .done (← execs orelse env)
noncomputable def whileT (test : PySem.Expr) (body orelse : List Stmt) (env : Env) : Sem PySem.Fin := (whileW test body orelse env).onRaise (fun x => do noteFrame x env; theTreesLotGoes x)
theorem whileT_ref {A : Around} (hG : G.In A) (hu : A.units < cLine) (test : PySem.Expr) (body orelse : List Stmt) (env : Env) : Ref prog w G (whileT test body orelse env) (denote table (.whileLoop test body orelse env)) := by
  show Ref prog w G _ ((whileTurn test body orelse env).onRaise (fun x => do noteFrame x env; theTreesLotGoes x))
  refine .onRaise ?_
  unfold whileW whileTurn
  refine .bind (isTrueT_ref hG hu _ _) fun b => ?_
  cases b with
  | false => exact .refl _
  | true =>
    simp only [if_true]
    exact .bind (execs2_ref hG hu (fun s => execs1_ref s env) body) fun f => by cases f <;> exact .refl _
noncomputable def forW (target : PySem.Expr) (it : Value) (body orelse : List Stmt) (env : Env) : Sem PySem.Fin := do
  standAt target.pos
  match ← (pyNext it).onRaise (fun _ => standAt { target.pos with line := 0 }) with
  | none => again (.block orelse env)
  | some v => do
    letOwnedTupleGo target it v
    assign target env v
    match ← execs2 plainExec body env with
    | .next => again (.forLoop target it body orelse env)
    | .cont => again (.forLoop target it body orelse env)
    | .brk => pure (.done .next)
    | .ret v => pure (.done (.ret v))
noncomputable def forT (target : PySem.Expr) (it : Value) (body orelse : List Stmt) (env : Env) : Sem PySem.Fin := (forW target it body orelse env).onRaise (fun x => do noteFrame x env; theTreesLotGoes x)
theorem forT_ref {A : Around} (hG : G.In A) (hu : A.units < cLine) (target : PySem.Expr) (it : Value) (body orelse : List Stmt) (env : Env) : Ref prog w G (forT target it body orelse env) (denote table (.forLoop target it body orelse env)) := by
  show Ref prog w G _ ((forTurn target it body orelse env).onRaise (fun x => do noteFrame x env; theTreesLotGoes x))
  refine .onRaise ?_
  unfold forW forTurn
  refine .bindR fun _ => .bindR fun o => ?_
  cases o with
  | none => exact .refl _
  | some v =>
    simp only
    exact .bindR fun _ => .bindR fun _ => .bind (execs2_ref hG hu (fun s => execs1_ref s env) body) fun f => by cases f <;> exact .refl _
end
end Sol
namespace Sol
open PySem PySem.Spec PySem.Calls PyProof.Rows PySem.W PySem.W.X
noncomputable def a_eq : Str := ⟨#[95, 95, 101, 113, 95, 95]⟩
theorem a_eq_eq : Str.ofString "__eq__" = a_eq := by kernel_rfl
noncomputable def a_ne : Str := ⟨#[95, 95, 110, 101, 95, 95]⟩
theorem a_ne_eq : Str.ofString "__ne__" = a_ne := by kernel_rfl
noncomputable def cmpT1Z (f : Str) (a b : Value) : Sem Value := PySem.W.ZFast.zw17359229931016689406 [a, b] do
  let ta ← PySem.W.ZFast.zw14684505520029207082 a
  let tb ← PySem.W.ZFast.zw14684505520029207082 b
  match (PySem.W.ZFast.zw7966671052430208091 ta tb).decide with
  | false => .unsupported "cmp"
  | true => do
    match ← PySem.W.ZFast.zw3989567798202555795 a f b with
    | some v => return v
    | none => .unsupported "cmp"
noncomputable def cmpTZ (op : CmpOp) (a b : Value) : Sem Value := match a with
  | .ref x => match b with
    | .ref y => match op with
      | .Eq => cmpT1Z a_eq (.ref x) (.ref y)
      | .NotEq => cmpT1Z a_ne (.ref x) (.ref y)
      | op => PySem.W.ZFast.zw12886488535604756494 op (.ref x) (.ref y)
    | b => PySem.W.ZFast.zw12886488535604756494 op (.ref x) b
  | a => PySem.W.ZFast.zw12886488535604756494 op a b
noncomputable def testTZ (pos : Pos) (left : Value) (ops : List CmpOp) (rs : List (Sem Value)) : Sem Bool := match ops with
  | [op] => match rs with
    | [r] => do
      let rv ← PySem.W.ZFast.zw17359229931016689406 [left] r
      standAt pos
      let c ← PySem.W.ZFast.zw8004119333741010377 [left, rv] (cmpTZ op left rv)
      PySem.W.ZFast.zw17359229931016689406 [c] (PySem.W.ZFast.zw15245631507167962100 c)
    | rs => PySem.W.ZFast.zw16724134140897424297 pos left [op] rs
  | ops => PySem.W.ZFast.zw16724134140897424297 pos left ops rs
noncomputable def chainTZ (pos : Pos) (left : Value) (ops : List CmpOp) (rs : List (Sem Value)) : Sem Value := match ops with
  | [op] => match rs with
    | [r] => do
      let rv ← PySem.W.ZFast.zw17359229931016689406 [left] r
      standAt pos
      PySem.W.ZFast.zw8004119333741010377 [left, rv] (cmpTZ op left rv)
    | rs => PySem.W.ZFast.zw18038740251295299496 pos left [op] rs
  | ops => PySem.W.ZFast.zw18038740251295299496 pos left ops rs
noncomputable def isTrueTZ (e : PySem.Expr) (env : Env) : Sem Bool := match e with
  | .Compare left ops comparators pos => do testTZ pos (← PySem.W.ZFast.zw14044960220447912780 left env) ops (PySem.W.ZFast.zw2344580865713695371 ops comparators (PySem.W.ZFast.zw10458482166411082596 comparators env))
  | e => PySem.W.ZFast.zw15418851999007992765 e env (PySem.W.ZFast.zw14044960220447912780 e env)
noncomputable def evalCZ (left : PySem.Expr) (ops : List CmpOp) (comparators : List PySem.Expr) (cpos : Pos) (env : Env) : Sem Value := do
  chainTZ cpos (← PySem.W.ZFast.zw14044960220447912780 left env) ops (PySem.W.ZFast.zw2344580865713695371 ops comparators (PySem.W.ZFast.zw10458482166411082596 comparators env))
noncomputable def evalIfZ (test body orelse : PySem.Expr) (env : Env) : Sem Value := do
  match ← isTrueTZ test env with
  | true => PySem.W.ZFast.zw14044960220447912780 body env
  | false => PySem.W.ZFast.zw14044960220447912780 orelse env
noncomputable def exec2Z (dflt : Stmt → Env → Sem Flow) (s : Stmt) (env : Env) : Sem Flow := match s with
  | .If test body orelse pos => do
    standAt pos
    match ← isTrueTZ test env with
    | true => PySem.W.ZFast.zw12563942051412417395 body env
    | false => PySem.W.ZFast.zw12563942051412417395 orelse env
  | .Return v pos => match v with
    | some e => match e with
      | .Compare left ops comparators cpos => do
        standAt pos
        return .ret (← evalCZ left ops comparators cpos env)
      | e => dflt (.Return (some e) pos) env
    | none => dflt (.Return none pos) env
  | .For target it fbody forelse pos => match it with
    | .IfExp test body orelse ipos => do
      standAt pos
      let x ← PySem.W.ZFast.zw7768414822394308030 (.IfExp test body orelse ipos) env (← evalIfZ test body orelse env)
      standAt ipos
      PySem.W.ZFast.zw9046067596548197636 (.forLoop target (← PySem.W.ZFast.zw17359229931016689406 [x] (PySem.W.ZFast.zw8711993805878244202 x)) fbody forelse env) env
    | it => dflt (.For target it fbody forelse pos) env
  | s => dflt s env
noncomputable def execs2Z (dflt : Stmt → Env → Sem Flow) : List Stmt → Env → Sem Flow
  | [], _ => pure .next
  | s :: rest, env => do
    match ← exec2Z dflt s env with
    | .next => execs2Z dflt rest env
    | f => pure f
noncomputable def func2TZ (body : List Stmt) (env : Env) : Sem PySem.Fin := do
  point
  match ← PySem.W.R.onRaiseR (execs2Z altExecZ body env) (PySem.W.ZFast.zw9442747609961115081 env) with
  | .ret v => PySem.W.ZFast.zw6905046200447255374 v
  | _ => PySem.W.ZFast.zw6905046200447255374 .none
noncomputable def plainExecZ (s : Stmt) (env : Env) : Sem Flow := PySem.W.ZFast.zw12563942051412417395 [s] env
noncomputable def whileWZ (test : PySem.Expr) (body orelse : List Stmt) (env : Env) : Sem PySem.Fin := do
  match ← isTrueTZ test env with
  | true => do
    match ← execs2Z plainExecZ body env with
    | .next => PySem.W.ZFast.zw12377390311714414960 (.whileLoop test body orelse env)
    | .cont => PySem.W.ZFast.zw12377390311714414960 (.whileLoop test body orelse env)
    | .brk => pure (.done .next)
    | .ret v => pure (.done (.ret v))
  | false => return .done (← PySem.W.ZFast.zw12563942051412417395 orelse env)
noncomputable def whileTZ (test : PySem.Expr) (body orelse : List Stmt) (env : Env) : Sem PySem.Fin := PySem.W.R.onRaiseR (whileWZ test body orelse env) (fun x => do PySem.W.ZFast.noteFrameY x env; PySem.W.ZFast.zw1623429502029203251 x)
noncomputable def forWZ (target : PySem.Expr) (it : Value) (body orelse : List Stmt) (env : Env) : Sem PySem.Fin := do
  standAt target.pos
  match ← PySem.W.R.onRaiseR (PySem.W.ZFast.zw9404975358583537561 it) (fun _ => standAt { target.pos with line := 0 }) with
  | none => PySem.W.ZFast.zw12377390311714414960 (.block orelse env)
  | some v => do
    PySem.W.ZFast.zw1578499551869305889 target it v
    PySem.W.ZFast.zw17772580674575903948 target env v
    match ← execs2Z plainExecZ body env with
    | .next => PySem.W.ZFast.zw12377390311714414960 (.forLoop target it body orelse env)
    | .cont => PySem.W.ZFast.zw12377390311714414960 (.forLoop target it body orelse env)
    | .brk => pure (.done .next)
    | .ret v => pure (.done (.ret v))
noncomputable def forTZ (target : PySem.Expr) (it : Value) (body orelse : List Stmt) (env : Env) : Sem PySem.Fin := PySem.W.R.onRaiseR (forWZ target it body orelse env) (fun x => do PySem.W.ZFast.noteFrameY x env; PySem.W.ZFast.zw1623429502029203251 x)
theorem noteFrameZ_eq : PySem.W.ZFast.noteFrameY = noteFrame := PySem.W.ZFast.noteFrameY_eq.symm
theorem onRaiseZ_eq : @PySem.W.R.onRaiseR = @Sem.onRaise := PySem.W.R.onRaiseR_eq.symm
theorem cmpT1Z_eq : cmpT1Z = cmpT1 := by
  funext f a b
  unfold cmpT1Z cmpT1
  simp only [vDec_dec, a_eq_eq, a_ne_eq, altExecZ_eq, noteFrameZ_eq, onRaiseZ_eq, PySem.W.ZFast.ze10458482166411082596, PySem.W.ZFast.ze12377390311714414960, PySem.W.ZFast.ze12563942051412417395, PySem.W.ZFast.ze12886488535604756494, PySem.W.ZFast.ze14044960220447912780, PySem.W.ZFast.ze14684505520029207082, PySem.W.ZFast.ze15245631507167962100, PySem.W.ZFast.ze15418851999007992765, PySem.W.ZFast.ze1578499551869305889, PySem.W.ZFast.ze1623429502029203251, PySem.W.ZFast.ze16724134140897424297, PySem.W.ZFast.ze17359229931016689406, PySem.W.ZFast.ze17772580674575903948, PySem.W.ZFast.ze18038740251295299496, PySem.W.ZFast.ze2344580865713695371, PySem.W.ZFast.ze3989567798202555795, PySem.W.ZFast.ze6905046200447255374, PySem.W.ZFast.ze7768414822394308030, PySem.W.ZFast.ze8004119333741010377, PySem.W.ZFast.ze8711993805878244202, PySem.W.ZFast.ze9046067596548197636, PySem.W.ZFast.ze9404975358583537561, PySem.W.ZFast.ze9442747609961115081]
  try rfl
theorem cmpTZ_eq : cmpTZ = cmpT := by
  funext op a b
  unfold cmpTZ cmpT
  simp only [vDec_dec, a_eq_eq, a_ne_eq, altExecZ_eq, noteFrameZ_eq, onRaiseZ_eq, cmpT1Z_eq, PySem.W.ZFast.ze10458482166411082596, PySem.W.ZFast.ze12377390311714414960, PySem.W.ZFast.ze12563942051412417395, PySem.W.ZFast.ze12886488535604756494, PySem.W.ZFast.ze14044960220447912780, PySem.W.ZFast.ze14684505520029207082, PySem.W.ZFast.ze15245631507167962100, PySem.W.ZFast.ze15418851999007992765, PySem.W.ZFast.ze1578499551869305889, PySem.W.ZFast.ze1623429502029203251, PySem.W.ZFast.ze16724134140897424297, PySem.W.ZFast.ze17359229931016689406, PySem.W.ZFast.ze17772580674575903948, PySem.W.ZFast.ze18038740251295299496, PySem.W.ZFast.ze2344580865713695371, PySem.W.ZFast.ze3989567798202555795, PySem.W.ZFast.ze6905046200447255374, PySem.W.ZFast.ze7768414822394308030, PySem.W.ZFast.ze8004119333741010377, PySem.W.ZFast.ze8711993805878244202, PySem.W.ZFast.ze9046067596548197636, PySem.W.ZFast.ze9404975358583537561, PySem.W.ZFast.ze9442747609961115081]
  try rfl
theorem testTZ_eq : testTZ = testT := by
  funext p l ops rs
  unfold testTZ testT
  simp only [vDec_dec, a_eq_eq, a_ne_eq, altExecZ_eq, noteFrameZ_eq, onRaiseZ_eq, cmpT1Z_eq, cmpTZ_eq, PySem.W.ZFast.ze10458482166411082596, PySem.W.ZFast.ze12377390311714414960, PySem.W.ZFast.ze12563942051412417395, PySem.W.ZFast.ze12886488535604756494, PySem.W.ZFast.ze14044960220447912780, PySem.W.ZFast.ze14684505520029207082, PySem.W.ZFast.ze15245631507167962100, PySem.W.ZFast.ze15418851999007992765, PySem.W.ZFast.ze1578499551869305889, PySem.W.ZFast.ze1623429502029203251, PySem.W.ZFast.ze16724134140897424297, PySem.W.ZFast.ze17359229931016689406, PySem.W.ZFast.ze17772580674575903948, PySem.W.ZFast.ze18038740251295299496, PySem.W.ZFast.ze2344580865713695371, PySem.W.ZFast.ze3989567798202555795, PySem.W.ZFast.ze6905046200447255374, PySem.W.ZFast.ze7768414822394308030, PySem.W.ZFast.ze8004119333741010377, PySem.W.ZFast.ze8711993805878244202, PySem.W.ZFast.ze9046067596548197636, PySem.W.ZFast.ze9404975358583537561, PySem.W.ZFast.ze9442747609961115081]
  try rfl
theorem chainTZ_eq : chainTZ = chainT := by
  funext p l ops rs
  unfold chainTZ chainT
  simp only [vDec_dec, a_eq_eq, a_ne_eq, altExecZ_eq, noteFrameZ_eq, onRaiseZ_eq, cmpT1Z_eq, cmpTZ_eq, testTZ_eq, PySem.W.ZFast.ze10458482166411082596, PySem.W.ZFast.ze12377390311714414960, PySem.W.ZFast.ze12563942051412417395, PySem.W.ZFast.ze12886488535604756494, PySem.W.ZFast.ze14044960220447912780, PySem.W.ZFast.ze14684505520029207082, PySem.W.ZFast.ze15245631507167962100, PySem.W.ZFast.ze15418851999007992765, PySem.W.ZFast.ze1578499551869305889, PySem.W.ZFast.ze1623429502029203251, PySem.W.ZFast.ze16724134140897424297, PySem.W.ZFast.ze17359229931016689406, PySem.W.ZFast.ze17772580674575903948, PySem.W.ZFast.ze18038740251295299496, PySem.W.ZFast.ze2344580865713695371, PySem.W.ZFast.ze3989567798202555795, PySem.W.ZFast.ze6905046200447255374, PySem.W.ZFast.ze7768414822394308030, PySem.W.ZFast.ze8004119333741010377, PySem.W.ZFast.ze8711993805878244202, PySem.W.ZFast.ze9046067596548197636, PySem.W.ZFast.ze9404975358583537561, PySem.W.ZFast.ze9442747609961115081]
  try rfl
theorem isTrueTZ_eq : isTrueTZ = isTrueT := by
  funext e env
  unfold isTrueTZ isTrueT
  simp only [vDec_dec, a_eq_eq, a_ne_eq, altExecZ_eq, noteFrameZ_eq, onRaiseZ_eq, cmpT1Z_eq, cmpTZ_eq, testTZ_eq, chainTZ_eq, PySem.W.ZFast.ze10458482166411082596, PySem.W.ZFast.ze12377390311714414960, PySem.W.ZFast.ze12563942051412417395, PySem.W.ZFast.ze12886488535604756494, PySem.W.ZFast.ze14044960220447912780, PySem.W.ZFast.ze14684505520029207082, PySem.W.ZFast.ze15245631507167962100, PySem.W.ZFast.ze15418851999007992765, PySem.W.ZFast.ze1578499551869305889, PySem.W.ZFast.ze1623429502029203251, PySem.W.ZFast.ze16724134140897424297, PySem.W.ZFast.ze17359229931016689406, PySem.W.ZFast.ze17772580674575903948, PySem.W.ZFast.ze18038740251295299496, PySem.W.ZFast.ze2344580865713695371, PySem.W.ZFast.ze3989567798202555795, PySem.W.ZFast.ze6905046200447255374, PySem.W.ZFast.ze7768414822394308030, PySem.W.ZFast.ze8004119333741010377, PySem.W.ZFast.ze8711993805878244202, PySem.W.ZFast.ze9046067596548197636, PySem.W.ZFast.ze9404975358583537561, PySem.W.ZFast.ze9442747609961115081]
  try rfl
theorem evalCZ_eq : evalCZ = evalC := by
  funext l o c p env
  unfold evalCZ evalC
  simp only [vDec_dec, a_eq_eq, a_ne_eq, altExecZ_eq, noteFrameZ_eq, onRaiseZ_eq, cmpT1Z_eq, cmpTZ_eq, testTZ_eq, chainTZ_eq, isTrueTZ_eq, PySem.W.ZFast.ze10458482166411082596, PySem.W.ZFast.ze12377390311714414960, PySem.W.ZFast.ze12563942051412417395, PySem.W.ZFast.ze12886488535604756494, PySem.W.ZFast.ze14044960220447912780, PySem.W.ZFast.ze14684505520029207082, PySem.W.ZFast.ze15245631507167962100, PySem.W.ZFast.ze15418851999007992765, PySem.W.ZFast.ze1578499551869305889, PySem.W.ZFast.ze1623429502029203251, PySem.W.ZFast.ze16724134140897424297, PySem.W.ZFast.ze17359229931016689406, PySem.W.ZFast.ze17772580674575903948, PySem.W.ZFast.ze18038740251295299496, PySem.W.ZFast.ze2344580865713695371, PySem.W.ZFast.ze3989567798202555795, PySem.W.ZFast.ze6905046200447255374, PySem.W.ZFast.ze7768414822394308030, PySem.W.ZFast.ze8004119333741010377, PySem.W.ZFast.ze8711993805878244202, PySem.W.ZFast.ze9046067596548197636, PySem.W.ZFast.ze9404975358583537561, PySem.W.ZFast.ze9442747609961115081]
  try rfl
theorem evalIfZ_eq : evalIfZ = evalIf := by
  funext t b o env
  unfold evalIfZ evalIf
  simp only [vDec_dec, a_eq_eq, a_ne_eq, altExecZ_eq, noteFrameZ_eq, onRaiseZ_eq, cmpT1Z_eq, cmpTZ_eq, testTZ_eq, chainTZ_eq, isTrueTZ_eq, evalCZ_eq, PySem.W.ZFast.ze10458482166411082596, PySem.W.ZFast.ze12377390311714414960, PySem.W.ZFast.ze12563942051412417395, PySem.W.ZFast.ze12886488535604756494, PySem.W.ZFast.ze14044960220447912780, PySem.W.ZFast.ze14684505520029207082, PySem.W.ZFast.ze15245631507167962100, PySem.W.ZFast.ze15418851999007992765, PySem.W.ZFast.ze1578499551869305889, PySem.W.ZFast.ze1623429502029203251, PySem.W.ZFast.ze16724134140897424297, PySem.W.ZFast.ze17359229931016689406, PySem.W.ZFast.ze17772580674575903948, PySem.W.ZFast.ze18038740251295299496, PySem.W.ZFast.ze2344580865713695371, PySem.W.ZFast.ze3989567798202555795, PySem.W.ZFast.ze6905046200447255374, PySem.W.ZFast.ze7768414822394308030, PySem.W.ZFast.ze8004119333741010377, PySem.W.ZFast.ze8711993805878244202, PySem.W.ZFast.ze9046067596548197636, PySem.W.ZFast.ze9404975358583537561, PySem.W.ZFast.ze9442747609961115081]
  try rfl
theorem exec2Z_eq : exec2Z = exec2 := by
  funext df s env
  unfold exec2Z exec2
  simp only [vDec_dec, a_eq_eq, a_ne_eq, altExecZ_eq, noteFrameZ_eq, onRaiseZ_eq, cmpT1Z_eq, cmpTZ_eq, testTZ_eq, chainTZ_eq, isTrueTZ_eq, evalCZ_eq, evalIfZ_eq, PySem.W.ZFast.ze10458482166411082596, PySem.W.ZFast.ze12377390311714414960, PySem.W.ZFast.ze12563942051412417395, PySem.W.ZFast.ze12886488535604756494, PySem.W.ZFast.ze14044960220447912780, PySem.W.ZFast.ze14684505520029207082, PySem.W.ZFast.ze15245631507167962100, PySem.W.ZFast.ze15418851999007992765, PySem.W.ZFast.ze1578499551869305889, PySem.W.ZFast.ze1623429502029203251, PySem.W.ZFast.ze16724134140897424297, PySem.W.ZFast.ze17359229931016689406, PySem.W.ZFast.ze17772580674575903948, PySem.W.ZFast.ze18038740251295299496, PySem.W.ZFast.ze2344580865713695371, PySem.W.ZFast.ze3989567798202555795, PySem.W.ZFast.ze6905046200447255374, PySem.W.ZFast.ze7768414822394308030, PySem.W.ZFast.ze8004119333741010377, PySem.W.ZFast.ze8711993805878244202, PySem.W.ZFast.ze9046067596548197636, PySem.W.ZFast.ze9404975358583537561, PySem.W.ZFast.ze9442747609961115081]
  try rfl
theorem execs2Z_eq : execs2Z = execs2 := by
  funext df ss env
  induction ss with
  | nil => rfl
  | cons s rest ih => unfold execs2Z execs2; simp only [exec2Z_eq, ih]; try rfl
theorem func2TZ_eq : func2TZ = func2T := by
  funext b env
  unfold func2TZ func2T
  simp only [vDec_dec, a_eq_eq, a_ne_eq, altExecZ_eq, noteFrameZ_eq, onRaiseZ_eq, cmpT1Z_eq, cmpTZ_eq, testTZ_eq, chainTZ_eq, isTrueTZ_eq, evalCZ_eq, evalIfZ_eq, exec2Z_eq, execs2Z_eq, PySem.W.ZFast.ze10458482166411082596, PySem.W.ZFast.ze12377390311714414960, PySem.W.ZFast.ze12563942051412417395, PySem.W.ZFast.ze12886488535604756494, PySem.W.ZFast.ze14044960220447912780, PySem.W.ZFast.ze14684505520029207082, PySem.W.ZFast.ze15245631507167962100, PySem.W.ZFast.ze15418851999007992765, PySem.W.ZFast.ze1578499551869305889, PySem.W.ZFast.ze1623429502029203251, PySem.W.ZFast.ze16724134140897424297, PySem.W.ZFast.ze17359229931016689406, PySem.W.ZFast.ze17772580674575903948, PySem.W.ZFast.ze18038740251295299496, PySem.W.ZFast.ze2344580865713695371, PySem.W.ZFast.ze3989567798202555795, PySem.W.ZFast.ze6905046200447255374, PySem.W.ZFast.ze7768414822394308030, PySem.W.ZFast.ze8004119333741010377, PySem.W.ZFast.ze8711993805878244202, PySem.W.ZFast.ze9046067596548197636, PySem.W.ZFast.ze9404975358583537561, PySem.W.ZFast.ze9442747609961115081]
  try rfl
theorem plainExecZ_eq : plainExecZ = plainExec := by
  funext s env
  unfold plainExecZ plainExec
  simp only [vDec_dec, a_eq_eq, a_ne_eq, altExecZ_eq, noteFrameZ_eq, onRaiseZ_eq, cmpT1Z_eq, cmpTZ_eq, testTZ_eq, chainTZ_eq, isTrueTZ_eq, evalCZ_eq, evalIfZ_eq, exec2Z_eq, execs2Z_eq, func2TZ_eq, PySem.W.ZFast.ze10458482166411082596, PySem.W.ZFast.ze12377390311714414960, PySem.W.ZFast.ze12563942051412417395, PySem.W.ZFast.ze12886488535604756494, PySem.W.ZFast.ze14044960220447912780, PySem.W.ZFast.ze14684505520029207082, PySem.W.ZFast.ze15245631507167962100, PySem.W.ZFast.ze15418851999007992765, PySem.W.ZFast.ze1578499551869305889, PySem.W.ZFast.ze1623429502029203251, PySem.W.ZFast.ze16724134140897424297, PySem.W.ZFast.ze17359229931016689406, PySem.W.ZFast.ze17772580674575903948, PySem.W.ZFast.ze18038740251295299496, PySem.W.ZFast.ze2344580865713695371, PySem.W.ZFast.ze3989567798202555795, PySem.W.ZFast.ze6905046200447255374, PySem.W.ZFast.ze7768414822394308030, PySem.W.ZFast.ze8004119333741010377, PySem.W.ZFast.ze8711993805878244202, PySem.W.ZFast.ze9046067596548197636, PySem.W.ZFast.ze9404975358583537561, PySem.W.ZFast.ze9442747609961115081]
  try rfl
theorem whileWZ_eq : whileWZ = whileW := by
  funext t b o env
  unfold whileWZ whileW
  simp only [vDec_dec, a_eq_eq, a_ne_eq, altExecZ_eq, noteFrameZ_eq, onRaiseZ_eq, cmpT1Z_eq, cmpTZ_eq, testTZ_eq, chainTZ_eq, isTrueTZ_eq, evalCZ_eq, evalIfZ_eq, exec2Z_eq, execs2Z_eq, func2TZ_eq, plainExecZ_eq, PySem.W.ZFast.ze10458482166411082596, PySem.W.ZFast.ze12377390311714414960, PySem.W.ZFast.ze12563942051412417395, PySem.W.ZFast.ze12886488535604756494, PySem.W.ZFast.ze14044960220447912780, PySem.W.ZFast.ze14684505520029207082, PySem.W.ZFast.ze15245631507167962100, PySem.W.ZFast.ze15418851999007992765, PySem.W.ZFast.ze1578499551869305889, PySem.W.ZFast.ze1623429502029203251, PySem.W.ZFast.ze16724134140897424297, PySem.W.ZFast.ze17359229931016689406, PySem.W.ZFast.ze17772580674575903948, PySem.W.ZFast.ze18038740251295299496, PySem.W.ZFast.ze2344580865713695371, PySem.W.ZFast.ze3989567798202555795, PySem.W.ZFast.ze6905046200447255374, PySem.W.ZFast.ze7768414822394308030, PySem.W.ZFast.ze8004119333741010377, PySem.W.ZFast.ze8711993805878244202, PySem.W.ZFast.ze9046067596548197636, PySem.W.ZFast.ze9404975358583537561, PySem.W.ZFast.ze9442747609961115081]
  try rfl
theorem whileTZ_eq : whileTZ = whileT := by
  funext t b o env
  unfold whileTZ whileT
  simp only [vDec_dec, a_eq_eq, a_ne_eq, altExecZ_eq, noteFrameZ_eq, onRaiseZ_eq, cmpT1Z_eq, cmpTZ_eq, testTZ_eq, chainTZ_eq, isTrueTZ_eq, evalCZ_eq, evalIfZ_eq, exec2Z_eq, execs2Z_eq, func2TZ_eq, plainExecZ_eq, whileWZ_eq, PySem.W.ZFast.ze10458482166411082596, PySem.W.ZFast.ze12377390311714414960, PySem.W.ZFast.ze12563942051412417395, PySem.W.ZFast.ze12886488535604756494, PySem.W.ZFast.ze14044960220447912780, PySem.W.ZFast.ze14684505520029207082, PySem.W.ZFast.ze15245631507167962100, PySem.W.ZFast.ze15418851999007992765, PySem.W.ZFast.ze1578499551869305889, PySem.W.ZFast.ze1623429502029203251, PySem.W.ZFast.ze16724134140897424297, PySem.W.ZFast.ze17359229931016689406, PySem.W.ZFast.ze17772580674575903948, PySem.W.ZFast.ze18038740251295299496, PySem.W.ZFast.ze2344580865713695371, PySem.W.ZFast.ze3989567798202555795, PySem.W.ZFast.ze6905046200447255374, PySem.W.ZFast.ze7768414822394308030, PySem.W.ZFast.ze8004119333741010377, PySem.W.ZFast.ze8711993805878244202, PySem.W.ZFast.ze9046067596548197636, PySem.W.ZFast.ze9404975358583537561, PySem.W.ZFast.ze9442747609961115081]
  try rfl
theorem forWZ_eq : forWZ = forW := by
  funext t i b o env
  unfold forWZ forW
  simp only [vDec_dec, a_eq_eq, a_ne_eq, altExecZ_eq, noteFrameZ_eq, onRaiseZ_eq, cmpT1Z_eq, cmpTZ_eq, testTZ_eq, chainTZ_eq, isTrueTZ_eq, evalCZ_eq, evalIfZ_eq, exec2Z_eq, execs2Z_eq, func2TZ_eq, plainExecZ_eq, whileWZ_eq, whileTZ_eq, PySem.W.ZFast.ze10458482166411082596, PySem.W.ZFast.ze12377390311714414960, PySem.W.ZFast.ze12563942051412417395, PySem.W.ZFast.ze12886488535604756494, PySem.W.ZFast.ze14044960220447912780, PySem.W.ZFast.ze14684505520029207082, PySem.W.ZFast.ze15245631507167962100, PySem.W.ZFast.ze15418851999007992765, PySem.W.ZFast.ze1578499551869305889, PySem.W.ZFast.ze1623429502029203251, PySem.W.ZFast.ze16724134140897424297, PySem.W.ZFast.ze17359229931016689406, PySem.W.ZFast.ze17772580674575903948, PySem.W.ZFast.ze18038740251295299496, PySem.W.ZFast.ze2344580865713695371, PySem.W.ZFast.ze3989567798202555795, PySem.W.ZFast.ze6905046200447255374, PySem.W.ZFast.ze7768414822394308030, PySem.W.ZFast.ze8004119333741010377, PySem.W.ZFast.ze8711993805878244202, PySem.W.ZFast.ze9046067596548197636, PySem.W.ZFast.ze9404975358583537561, PySem.W.ZFast.ze9442747609961115081]
  try rfl
theorem forTZ_eq : forTZ = forT := by
  funext t i b o env
  unfold forTZ forT
  simp only [vDec_dec, a_eq_eq, a_ne_eq, altExecZ_eq, noteFrameZ_eq, onRaiseZ_eq, cmpT1Z_eq, cmpTZ_eq, testTZ_eq, chainTZ_eq, isTrueTZ_eq, evalCZ_eq, evalIfZ_eq, exec2Z_eq, execs2Z_eq, func2TZ_eq, plainExecZ_eq, whileWZ_eq, whileTZ_eq, forWZ_eq, PySem.W.ZFast.ze10458482166411082596, PySem.W.ZFast.ze12377390311714414960, PySem.W.ZFast.ze12563942051412417395, PySem.W.ZFast.ze12886488535604756494, PySem.W.ZFast.ze14044960220447912780, PySem.W.ZFast.ze14684505520029207082, PySem.W.ZFast.ze15245631507167962100, PySem.W.ZFast.ze15418851999007992765, PySem.W.ZFast.ze1578499551869305889, PySem.W.ZFast.ze1623429502029203251, PySem.W.ZFast.ze16724134140897424297, PySem.W.ZFast.ze17359229931016689406, PySem.W.ZFast.ze17772580674575903948, PySem.W.ZFast.ze18038740251295299496, PySem.W.ZFast.ze2344580865713695371, PySem.W.ZFast.ze3989567798202555795, PySem.W.ZFast.ze6905046200447255374, PySem.W.ZFast.ze7768414822394308030, PySem.W.ZFast.ze8004119333741010377, PySem.W.ZFast.ze8711993805878244202, PySem.W.ZFast.ze9046067596548197636, PySem.W.ZFast.ze9404975358583537561, PySem.W.ZFast.ze9442747609961115081]
  try rfl
end Sol
namespace Sol
open PySem PySem.Spec PySem.Calls PyProof.Rows PySem.W PySem.W.X
section
variable {prog : Program} {w : World} {G : PySem.Ctx} {α β : Type}
noncomputable def zipGo (a : Nat) (vs : Array Value) : Array Value := if vs[0]? == some (rawInt a) then vs.setIfInBounds 0 .none else vs
noncomputable def letGoT (target : PySem.Expr) (it v : Value) : Sem Unit := match target with
  | .Tuple es c p => match it with
    | .ref r => match v with
      | .ref a => .load r none fun o => match o.cls with
        | .type n => match o.data with
          | .fields vs => match PySem.W.S.eqLit 7432827 n with
            | true => .update r none (Obj.mapFields (zipGo a)) .pure
            | false => .unsupported "letgo"
          | _ => .unsupported "letgo"
        | _ => .unsupported "letgo"
      | _ => .unsupported "letgo"
    | _ => .unsupported "letgo"
  | _ => .unsupported "letgo"
theorem update_same {h : Heap} {a : Addr} {o : Obj} {f : Obj → Obj} (e : h.get? a = some o) (hf : f o = o) : h.update a f = h := by
  obtain ⟨e1, _⟩ := Heap.get?_some_iff.mp e
  cases h
  simp only [Heap.update] at *
  congr 1
  refine Array.ext_getElem? fun i => ?_
  rw [Array.getElem?_modify]
  split
  · rename_i hi
    subst hi
    rw [e1]; simp [hf]
  · rfl
theorem letGoT_ref (target : PySem.Expr) (it v : Value) : Ref prog w G (letGoT target it v) (letOwnedTupleGo target it v) := by
  unfold letGoT
  split
  · split
    · rename_i r
      split
      · rename_i a
        intro Q E p s h
        obtain ⟨o, ho, h⟩ := h
        dsimp only at h
        split at h
        · rename_i n hn
          split at h
          · rename_i vs hv
            split at h
            · rename_i hz
              have e : PySem.code "zip" = 7432827 := by kernel_rfl
              rw [← congrFun (PySem.W.S.eqLit_eq "zip" _ e) n] at hz
              have hz' := eq_of_beq hz
              subst hz'
              obtain ⟨_, h⟩ := h
              obtain ⟨oc, od, oda, os⟩ := o
              simp only at hn hv
              subst hn hv
              show Sem.wp (model prog w) G (.load r none fun o => _) Q E p s
              refine ⟨_, ho, ?_⟩
              show Sem.wp (model prog w) G (if (true && vs[0]? == some (rawInt a)) = true then _ else _) Q E p s
              rw [Bool.true_and]
              by_cases hc : (vs[0]? == some (rawInt a)) = true
              · rw [if_pos hc]
                have h0 : 0 < vs.size := by
                  have := eq_of_beq hc
                  exact (Array.getElem?_eq_some_iff.mp this).1
                show Sem.wp (model prog w) G (.load r none fun o => _) Q E p s
                refine ⟨_, ho, ?_⟩
                show Sem.wp (model prog w) G (if 0 < vs.size then PySem.update r (Obj.mapFields (·.setIfInBounds 0 .none)) else _) Q E p s
                rw [if_pos h0]
                refine ⟨by rw [ho]; rfl, ?_⟩
                have e2 : s.heap.update r (Obj.mapFields (·.setIfInBounds 0 .none)) = s.heap.update r (Obj.mapFields (zipGo a)) := by
                  obtain ⟨e1, _⟩ := Heap.get?_some_iff.mp ho
                  generalize s.heap = hp at e1
                  cases hp
                  simp only [Heap.update] at *
                  congr 1
                  refine Array.ext_getElem? fun i => ?_
                  rw [Array.getElem?_modify, Array.getElem?_modify]
                  split
                  · rename_i hi
                    subst hi
                    rw [e1]
                    simp only [Option.map_some, Obj.mapFields, zipGo, hc, if_true]
                  · rfl
                rw [e2]
                exact h
              · rw [if_neg hc]
                have e2 : s.heap.update r (Obj.mapFields (zipGo a)) = s.heap := by
                  refine update_same ho ?_
                  simp only [Obj.mapFields, zipGo, hc, Bool.false_eq_true, if_false]
                rw [e2] at h
                exact h
            · exact False.elim h
          · exact False.elim h
        · exact False.elim h
      · exact .bad
    · exact .bad
  · exact .bad
noncomputable def compW (e elt : PySem.Expr) (g : Comprehension) (it acc : Value) (env : Env) : Sem PySem.Fin := do
  standAt g.iter.pos
  match ← pyNext it with
  | none => pure (.done .next)
  | some v => do
    letGoT g.target it v
    assign g.target env v
    let x ← eval elt env
    let _ ← call (.builtin "list.append") [acc, x]
    again (.compLoop e 0 it acc env)
noncomputable def isTup (e : PySem.Expr) : Bool := match e with
  | .Tuple _ _ _ => true
  | _ => false
noncomputable def compT (e : PySem.Expr) (depth : Nat) (it acc : Value) (env : Env) : Option (Sem PySem.Fin) := match e with
  | .ListComp elt [⟨target, iter, [], a⟩] scope pos => match isTup target with
    | true => match a with
      | .ofNat n => match n with
        | 0 => match depth with
          | 0 => some ((compW (.ListComp elt [⟨target, iter, [], 0⟩] scope pos) elt ⟨target, iter, [], 0⟩ it acc env).onRaise (fun x => do noteFrame x env; theTreesLotGoes x))
          | _ + 1 => none
        | _ + 1 => none
      | .negSucc _ => none
    | false => none
  | _ => none
theorem compT_ref {e : PySem.Expr} {depth : Nat} {it acc : Value} {env : Env} {t : Sem PySem.Fin} (h : compT e depth it acc env = some t) : Ref prog w G t (denote table (.compLoop e depth it acc env)) := by
  unfold compT at h
  split at h
  · split at h
    · split at h
      · split at h
        · split at h
          · cases h
            show Ref prog w G _ ((compTurn _ 0 it acc env).onRaise (fun x => do noteFrame x env; theTreesLotGoes x))
            refine .onRaise ?_
            unfold compW compTurn
            refine .bindR fun _ => .bindR fun o => ?_
            cases o with
            | none => exact .refl _
            | some v =>
              refine .bind (letGoT_ref _ _ _) fun _ => .bindR fun _ => fun Q E p s h => ?_
              show Sem.wp (model prog w) G (((eval _ env) >>= fun x => (call (.builtin "list.append") [acc, x]) >>= fun _ => pure ()) >>= fun _ => again (.compLoop _ 0 it acc env)) Q E p s
              rw [Sem.wp_bind', Sem.wp_bind']
              rw [Sem.wp_bind'] at h
              refine Sem.wp_mono _ _ _ (fun x p s h => ?_) (fun _ _ _ y => y) p s h
              rw [Sem.wp_bind'] at h ⊢
              refine Sem.wp_mono _ _ _ (fun x p s h => ?_) (fun _ _ _ y => y) p s h
              exact h
          · cases h
        · cases h
      · cases h
    · cases h
  · cases h
end
end Sol
namespace Sol
open PySem PySem.Spec PySem.Calls PyProof.Rows PySem.W PySem.W.X
noncomputable def compWZ (e elt : PySem.Expr) (g : Comprehension) (it acc : Value) (env : Env) : Sem PySem.Fin := do
  standAt g.iter.pos
  match ← PySem.W.ZFast.zw9404975358583537561 it with
  | none => pure (.done .next)
  | some v => do
    letGoT g.target it v
    PySem.W.ZFast.zw17772580674575903948 g.target env v
    let x ← PySem.W.ZFast.zw14044960220447912780 elt env
    let _ ← PySem.W.ZFast.zw11478286150595567475 (.builtin "list.append") [acc, x]
    PySem.W.ZFast.zw12377390311714414960 (.compLoop e 0 it acc env)
noncomputable def compTZ (e : PySem.Expr) (depth : Nat) (it acc : Value) (env : Env) : Option (Sem PySem.Fin) := match e with
  | .ListComp elt [⟨target, iter, [], a⟩] scope pos => match isTup target with
    | true => match a with
      | .ofNat n => match n with
        | 0 => match depth with
          | 0 => some (PySem.W.R.onRaiseR (compWZ (.ListComp elt [⟨target, iter, [], 0⟩] scope pos) elt ⟨target, iter, [], 0⟩ it acc env) (fun x => do PySem.W.ZFast.noteFrameY x env; PySem.W.ZFast.zw1623429502029203251 x))
          | _ + 1 => none
        | _ + 1 => none
      | .negSucc _ => none
    | false => none
  | _ => none
theorem compWZ_eq : compWZ = compW := by
  funext e el g i a env
  unfold compWZ compW
  simp only [noteFrameZ_eq, onRaiseZ_eq, PySem.W.ZFast.ze11478286150595567475, PySem.W.ZFast.ze12377390311714414960, PySem.W.ZFast.ze14044960220447912780, PySem.W.ZFast.ze1623429502029203251, PySem.W.ZFast.ze17772580674575903948, PySem.W.ZFast.ze9404975358583537561]
  try rfl
theorem compTZ_eq : compTZ = compT := by
  funext e d i a env
  unfold compTZ compT
  simp only [noteFrameZ_eq, onRaiseZ_eq, compWZ_eq, PySem.W.ZFast.ze11478286150595567475, PySem.W.ZFast.ze12377390311714414960, PySem.W.ZFast.ze14044960220447912780, PySem.W.ZFast.ze1623429502029203251, PySem.W.ZFast.ze17772580674575903948, PySem.W.ZFast.ze9404975358583537561]
  try rfl
end Sol
namespace Sol
open PySem PySem.Spec PySem.Calls PyProof.Rows PySem.W PySem.W.X
section
variable {prog : Program} {w : World} {G : PySem.Ctx}
noncomputable def a_str : Str := ⟨#[95, 95, 115, 116, 114, 95, 95]⟩
theorem a_str_eq : Str.ofString "__str__" = a_str := by kernel_rfl
noncomputable def strT1 (a : Addr) : Sem PySem.Fin := do
  match ← callSpecial? (.ref a) a_str with
  | some r => match r with
    | .str x t => .pure (.done (.ret (.str x t)))
    | _ => .unsupported "str"
  | none => .unsupported "str"
noncomputable def strT1Z (a : Addr) : Sem PySem.Fin := do
  match ← PySem.W.ZFast.zw9201129301070521445 (.ref a) a_str with
  | some r => match r with
    | .str x t => .pure (.done (.ret (.str x t)))
    | _ => .unsupported "str"
  | none => .unsupported "str"
theorem strT1Z_eq (a : Addr) : strT1Z a = strT1 a := by
  unfold strT1Z strT1
  rw [← PySem.W.ZFast.ze9201129301070521445]
noncomputable def strTZ (args : Args) : Sem PySem.Fin := match args with
  | ⟨[.type T, .ref a], []⟩ => match PySem.W.S.eqLit 7566708 T with
    | true => strT1Z a
    | false => .unsupported "str"
  | _ => .unsupported "str"
theorem strT1_ref {A : Around} (hG : G.In A) (hu : A.units < cLine) (a : Addr) : Ref prog w G (strT1 a) (PySem.Builtin.«str.__new__» ⟨[.type "str", .ref a], []⟩) := by
  rw [str_new_tree]
  have e1 : isType (.type "str") = pure true := rfl
  simp only [e1, isSubtype_str_str, pure_bind, Bool.not_true, Bool.false_eq_true, if_false]
  unfold strT1 PySem.Builtin.Str.strOf
  intro Q E p s h
  rw [show PySem.Builtin.Str.isExactStr (.ref a) = false from rfl]
  simp only [Bool.false_eq_true, if_false, a_str_eq]
  rw [Sem.wp_bind'] at h
  rw [Sem.wp_bind']
  show Sem.wp (model prog w) G (PySem.cRoomFor "str" [.ref a] >>= fun _ => _) _ _ _ _
  rw [Sem.wp_bind']
  refine Sem.wp_cRoomFor _ _ (Nat.lt_of_le_of_lt hG.2.2.2.2 hu) ?_
  rw [Sem.wp_bind']
  refine Sem.wp_mono _ _ _ (fun o p s h => ?_) (fun _ _ _ y => y) p s h
  cases o with
  | none => exact False.elim h
  | some r => cases r <;> first | exact False.elim h | exact h
theorem str_id {T : String} (h : PySem.W.S.eqLit 7566708 T = true) : T = "str" := by
  have e : PySem.code "str" = 7566708 := by kernel_rfl
  have z := congrFun (PySem.W.S.eqLit_eq "str" _ e) T
  rw [← z] at h
  exact eq_of_beq h
theorem strTZ_ref {A : Around} (hG : G.In A) (hu : A.units < cLine) (args : Args) : Ref prog w G (strTZ args) (PySem.Builtin.«str.__new__» args) := by
  unfold strTZ
  split
  · split
    · rename_i h
      cases str_id h
      rw [strT1Z_eq]
      exact strT1_ref hG hu _
    · exact Ref.bad
  · exact Ref.bad
end
end Sol
namespace Sol
open PySem PySem.Spec PySem.Calls PyProof.Rows PySem.W PySem.W.X
noncomputable def denZ : Code → Sem PySem.Fin := PySem.W.ZFast.zw11892475500146522536 PySem.W.ZFast.tableZ
theorem denZ_eq (c : Code) : denZ c = denote table c := by
  unfold denZ
  rw [← PySem.W.ZFast.ze11892475500146522536, ← PySem.W.ZFast.tableZ_eq]
noncomputable def qtZ : Code → Bool := PySem.W.ZFast.zw17772548960776305114
theorem qtZ_eq (c : Code) : qtZ c = c.quiet := by
  unfold qtZ
  rw [← PySem.W.ZFast.ze17772548960776305114]
noncomputable def altZ (c : Code) : Option (Sem PySem.Fin) := match c with
  | .call f args => match f with
    | .ref a => some (callTZ denZ a args)
    | .none => none
    | .ellipsis => none
    | .notImplemented => none
    | .bool _ => none
    | .int _ _ => none
    | .float _ _ => none
    | .str _ _ => none
    | .bytes _ _ => none
    | .type _ => none
    | .builtin _ => none
  | .builtin id args => match PySem.W.S.eqLit 8395602706694450420893107072773897535317608 id with
    | true => some (nextTZ args)
    | false => match PySem.W.S.eqLit 7635736742594467534504881056365 id with
      | true => some (iaddTZ denZ args)
      | false => match PySem.W.S.eqLit 116512245094328231196454762 id with
        | true => some (mulT args)
        | false => match PySem.W.S.eqLit 116512446855873012371256692 id with
          | true => some (strTZ args)
          | false => match origOf id with
            | some b => some (b args)
            | none => none
  | .func body env => some (func2TZ body env)
  | .body _ _ => none
  | .block _ _ => none
  | .handlers _ _ _ => none
  | .starHandlers _ _ _ _ _ => none
  | .expr _ _ => none
  | .whileLoop test body orelse env => some (whileTZ test body orelse env)
  | .forLoop target it body orelse env => some (forTZ target it body orelse env)
  | .asyncForLoop _ _ _ _ _ => none
  | .compStart _ _ _ _ _ => none
  | .compLoop e depth it acc env => compTZ e depth it acc env
theorem next_id {id : String} (h : PySem.W.S.eqLit 8395602706694450420893107072773897535317608 id = true) : id = "generator.__next__" := by
  have e : PySem.code "generator.__next__" = 8395602706694450420893107072773897535317608 := by kernel_rfl
  have z := congrFun (PySem.W.S.eqLit_eq "generator.__next__" _ e) id
  rw [← z] at h
  exact eq_of_beq h
theorem iadd_id {id : String} (h : PySem.W.S.eqLit 7635736742594467534504881056365 id = true) : id = "list.__iadd__" := by
  have e : PySem.code "list.__iadd__" = 7635736742594467534504881056365 := by kernel_rfl
  have z := congrFun (PySem.W.S.eqLit_eq "list.__iadd__" _ e) id
  rw [← z] at h
  exact eq_of_beq h
theorem mul_id {id : String} (h : PySem.W.S.eqLit 116512245094328231196454762 id = true) : id = "int.__mul__" := by
  have e : PySem.code "int.__mul__" = 116512245094328231196454762 := by kernel_rfl
  have z := congrFun (PySem.W.S.eqLit_eq "int.__mul__" _ e) id
  rw [← z] at h
  exact eq_of_beq h
theorem strn_id {id : String} (h : PySem.W.S.eqLit 116512446855873012371256692 id = true) : id = "str.__new__" := by
  have e : PySem.code "str.__new__" = 116512446855873012371256692 := by kernel_rfl
  have z := congrFun (PySem.W.S.eqLit_eq "str.__new__" _ e) id
  rw [← z] at h
  exact eq_of_beq h
theorem caller_id {id : String} {args : Args} (h : (Code.builtin id args).isCaller = true) : ∃ _ : Unit, id = "claim.caller" := by
  refine ⟨(), ?_⟩
  unfold Code.isCaller at h
  split at h
  · rename_i e
    injection e
  · cases h
theorem next_entry : entryFor table "generator.__next__" = some PySem.Builtin.«generator.__next__» := entryFor_of_tree (by kernel_rfl)
theorem den_some (id : String) (args : Args) (b : Builtin) (h : entryFor table id = some b) : denote table (.builtin id args) = b args := by
  show (match entryFor table id with | some b => b args | none => unsupported ((withoutEnding? id "#data").getD id)) = _
  rw [h]
noncomputable def rowsOf (f : String → Bool) (b1 b2 b3 : Bool) (s : String) : Bool := match PySem.W.S.eqLit 10139888712337904147300001983332972444938612 s with
  | true => b1
  | false => match PySem.W.S.eqLit 2510650655181157320538776789020469319833841985448949215332 s with
    | true => b2
    | false => match PySem.W.S.eqLit 2831041637402183652179144184793551905427079684854878925927 s with
      | true => b3
      | false => f s
noncomputable def normP (P : Params) (b1 b2 b3 : Bool) : Params := { P with followText := rowsOf P.followText b1 b2 b3 }
theorem rows_same (f : String → Bool) : rowsOf f (f "special-get-raises") (f "comprehension-iter-twice") (f "fstring-hands-on-the-str") = f := by
  have e1 : PySem.code "special-get-raises" = 10139888712337904147300001983332972444938612 := by kernel_rfl
  have e2 : PySem.code "comprehension-iter-twice" = 2510650655181157320538776789020469319833841985448949215332 := by kernel_rfl
  have e3 : PySem.code "fstring-hands-on-the-str" = 2831041637402183652179144184793551905427079684854878925927 := by kernel_rfl
  funext s
  unfold rowsOf
  split
  · rename_i h
    rw [← congrFun (PySem.W.S.eqLit_eq "special-get-raises" _ e1) s] at h
    rw [eq_of_beq h]
  · split
    · rename_i h
      rw [← congrFun (PySem.W.S.eqLit_eq "comprehension-iter-twice" _ e2) s] at h
      rw [eq_of_beq h]
    · split
      · rename_i h
        rw [← congrFun (PySem.W.S.eqLit_eq "fstring-hands-on-the-str" _ e3) s] at h
        rw [eq_of_beq h]
      · rfl
theorem normP_same (P : Params) : normP P (P.followText "special-get-raises") (P.followText "comprehension-iter-twice") (P.followText "fstring-hands-on-the-str") = P := by
  unfold normP
  rw [rows_same]
noncomputable def ktDel : KT → Nat → KT
  | .nil, _ => .nil
  | .node v l r, i => match Nat.beq i 0 with
    | true => .node none l r
    | false => match Nat.beq (i % 2) 1 with
      | true => .node v (ktDel l (i / 2)) r
      | false => .node v l (ktDel r (i / 2 - 1))
theorem odd_half {i j : Nat} (hi : i % 2 = 1) (hj : j % 2 = 1) : (j / 2 = i / 2) = (j = i) := propext ⟨fun h => by omega, fun h => h ▸ rfl⟩
theorem even_half {i j : Nat} (h0 : i ≠ 0) (hi : ¬ i % 2 = 1) (h1 : j ≠ 0) (hj : ¬ j % 2 = 1) : (j / 2 - 1 = i / 2 - 1) = (j = i) := propext ⟨fun h => by omega, fun h => h ▸ rfl⟩
theorem ktDel_get (t : KT) : ∀ (i j : Nat), (ktDel t i).get j = if j = i then none else t.get j := by
  induction t with
  | nil => intro i j; show (KT.nil).get j = _; simp [KT.get]
  | node v l r ihl ihr =>
    intro i j
    unfold ktDel
    rw [BT.beq_eq, BT.beq_eq]
    by_cases h0 : i = 0
    · subst h0
      rw [decide_eq_true rfl]
      show (KT.node none l r).get j = _
      rw [KT.get_node, KT.get_node]
      by_cases hj : j = 0
      · rw [if_pos hj, if_pos hj]
      · rw [if_neg hj, if_neg hj, if_neg hj]
    · rw [decide_eq_false h0]
      by_cases p : i % 2 = 1
      · rw [decide_eq_true p]
        show (KT.node v (ktDel l (i / 2)) r).get j = _
        rw [KT.get_node, KT.get_node, ihl]
        by_cases hj : j = 0
        · rw [if_pos hj, if_pos hj, if_neg (fun e : j = i => h0 (e ▸ hj))]
        · rw [if_neg hj, if_neg hj]
          by_cases q : j % 2 = 1
          · rw [if_pos q, if_pos q]; simp only [odd_half p q]
          · rw [if_neg q, if_neg q, if_neg (fun e : j = i => q (e ▸ p))]
      · rw [decide_eq_false p]
        show (KT.node v l (ktDel r (i / 2 - 1))).get j = _
        rw [KT.get_node, KT.get_node, ihr]
        by_cases hj : j = 0
        · rw [if_pos hj, if_pos hj, if_neg (fun e : j = i => h0 (e ▸ hj))]
        · rw [if_neg hj, if_neg hj]
          by_cases q : j % 2 = 1
          · rw [if_pos q, if_pos q, if_neg (fun e : j = i => p (e ▸ q))]
          · rw [if_neg q, if_neg q]; simp only [even_half h0 p hj q]
noncomputable def ktTop (K : Params → KT) (P : Params) : KT := ktDel (ktDel (ktDel (K P) 80) 87) 148
section
variable {Γ : Type}
theorem own_of_ref {prog : Program} {w : World} {A : Around} {c : Code} {t' t : Sem PySem.Fin} {Q : PySem.Fin → Shared → Prop} {E : Value → Shared → Prop} {s : Shared}
    (h : ∀ G : PySem.Ctx, G.In (A.under c) → G.code = c → Ref prog w G t' t) (x : wpOwn (model prog w) A c t' Q E s) : wpOwn (model prog w) A c t Q E s := fun G p hc hG => by
  have hi : G.In (A.under c) := hc ▸ hG.in
  exact h G hi hc _ _ _ _ (x G p hc hG)
theorem altZ_ok {C : Cfg Γ} {dm um : Nat} (hP : ProgOk C.prog) (hdm : dm ≤ 900) (hum : um ≤ 9600) {c : Code} {t : Sem PySem.Fin} (h : altZ c = some t) : AltOk C dm um c t := by
  have lim : ∀ A : Around, (A.under c).depth ≤ dm + 90 → (A.under c).depth < recursionLimit := fun A h => Nat.lt_of_le_of_lt h (by show dm + 90 < 1000; omega)
  have limU : ∀ A : Around, (A.under c).units ≤ um + 260 → (A.under c).units < cLine := fun A h => Nat.lt_of_le_of_lt h (by show um + 260 < 9900; omega)
  unfold altZ at h
  split at h
  · rename_i f args
    split at h <;> first
      | cases h; done
      | (rename_i a
         cases h
         refine ⟨weight_le rfl, fun A Q E s hd hdp hu hk x => own_of_ref (fun G hi hc => ?_) x⟩
         have e : denZ = denote table := funext denZ_eq
         rw [callTZ_eq, e]
         exact callT_ref hi (lim A hdp) a args)
  · rename_i id args
    split at h
    · rename_i hid
      cases h
      cases next_id hid
      have hw : (Code.builtin "generator.__next__" args).isCaller = false := rfl
      refine ⟨weight_le hw, fun A Q E s hd hdp hu hk x => own_of_ref (fun G hi hc => ?_) x⟩
      rw [nextTZ_eq, den_some _ _ _ next_entry]
      exact nextT_ref hi (lim A hdp) args
    · split at h
      · rename_i hid
        cases h
        cases iadd_id hid
        have hw : (Code.builtin "list.__iadd__" args).isCaller = false := rfl
        refine ⟨weight_le hw, fun A Q E s hd hdp hu hk x => own_of_ref (fun G hi hc => ?_) x⟩
        have e : denZ = denote table := funext denZ_eq
        rw [iaddTZ_eq, e]
        exact iaddT_ref args
      · split at h
        · rename_i hid
          cases h
          cases mul_id hid
          have hw : (Code.builtin "int.__mul__" args).isCaller = false := rfl
          exact ⟨weight_le hw, fun A Q E s hd hdp hu hk x => own_of_ref (fun G hi hc => mulT_ref args) x⟩
        · split at h
          · rename_i hid
            cases h
            cases strn_id hid
            have hw : (Code.builtin "str.__new__" args).isCaller = false := rfl
            refine ⟨weight_le hw, fun A Q E s hd hdp hu hk x => own_of_ref (fun G hi hc => ?_) x⟩
            rw [den_some _ _ _ PySem.F.entry_str_new]
            exact strTZ_ref hi (limU A hu) args
          · split at h
            · rename_i b ho
              cases h
              have he := origOf_entry ho
              have hw : (Code.builtin id args).isCaller = false := by
                cases hc : (Code.builtin id args).isCaller with
                | false => rfl
                | true =>
                  exfalso
                  obtain ⟨w, e⟩ := caller_id hc
                  subst e
                  rw [caller_entry] at he
                  cases he
              refine ⟨weight_le hw, fun A Q E s hd hdp hu hk x => own_of_ref (fun G hi hc => ?_) x⟩
              rw [den_some _ _ _ he]
              exact Ref.refl _
            · cases h
  · rename_i body env
    cases h
    refine ⟨weight_le rfl, fun A Q E s hd hdp hu hk x => own_of_ref (fun G hi hc => ?_) x⟩
    rw [func2TZ_eq]
    exact func2T_ref hP hi (lim A hdp) (limU A hu) hc
  all_goals first
    | (cases h; done)
    | (rename_i e depth it acc env
       rw [compTZ_eq] at h
       refine ⟨weight_le rfl, fun A Q E s hd hdp hu hk x => own_of_ref (fun G hi hc => compT_ref h) x⟩)
    | (cases h
       refine ⟨weight_le rfl, fun A Q E s hd hdp hu hk x => own_of_ref (fun G hi hc => ?_) x⟩
       rw [whileTZ_eq]
       exact whileT_ref hi (limU A hu) _ _ _ _)
    | (cases h
       refine ⟨weight_le rfl, fun A Q E s hd hdp hu hk x => own_of_ref (fun G hi hc => ?_) x⟩
       rw [forTZ_eq]
       exact forT_ref hi (limU A hu) _ _ _ _ _)
end
end Sol
namespace Sol
open PySem PySem.Spec PySem.Calls PyProof.Rows PySem.W PySem.W.X
structure Env where
  prog : Program
  w : World
  kt : KT
  b1 : Bool
  b2 : Bool
  b3 : Bool
structure Env.Ok (E : Env) : Prop where
  prog : ProgOk E.prog
  par : normP E.w.params E.b1 E.b2 E.b3 = E.w.params
section
variable {Γ : Type}
noncomputable def Env.cfg (E : Env) (con : Seen Γ → Nat → Option (Con Γ)) (cut : Code → Bool) : Cfg Γ := ⟨E.prog, E.w, normP E.w.params E.b1 E.b2 E.b3, denZ, qtZ, altZ, E.kt, con, cut⟩
structure Gd (Γ : Type) where
  E : Env
  Foot : Γ → Nat → Prop
  I : Γ → Heap → Prop
  os : OsState
  dm : Nat
  um : Nat
noncomputable def Gd.setup (K : Gd Γ) (con : Seen Γ → Nat → Option (Con Γ)) (cut : Code → Bool) (h₀ : Heap) (g₀ : Γ) (A₀ : Around) (R₀ : Result → Shared → Prop) (J₀ : Nat) : Setup Γ :=
  ⟨K.E.cfg con cut, K.Foot, K.I, h₀, g₀, K.os, A₀, R₀, K.dm, K.um, J₀⟩
structure Gd.Lim (K : Gd Γ) : Prop where
  dep : K.dm ≤ 805
  uni : K.um ≤ 9000
structure Gd.Fine (K : Gd Γ) : Prop where
  footIn : ∀ g h b, K.I g h → K.Foot g b → ∃ o, h.get? b = some o
  stable : ∀ g h h', (∀ b o, K.Foot g b → h.get? b = some o → h'.get? b = some o) → K.I g h → K.I g h'
structure Raw (Γ : Type) where
  code : Code
  ads : List Nat
  pre : List Obj
  g : Γ
  res : (Nat → Nat) → Result
  post : (Nat → Nat) → List Obj
  news : (Nat → Nat) → List (Nat × Obj)
  gpost : (Nat → Nat) → Γ
structure RawLeft (K : Gd Γ) (q : Raw Γ) (h : Heap) (x : Nat → Nat) (h' : Heap) (gb' : List GenState) : Prop where
  size : x 0 + 209 = h'.objs.size
  gens : x 2 = gb'.length
  bare : ∀ y ∈ gb', y.bare = true
  post : ∀ (i a : Nat) (o : Obj), q.ads[i]? = some a → (q.post x)[i]? = some o → h'.get? a = some o
  len : (q.post x).length = q.ads.length
  news : ∀ p ∈ q.news x, h'.get? p.1 = some p.2 ∧ h.objs.size ≤ p.1 ∧ ¬ K.Foot (q.gpost x) p.1
  newN : ((q.news x).map (·.1)).Nodup
  gh : K.I (q.gpost x) h'
  foot : ∀ b, K.Foot (q.gpost x) b → K.Foot q.g b ∨ h.objs.size ≤ b
  keep : ∀ b o, h.get? b = some o → ¬ K.Foot q.g b → b ∉ q.ads → h'.get? b = some o
  le : h.objs.size ≤ h'.objs.size
structure RawIn (K : Gd Γ) (q : Raw Γ) (A : Around) (h : Heap) (gb : List GenState) : Prop where
  big : 209 ≤ h.objs.size
  hd : A.handled = none
  dep : A.depth ≤ K.dm + 90
  uni : A.units ≤ K.um + 260
  kt : KtIn K.E.kt h
  ktF : ∀ a o, K.E.kt.get a = some o → ¬ K.Foot q.g a
  rd : ∀ (i a : Nat) (o : Obj), q.ads[i]? = some a → q.pre[i]? = some o → h.get? a = some o
  rdF : ∀ a ∈ q.ads, ¬ K.Foot q.g a ∧ K.E.kt.get a = none
  nodup : q.ads.Nodup
  gh : K.I q.g h
  bare : ∀ y ∈ gb, y.bare = true
noncomputable def RawOk (K : Gd Γ) (q : Raw Γ) : Prop := q.ads.length = q.pre.length ∧ ∀ (A : Around) (h : Heap) (gb : List GenState) (d : Drawn) (t : Nat), RawIn K q A h gb →
  codeAny (model K.E.prog K.E.w) A q.code (fun r s' => ∃ x h' gb' d', s' = ⟨h', ⟨gb'⟩, d', x 1 + 1, K.os⟩ ∧ r = q.res x ∧ RawLeft K q h x h' gb') ⟨h, ⟨gb⟩, d, t + 1, K.os⟩

noncomputable def zip3 : List Nat → List Nat → List Obj → List (Nat × Nat × Obj)
  | i :: is, a :: as, o :: os => (i, a, o) :: zip3 is as os
  | _, _, _ => []
noncomputable def zip2 : List Nat → List Obj → List (Nat × Obj)
  | i :: is, o :: os => (i, o) :: zip2 is os
  | _, _ => []
noncomputable def Raw.con (q : Raw Γ) (ix : List Nat) : Con Γ := ⟨q.code, zip3 ix q.ads q.pre, q.g, q.res, fun x => zip2 ix (q.post x), q.news, q.gpost⟩
theorem mem_zip3 : ∀ {is as : List Nat} {os : List Obj} {n i a : Nat} {o : Obj}, is[n]? = some i → as[n]? = some a → os[n]? = some o → (i, a, o) ∈ zip3 is as os
  | [], _, _, _, _, _, _, h, _, _ => by simp at h
  | _ :: _, [], _, _, _, _, _, _, h, _ => by simp at h
  | _ :: _, _ :: _, [], _, _, _, _, _, _, h => by simp at h
  | i :: is, a :: as, o :: os, 0, _, _, _, h1, h2, h3 => by simp at h1 h2 h3; subst h1 h2 h3; exact .head _
  | i :: is, a :: as, o :: os, n + 1, _, _, _, h1, h2, h3 => .tail _ (mem_zip3 (by simpa using h1) (by simpa using h2) (by simpa using h3))
theorem zip2_mem : ∀ {is : List Nat} {os : List Obj} {p}, p ∈ zip2 is os → ∃ n : Nat, is[n]? = some p.1 ∧ os[n]? = some p.2
  | [], _, _, h => by simp [zip2] at h
  | _ :: _, [], _, h => by simp [zip2] at h
  | i :: is, o :: os, p, h => by
    rcases List.mem_cons.mp h with rfl | h
    · exact ⟨0, rfl, rfl⟩
    · obtain ⟨n, a, b⟩ := zip2_mem h
      exact ⟨n + 1, a, b⟩
theorem zip2_fst : ∀ {is : List Nat} {os : List Obj}, is.length = os.length → (zip2 is os).map (·.1) = is
  | [], [], _ => rfl
  | [], _ :: _, h => nomatch h
  | _ :: _, [], h => nomatch h
  | i :: is, o :: os, h => by
    show i :: (zip2 is os).map (·.1) = _
    rw [zip2_fst (by simpa using h)]
theorem RawOk.con {K : Gd Γ} {q : Raw Γ} (H : RawOk K q) {ix : List Nat} (hi : ix.Nodup) (hl : ix.length = q.ads.length) {con cut h₀ g₀ A₀ R₀ J₀} : ConOk (K.setup con cut h₀ g₀ A₀ R₀ J₀) (q.con ix) := by
  intro A h gb d t big hd dep uni kt ktF rd ne gh bare
  obtain ⟨hl2, H⟩ := H
  have get : ∀ {n a : Nat} {o : Obj}, q.ads[n]? = some a → q.pre[n]? = some o → ∃ i, ix[n]? = some i ∧ (i, a, o) ∈ zip3 ix q.ads q.pre := fun {n a o} h1 h2 => by
    have : n < ix.length := by rw [hl]; exact (List.getElem?_eq_some_iff.mp h1).1
    exact ⟨_, List.getElem?_eq_getElem this, mem_zip3 (List.getElem?_eq_getElem this) h1 h2⟩
  have preOf : ∀ {n a : Nat}, q.ads[n]? = some a → ∃ o, q.pre[n]? = some o := fun {n a} h1 => by
    have : n < q.pre.length := by rw [← hl2]; exact (List.getElem?_eq_some_iff.mp h1).1
    exact ⟨_, List.getElem?_eq_getElem this⟩
  have inn : RawIn K q A h gb := by
    refine ⟨big, hd, dep, uni, kt, ktF, fun n a o h1 h2 => ?_, fun a ha => ?_, ?_, gh, bare⟩
    · obtain ⟨i, _, m⟩ := get h1 h2
      exact (rd _ m).1
    · obtain ⟨n, hn, e⟩ := List.getElem_of_mem ha
      have h1 : q.ads[n]? = some a := by rw [List.getElem?_eq_getElem hn, e]
      obtain ⟨o, h2⟩ := preOf h1
      obtain ⟨i, _, m⟩ := get h1 h2
      exact ⟨(rd _ m).2.1, (rd _ m).2.2⟩
    · rw [List.nodup_iff_pairwise_ne, List.pairwise_iff_getElem]
      intro i j hi' hj' lt e
      obtain ⟨o, ho⟩ := preOf (List.getElem?_eq_getElem hi')
      obtain ⟨o', ho'⟩ := preOf (List.getElem?_eq_getElem hj')
      obtain ⟨x, hx, m⟩ := get (List.getElem?_eq_getElem hi') ho
      obtain ⟨y, hy, m'⟩ := get (List.getElem?_eq_getElem hj') ho'
      refine ne _ m _ m' (fun (z : x = y) => ?_) e
      subst z
      have := nodup_idx hi hx hy
      omega
  refine codeAny_mono (H A h gb d t inn) ?_
  rintro r s' ⟨x, h', gb', d', rfl, er, L⟩
  have ll : ix.length = (q.post x).length := by rw [hl, L.len]
  refine ⟨x, h', gb', d', rfl, er, L.size, L.gens, L.bare, ?_, ?_, L.news, L.newN, L.gh, L.foot, fun b o e nf hn => L.keep b o e nf fun hb => ?_, L.le⟩
  · show ((zip2 ix (q.post x)).map (·.1)).Nodup
    rw [zip2_fst ll]; exact hi
  · intro p hp
    obtain ⟨n, h1, h2⟩ := zip2_mem hp
    have : n < q.ads.length := by rw [← hl]; exact (List.getElem?_eq_some_iff.mp h1).1
    have h3 := List.getElem?_eq_getElem this
    obtain ⟨o, h4⟩ := preOf h3
    exact ⟨(p.1, _, o), mem_zip3 h1 h3 h4, rfl, L.post n _ _ h3 h2⟩
  · obtain ⟨n, hn', e⟩ := List.getElem_of_mem hb
    have h1 : q.ads[n]? = some b := by rw [List.getElem?_eq_getElem hn', e]
    obtain ⟨o, h2⟩ := preOf h1
    obtain ⟨i, hi', m⟩ := get h1 h2
    refine hn _ m ?_ rfl
    show i ∈ (zip2 ix (q.post x)).map (·.1)
    rw [zip2_fst ll]
    exact List.mem_of_getElem? hi'
end
end Sol
namespace Sol
open PySem PySem.Spec PySem.Calls PyProof.Rows PySem.W PySem.W.X
section
variable {Γ : Type}
noncomputable def adL : List Nat → Nat → Nat
  | [], _ => 0
  | a :: l, n => match n with
    | 0 => a
    | n + 1 => adL l n
noncomputable def btL : List Obj → Nat → BT → BT
  | [], _, T => T
  | o :: l, n, T => btL l (n + 1) (T.ins n o)
noncomputable def btOk : List Obj → Nat → BT → Bool
  | [], _, _ => true
  | o :: l, n, T => match (T.ins n o).get n with
    | some _ => btOk l (n + 1) (T.ins n o)
    | none => false
noncomputable def xs0 (N t G : Nat) : Nat → Nat
  | 0 => N
  | 1 => t
  | _ => G
noncomputable def startR (C : Cfg Γ) (n : Nat) (q : Raw Γ) (N t G : Nat) (sk : SkS) (X : XS) (sc : List Nat) : Res Γ :=
  match enter C .base q.code with
  | some tr => go C n q.code none .base tr ⟨adL q.ads, q.ads.length, N, t, G, q.g, [xs0 N t G]⟩ (btL q.pre 0 .nil) 0 0 [] sk X sc []
  | none => .stop 99 0
structure Sm (Γ : Type) where
  r : Result
  ag : Option Code
  olds : List (Option Obj)
  adO : List Nat
  news : List (Option Obj)
  adN : List Nat
  n0 : Nat
  n1 : Nat
  n2 : Nat
  bare : Bool
  g : Γ
noncomputable def bares : List GenState → Bool
  | [] => true
  | y :: l => match y.bare with
    | true => bares l
    | false => false
theorem bares_all : ∀ {l : List GenState}, bares l = true → ∀ y ∈ l, y.bare = true
  | [], _, _, h => nomatch h
  | y :: l, e, z, h => by
    unfold bares at e
    split at e
    · rename_i hy
      rcases List.mem_cons.mp h with rfl | h
      · exact hy
      · exact bares_all e z h
    · cases e
noncomputable def upto : Nat → Nat → List Nat
  | 0, _ => []
  | n + 1, a => a :: upto n (a + 1)
theorem upto_eq : ∀ (n a : Nat), upto n a = List.range' a n
  | 0, _ => rfl
  | n + 1, a => by rw [upto, upto_eq n (a + 1)]; rfl
noncomputable def Out.sm (o : Out Γ) (J : Nat) (js : List Nat) : Sm Γ :=
  ⟨o.r, o.ag, (upto J 0).map o.T.get, (upto J 0).map o.B.addr, js.map o.T.get, js.map o.B.addr, o.B.N + o.m, o.B.t + o.i, o.B.G + o.gl.length, bares o.gl, o.B.g⟩
noncomputable def viewL (r : Res Γ) (J : Nat) (js : List Nat) : Option (List (Ob Γ) × Sm Γ) := match r with
  | .out o => some (o.lg.map Ob.l, o.sm J js)
  | .stop _ _ => none
  | .bad _ => none
noncomputable def viewR (r : Res Γ) (s : Sm Γ) : Option (List (Ob Γ) × Sm Γ) := match r with
  | .out o => some (o.lg.map Ob.r, s)
  | .stop _ _ => some ([], s)
  | .bad _ => some ([], s)
theorem view_out {r : Res Γ} {J js s} (h : viewL r J js = viewR r s) : ∃ o, r = .out o ∧ (∀ x ∈ o.lg, x.ok) ∧ o.sm J js = s := by
  cases r with
  | out o =>
    have e : some (o.lg.map Ob.l, o.sm J js) = some (o.lg.map Ob.r, s) := h
    injection e with e
    injection e with e1 e2
    exact ⟨o, rfl, obs_ok e1, e2⟩
  | stop _ _ => cases (show none = some _ from h)
  | bad _ => cases (show none = some _ from h)
noncomputable def Raw.exp (q : Raw Γ) (x : Nat → Nat) : Sm Γ := ⟨q.res x, none, (q.post x).map some, q.ads, (q.news x).map fun p => some p.2, (q.news x).map (·.1), x 0, x 1, x 2, true, q.gpost x⟩
theorem lts0 {P : Nat → Prop} : ∀ i, i < 0 → P i := fun i h => absurd h (Nat.not_lt_zero i)
theorem ltS {P : Nat → Prop} {n : Nat} (h : ∀ i, i < n → P i) (p : P n) : ∀ i, i < n + 1 → P i := fun i hi => (Nat.lt_or_eq_of_le (Nat.le_of_lt_succ hi)).elim (h i) fun e => e ▸ p
theorem lts1 {P : Nat → Prop} (h0 : P 0) : ∀ i, i < 1 → P i := ltS lts0 h0
theorem lts2 {P : Nat → Prop} (h0 : P 0) (h1 : P 1) : ∀ i, i < 2 → P i := ltS (lts1 h0) h1
theorem lts3 {P : Nat → Prop} (h0 : P 0) (h1 : P 1) (h2 : P 2) : ∀ i, i < 3 → P i := ltS (lts2 h0 h1) h2
theorem lts4 {P : Nat → Prop} (h0 : P 0) (h1 : P 1) (h2 : P 2) (h3 : P 3) : ∀ i, i < 4 → P i := ltS (lts3 h0 h1 h2) h3
theorem lts5 {P : Nat → Prop} (h0 : P 0) (h1 : P 1) (h2 : P 2) (h3 : P 3) (h4 : P 4) : ∀ i, i < 5 → P i := ltS (lts4 h0 h1 h2 h3) h4
theorem lts6 {P : Nat → Prop} (h0 : P 0) (h1 : P 1) (h2 : P 2) (h3 : P 3) (h4 : P 4) (h5 : P 5) : ∀ i, i < 6 → P i := ltS (lts5 h0 h1 h2 h3 h4) h5
theorem lts7 {P : Nat → Prop} (h0 : P 0) (h1 : P 1) (h2 : P 2) (h3 : P 3) (h4 : P 4) (h5 : P 5) (h6 : P 6) : ∀ i, i < 7 → P i := ltS (lts6 h0 h1 h2 h3 h4 h5) h6
theorem lts8 {P : Nat → Prop} (h0 : P 0) (h1 : P 1) (h2 : P 2) (h3 : P 3) (h4 : P 4) (h5 : P 5) (h6 : P 6) (h7 : P 7) : ∀ i, i < 8 → P i := ltS (lts7 h0 h1 h2 h3 h4 h5 h6) h7
theorem lts9 {P : Nat → Prop} (h0 : P 0) (h1 : P 1) (h2 : P 2) (h3 : P 3) (h4 : P 4) (h5 : P 5) (h6 : P 6) (h7 : P 7) (h8 : P 8) : ∀ i, i < 9 → P i := ltS (lts8 h0 h1 h2 h3 h4 h5 h6 h7) h8
theorem lts10 {P : Nat → Prop} (h0 : P 0) (h1 : P 1) (h2 : P 2) (h3 : P 3) (h4 : P 4) (h5 : P 5) (h6 : P 6) (h7 : P 7) (h8 : P 8) (h9 : P 9) : ∀ i, i < 10 → P i := ltS (lts9 h0 h1 h2 h3 h4 h5 h6 h7 h8) h9
theorem lts11 {P : Nat → Prop} (h0 : P 0) (h1 : P 1) (h2 : P 2) (h3 : P 3) (h4 : P 4) (h5 : P 5) (h6 : P 6) (h7 : P 7) (h8 : P 8) (h9 : P 9) (h10 : P 10) : ∀ i, i < 11 → P i := ltS (lts10 h0 h1 h2 h3 h4 h5 h6 h7 h8 h9) h10
theorem lts12 {P : Nat → Prop} (h0 : P 0) (h1 : P 1) (h2 : P 2) (h3 : P 3) (h4 : P 4) (h5 : P 5) (h6 : P 6) (h7 : P 7) (h8 : P 8) (h9 : P 9) (h10 : P 10) (h11 : P 11) : ∀ i, i < 12 → P i := ltS (lts11 h0 h1 h2 h3 h4 h5 h6 h7 h8 h9 h10) h11
theorem lts13 {P : Nat → Prop} (h0 : P 0) (h1 : P 1) (h2 : P 2) (h3 : P 3) (h4 : P 4) (h5 : P 5) (h6 : P 6) (h7 : P 7) (h8 : P 8) (h9 : P 9) (h10 : P 10) (h11 : P 11) (h12 : P 12) : ∀ i, i < 13 → P i := ltS (lts12 h0 h1 h2 h3 h4 h5 h6 h7 h8 h9 h10 h11) h12
theorem lts14 {P : Nat → Prop} (h0 : P 0) (h1 : P 1) (h2 : P 2) (h3 : P 3) (h4 : P 4) (h5 : P 5) (h6 : P 6) (h7 : P 7) (h8 : P 8) (h9 : P 9) (h10 : P 10) (h11 : P 11) (h12 : P 12) (h13 : P 13) : ∀ i, i < 14 → P i := ltS (lts13 h0 h1 h2 h3 h4 h5 h6 h7 h8 h9 h10 h11 h12) h13
theorem lts15 {P : Nat → Prop} (h0 : P 0) (h1 : P 1) (h2 : P 2) (h3 : P 3) (h4 : P 4) (h5 : P 5) (h6 : P 6) (h7 : P 7) (h8 : P 8) (h9 : P 9) (h10 : P 10) (h11 : P 11) (h12 : P 12) (h13 : P 13) (h14 : P 14) : ∀ i, i < 15 → P i := ltS (lts14 h0 h1 h2 h3 h4 h5 h6 h7 h8 h9 h10 h11 h12 h13) h14
noncomputable def RunEq (C : Cfg Γ) (n : Nat) (q : Raw Γ) (sc : List Nat) (xf : XS → Nat → Nat → Nat → Nat → Nat) (js : List Nat) : Prop :=
  ∀ N t G sk X, viewL (startR C n q N t G sk X sc) q.ads.length js = viewR (startR C n q N t G sk X sc) (q.exp (xf X N t G))

noncomputable def RunEqL (C : Cfg Γ) (n : Nat) (q : Raw Γ) (sc : List Nat) (xf : XS → Nat → Nat → Nat → Nat → Nat) (js : List Nat) (N t G : Nat) (sk : SkS) (X : XS) := viewL (startR C n q N t G sk X sc) q.ads.length js
noncomputable def RunEqR (C : Cfg Γ) (n : Nat) (q : Raw Γ) (sc : List Nat) (xf : XS → Nat → Nat → Nat → Nat → Nat) (js : List Nat) (N t G : Nat) (sk : SkS) (X : XS) := viewR (startR C n q N t G sk X sc) (q.exp (xf X N t G))
theorem RunEq.of {C : Cfg Γ} {n : Nat} {q : Raw Γ} {sc : List Nat} {xf : XS → Nat → Nat → Nat → Nat → Nat} {js : List Nat} (h : RunEqL C n q sc xf js = RunEqR C n q sc xf js) : RunEq C n q sc xf js := fun N t G sk X => congrFun (congrFun (congrFun (congrFun (congrFun h N) t) G) sk) X
theorem btL_get : ∀ (l : List Obj) (n : Nat) (T : BT), btOk l n T = true → ∀ j,
    (∀ i o, l[i]? = some o → j = n + i → (btL l n T).get j = some o) ∧ ((j < n ∨ n + l.length ≤ j) → (btL l n T).get j = T.get j)
  | [], n, T, _, j => ⟨fun i p h => by simp at h, fun _ => rfl⟩
  | p :: l, n, T, h, j => by
    unfold btOk at h
    split at h
    · rename_i o e
      have gi := BT.get_ins p T n (by rw [e]; rfl)
      obtain ⟨a, b⟩ := btL_get l (n + 1) (T.ins n p) h j
      refine ⟨fun i q hi e => ?_, fun hj => ?_⟩
      · show (btL l (n + 1) (T.ins n p)).get j = some q
        cases i with
        | zero =>
          simp only [List.getElem?_cons_zero, Option.some.injEq] at hi
          subst hi
          rw [b (.inl (by omega)), gi, if_pos (by omega)]
        | succ i => exact a i q (by simpa using hi) (by omega)
      · show (btL l (n + 1) (T.ins n p)).get j = _
        rw [List.length_cons] at hj
        rw [b (by omega), gi, if_neg (by omega)]
    · cases h
theorem adL_eq : ∀ (l : List Nat) (i a : Nat), l[i]? = some a → adL l i = a
  | [], i, a, h => by simp at h
  | b :: l, 0, a, h => by simp at h; subst h; rfl
  | b :: l, i + 1, a, h => adL_eq l i a (by simpa using h)
noncomputable def Gd.up (K : Gd Γ) : Gd Γ := { K with dm := K.dm + 95, um := K.um + 270 }
theorem bt_nil (j : Nat) : BT.nil.get j = none := by simp [BT.get]
theorem Gd.sOk (K : Gd Γ) (hE : K.E.Ok) (hF : K.Fine) {con cut h₀ g₀ A₀ R₀ J₀} (hdm : K.Lim) (hc : ∀ ps j q, con ps j = some q → ConOk (K.up.setup con cut h₀ g₀ A₀ R₀ J₀) q)
    (hd : A₀.handled = none) (dep : A₀.depth ≤ K.dm + 90) (uni : A₀.units ≤ K.um + 260) : (K.up.setup con cut h₀ g₀ A₀ R₀ J₀).Ok where
  footIn := hF.footIn
  stable := hF.stable
  par := hE.par
  den := denZ_eq
  qt := qtZ_eq
  hd := hd
  dep := by show A₀.depth + 5 ≤ K.dm + 95; omega
  uni := by show A₀.units + 10 ≤ K.um + 270; omega
  con := hc
  alt := fun c t h => altZ_ok (C := K.E.cfg con cut) hE.prog (by show K.dm + 95 ≤ 900; have := hdm.dep; omega) (by show K.um + 270 ≤ 9600; have := hdm.uni; omega) h
theorem RawIn.rep {K : Gd Γ} (hF : K.Fine) {q : Raw Γ} {A h gb} (R : RawIn K q A h gb) (hl : q.ads.length = q.pre.length) (hb : btOk q.pre 0 .nil = true) {N t G : Nat} (hN : h.objs.size = N + 209) {con cut A₀ R₀} :
    Rep (K.up.setup con cut h q.g A₀ R₀ q.ads.length) ⟨adL q.ads, q.ads.length, N, t, G, q.g, [xs0 N t G]⟩ (btL q.pre 0 .nil) 0 h := by
  have gt := btL_get q.pre 0 .nil hb
  have ad : ∀ j a, q.ads[j]? = some a → (⟨adL q.ads, q.ads.length, N, t, G, q.g, [xs0 N t G]⟩ : Base Γ).addr j = a := fun j a e => by
    rw [addr_lt (show j < q.ads.length from (List.getElem?_eq_some_iff.mp e).1)]
    exact adL_eq _ _ _ e
  have some_ : ∀ j, j < q.ads.length → ∃ a o, q.ads[j]? = some a ∧ q.pre[j]? = some o := fun j hj => ⟨_, _, List.getElem?_eq_getElem hj, List.getElem?_eq_getElem (by rw [← hl]; exact hj)⟩
  refine ⟨hN, fun j hj => ?_, fun j o e => ?_, fun i j hi hj e => ?_, fun j hj => ?_, fun j hj => ?_, R.kt, R.ktF, R.gh, fun b o e _ _ => e, fun b f => .inl f, Nat.le_refl _, fun j hj hj' => absurd hj (Nat.not_le_of_lt hj')⟩
  · obtain ⟨a, o, e1, e2⟩ := some_ j hj
    exact ⟨o, (gt j).1 j o e2 (by omega)⟩
  · by_cases hj : j < q.ads.length
    · obtain ⟨a, o', e1, e2⟩ := some_ j hj
      rw [(gt j).1 j o' e2 (by omega)] at e
      cases e
      exact ⟨hj, by rw [ad j a e1]; exact R.rd j a o e1 e2⟩
    · rw [(gt j).2 (.inr (by omega)), bt_nil] at e
      cases e
  · obtain ⟨a, _, e1, _⟩ := some_ i hi
    obtain ⟨a', _, e1', _⟩ := some_ j hj
    rw [ad i a e1, ad j a' e1'] at e
    subst e
    exact nodup_idx R.nodup e1 e1'
  · obtain ⟨a, _, e1, _⟩ := some_ j hj
    rw [ad j a e1]
    exact (R.rdF a (List.mem_of_getElem? e1)).1
  · obtain ⟨a, _, e1, _⟩ := some_ j hj
    rw [ad j a e1]
    exact (R.rdF a (List.mem_of_getElem? e1)).2
theorem Gd.codeRun {K : Gd Γ} (hE : K.E.Ok) (hF : K.Fine) {q : Raw Γ} {A h gb d t} (R : RawIn K q A h gb) (hl : q.ads.length = q.pre.length) (hb : btOk q.pre 0 .nil = true) (hdm : K.Lim)
    {con cut} {P : Result → Shared → Prop} (hc : ∀ ps j c, con ps j = some c → ConOk (K.up.setup con cut h q.g A P q.ads.length) c) {n : Nat} {sc : List Nat}
    (run : ∀ sk X, ∃ o, startR (K.E.cfg con cut) n q (h.objs.size - 209) t gb.length sk X sc = .out o ∧ (∀ x ∈ o.lg, x.ok) ∧ Done (K.up.setup con cut h q.g A P q.ads.length) o) :
    codeAny (model K.E.prog K.E.w) A q.code P ⟨h, ⟨gb⟩, d, t + 1, K.os⟩ := by
  have O := K.sOk hE hF hdm hc R.hd R.dep R.uni
  have hN : h.objs.size = (h.objs.size - 209) + 209 := by have := R.big; omega
  have D := R.rep hF hl hb (t := t) (G := gb.length) hN (con := con) (cut := cut) (A₀ := A) (R₀ := P)
  cases he : enter (K.E.cfg con cut) .base q.code with
  | none =>
    obtain ⟨o, e, _⟩ := run sk0 X0
    unfold startR at e
    rw [he] at e
    cases e
  | some tr =>
    have G : Good (K.up.setup con cut h q.g A P q.ads.length) n q.code none .base tr ⟨adL q.ads, q.ads.length, h.objs.size - 209, t, gb.length, q.g, [xs0 (h.objs.size - 209) t gb.length]⟩ (btL q.pre 0 .nil) 0 0 [] sc [] := fun sk X => by
      obtain ⟨o, e, x⟩ := run sk X
      unfold startR at e
      rw [he] at e
      exact ⟨o, e, x⟩
    have w := G.weight O he
    have kr : KR (K.up.setup con cut h q.g A P q.ads.length) .base := trivial
    have z := sound O n _ _ _ _ _ _ _ _ _ _ _ G ⟨kr, kr.cb O w⟩ h gb d D rfl R.bare
    have z2 := enter_own O he (Nat.le_refl _) kr w (s := At (K.up.setup con cut h q.g A P q.ads.length) gb _ 0 [] d h) D.kt z
    have z3 := y_code _ _ _ _ _ _ z2
    have es : At (K.up.setup con cut h q.g A P q.ads.length) gb ⟨adL q.ads, q.ads.length, h.objs.size - 209, t, gb.length, q.g, [xs0 (h.objs.size - 209) t gb.length]⟩ 0 [] d h = ⟨h, ⟨gb⟩, d, t + 1, K.os⟩ := by
      show (⟨h, ⟨gb ++ []⟩, d, t + 1 + 0, K.os⟩ : Shared) = _
      rw [List.append_nil]
    rw [es] at z3
    exact z3
end
end Sol
namespace Sol
open PySem PySem.Spec PySem.Calls PyProof.Rows PySem.W PySem.W.X
section
variable {Γ : Type}
theorem map_get {α β : Type} {f : α → β} {l : List α} {l' : List β} (h : l.map f = l') {i : Nat} {b : β} (e : l'[i]? = some b) : ∃ a, l[i]? = some a ∧ f a = b := by
  subst h
  rw [List.getElem?_map] at e
  cases h : l[i]? with
  | none => rw [h] at e; cases e
  | some a => rw [h] at e; cases e; exact ⟨a, rfl, rfl⟩
theorem upto_get {J i : Nat} (h : i < J) : (upto J 0)[i]? = some i := by
  rw [upto_eq, List.getElem?_range' h]; simp
noncomputable def jsOk (J : Nat) : List Nat → Bool
  | [] => true
  | j :: l => Nat.ble J j && (!l.contains j) && jsOk J l
theorem jsOk_spec {J : Nat} : ∀ {l : List Nat}, jsOk J l = true → (∀ j ∈ l, J ≤ j) ∧ l.Nodup
  | [], _ => ⟨fun _ h => (nomatch h), List.nodup_nil⟩
  | j :: l, h => by
    rw [jsOk, Bool.and_eq_true, Bool.and_eq_true, Bool.not_eq_true'] at h
    have a := h.1.1
    have b := h.1.2
    have c := h.2
    obtain ⟨x, y⟩ := jsOk_spec c
    refine ⟨fun i hi => ?_, List.nodup_cons.mpr ⟨fun z => ?_, y⟩⟩
    · rcases List.mem_cons.mp hi with rfl | hi
      · exact Nat.le_of_ble_eq_true a
      · exact x i hi
    · rw [List.contains_iff_mem.mpr z] at b; cases b
theorem Rep.left {K : Gd Γ} {q : Raw Γ} {con cut A P} {h h' : Heap} {o : Out Γ} {js : List Nat} {x : Nat → Nat} (hs : o.sm q.ads.length js = q.exp x) (hj : jsOk q.ads.length js = true)
    (D : Rep (K.up.setup con cut h q.g A P q.ads.length) o.B o.T o.m h') {gb : List GenState} (hg : gb.length = o.B.G) (hb : ∀ y ∈ gb, y.bare = true) :
    RawLeft K q h x h' (gb ++ o.gl) := by
  obtain ⟨hge, hnd⟩ := jsOk_spec hj
  unfold Out.sm Raw.exp at hs
  injection hs with s1 s2 s3 s4 s5 s6 s7 s8 s9 s10 s11
  have len : (q.post x).length = q.ads.length := by
    have := congrArg List.length s3
    rw [List.length_map, List.length_map, upto_eq, List.length_range'] at this
    exact this.symm
  have old : ∀ (i a : Nat) (ob : Obj), q.ads[i]? = some a → (q.post x)[i]? = some ob → h'.get? a = some ob ∧ i < o.B.J + o.m ∧ o.B.addr i = a := fun i a ob e1 e2 => by
    have hi := (List.getElem?_eq_some_iff.mp e1).1
    obtain ⟨i', h1, h2⟩ := map_get s3 (i := i) (b := some ob) (by rw [List.getElem?_map, e2]; rfl)
    rw [upto_get hi] at h1
    cases h1
    obtain ⟨i', h1, h3⟩ := map_get s4 (i := i) (b := a) e1
    rw [upto_get hi] at h1
    cases h1
    obtain ⟨z1, z2⟩ := D.own _ _ h2
    exact ⟨h3 ▸ z2, z1, h3⟩
  have new : ∀ (i : Nat) (p : Nat × Obj), (q.news x)[i]? = some p → ∃ j, js[i]? = some j ∧ o.T.get j = some p.2 ∧ o.B.addr j = p.1 := fun i p e => by
    obtain ⟨j, h1, h2⟩ := map_get s5 (i := i) (b := some p.2) (by rw [List.getElem?_map, e]; rfl)
    obtain ⟨j', h1', h2'⟩ := map_get s6 (i := i) (b := p.1) (by rw [List.getElem?_map, e]; rfl)
    rw [h1] at h1'
    cases h1'
    exact ⟨j, h1, h2, h2'⟩
  refine ⟨?_, ?_, fun y hy => ?_, fun i a ob e1 e2 => (old i a ob e1 e2).1, len, fun p hp => ?_, ?_, s11 ▸ D.gh, fun b f => D.ft b (s11 ▸ f), fun b ob e nf hn => ?_, D.le⟩
  · rw [← s7, D.size]; omega
  · rw [← s9, List.length_append, hg]
  · rcases List.mem_append.mp hy with hy | hy
    · exact hb y hy
    · exact bares_all s10 y hy
  · obtain ⟨i, hi, e⟩ := List.getElem_of_mem hp
    obtain ⟨j, h1, h2, h3⟩ := new i p (by rw [List.getElem?_eq_getElem hi, e])
    obtain ⟨z1, z2⟩ := D.own _ _ h2
    rw [← h3, ← s11]
    exact ⟨z2, D.newer j (hge j (List.mem_of_getElem? h1)) z1, D.foot j z1⟩
  · rw [List.nodup_iff_pairwise_ne, List.pairwise_iff_getElem]
    intro i i' hi hi' lt e
    rw [List.length_map] at hi hi'
    obtain ⟨j, h1, h2, h3⟩ := new i _ (List.getElem?_eq_getElem hi)
    obtain ⟨j', h1', h2', h3'⟩ := new i' _ (List.getElem?_eq_getElem hi')
    rw [List.getElem_map, List.getElem_map, ← h3, ← h3'] at e
    have := D.inj j j' (D.own _ _ h2).1 (D.own _ _ h2').1 e
    subst this
    have := nodup_idx hnd h1 h1'
    omega
  · refine D.keep b ob e nf fun j hj z => ?_
    by_cases hjj : j < q.ads.length
    · have e1 := List.getElem?_eq_getElem hjj
      have e2 : (q.post x)[j]? = some ((q.post x)[j]'(by rw [len]; exact hjj)) := List.getElem?_eq_getElem _
      have := (old j _ _ e1 e2).2.2
      exact hn (by rw [← z, this]; exact List.getElem_mem ..)
    · have := D.newer j (by show q.ads.length ≤ j; omega) hj
      rw [z] at this
      exact absurd (Heap.lt_size e) (Nat.not_lt.mpr this)
theorem RunEq.ok {K : Gd Γ} (hE : K.E.Ok) (hF : K.Fine) (hdm : K.Lim) {q : Raw Γ} {con cut}
    (hc : ∀ h A P, ∀ ps j c, con ps j = some c → ConOk (K.up.setup con cut h q.g A P q.ads.length) c) {n : Nat} {sc : List Nat} {xf : XS → Nat → Nat → Nat → Nat → Nat} {js : List Nat}
    (run : RunEq (K.E.cfg con cut) n q sc xf js) (hl : q.ads.length = q.pre.length) (hb : btOk q.pre 0 .nil = true) (hj : jsOk q.ads.length js = true) : RawOk K q := by
  refine ⟨hl, fun A h gb d t R => K.codeRun hE hF R hl hb hdm (hc h A _) (n := n) (sc := sc) fun sk X => ?_⟩
  obtain ⟨o, e, ok, s⟩ := view_out (run (h.objs.size - 209) t gb.length sk X)
  refine ⟨o, e, ok, fun h' gb' d' D hg hb => ?_⟩
  have s' := s
  unfold Out.sm Raw.exp at s'
  injection s' with s1 s2 s3 s4 s5 s6 s7 s8 s9 s10 s11
  rw [s2]
  show _
  refine ⟨xf X (h.objs.size - 209) t gb.length, h', gb' ++ o.gl, d', ?_, s1, D.left s hj hg hb⟩
  rw [← s8, Nat.add_right_comm]
  rfl
end
end Sol
namespace Sol
open PySem PySem.Spec PySem.Calls PyProof.Rows PySem.W PySem.W.X
noncomputable def accO (d : Nat) (ts : List Nat) (ep : Nat) : Obj := { cls := .ref 118, dict := some d, data := .seq (ts.map Value.ref).toArray ep }
noncomputable def iniO (h : Int) (u1 u2 : Nat) : Obj := { cls := .type "dict", data := .dict #[⟨h, .str ⟨#[95, 105, 110, 105, 116, 105, 97, 108, 95, 115, 105, 122, 101]⟩ u1, .int 0 u2⟩] 1 }
noncomputable def cardO (u1 u2 x : Nat) : Obj := { cls := .type "tuple", data := .seq #[.str ⟨#[]⟩ u1, .str ⟨#[x]⟩ u2] }
noncomputable def adsN (ts : Nat → Nat) : Nat → Nat → List Nat
  | 0, _ => []
  | k + 1, i => (ts i + 209) :: adsN ts k (i + 1)
structure Pl where
  p : Nat
  d : Nat
  ep : Nat
  u1 : Nat
  u2 : Nat
  hh : Int
noncomputable def Pl.ads (z : Pl) : List Nat := [z.p + 209, z.d + 209]
noncomputable def Pl.pre (z : Pl) (ts : List Nat) : List Obj := [accO (z.d + 209) ts z.ep, iniO z.hh (z.u1 + 1) (z.u2 + 1)]
noncomputable def noCon {Γ : Type} : Seen Γ → Nat → Option (Con Γ) := fun _ _ => none
noncomputable def noCut : Code → Bool := fun _ => false
noncomputable def ok (v : Value) : Result := .ok (.ret v)
noncomputable def pushQ (z : Pl) (ts : Nat → Nat) (k : Nat) (u v x : Nat) : Raw Unit where
  code := .call (.ref 62) ⟨[.ref (z.p + 209), .str ⟨#[]⟩ (u + 1), .str ⟨#[x]⟩ (v + 1)], []⟩
  ads := z.ads
  pre := z.pre (adsN ts k 0)
  g := ()
  res := fun _ => ok .none
  post := fun y => { z with ep := z.ep + 1 }.pre (adsN ts k 0 ++ [y 3 + 209])
  news := fun y => [(y 3 + 209, cardO (u + 1) (v + 1) x)]
  gpost := fun _ => ()
noncomputable def pushX (_ : XS) (N t G : Nat) : Nat → Nat
  | 0 => N + 2
  | 1 => t + 3
  | 2 => G
  | _ => N + 1
noncomputable def PushRun (E : Env) (k : Nat) : Prop := ∀ z ts u v x, RunEq (E.cfg noCon noCut) 60 (pushQ z ts k u v x) [0, 0, 3, 3, 3, 3, 3, 3, 0, 3, 1, 0, 0, 0, 1, 0, 0, 0, 1, 0, 0, 0, 1, 2, 3, 3, 0, 1, 0, 1, 1, 1] pushX [3]

noncomputable def countQ (z : Pl) (ts : Nat → Nat) (k : Nat) : Raw Unit where
  code := .call (.ref 115) ⟨[.ref (z.p + 209)], []⟩
  ads := z.ads
  pre := z.pre (adsN ts k 0)
  g := ()
  res := fun y => ok (.int k (y 3 + 1))
  post := fun _ => z.pre (adsN ts k 0)
  news := fun _ => []
  gpost := fun _ => ()
noncomputable def countX (_ : XS) (N t G : Nat) : Nat → Nat
  | 0 => N + 3
  | 1 => t + 3
  | 2 => G
  | _ => t + 2
noncomputable def CountRun (E : Env) (k : Nat) : Prop := ∀ z ts, RunEq (E.cfg noCon noCut) 80 (countQ z ts k) [0, 0, 3, 3, 0, 0, 0, 0, 0, 0, 3, 0, 0, 0, 0, 4, 4, 0, 4, 0, 1, 1, 0, 4, 4, 4, 4, 4, 4, 4, 4, 0, 4, 4, 4, 4, 0, 0, 0, 1, 0, 5, 0, 5, 5, 1] countX []
noncomputable def popQ (z : Pl) (ts : Nat → Nat) (k : Nat) : Raw Unit where
  code := .call (.ref 78) ⟨[.ref (z.p + 209)], []⟩
  ads := z.ads
  pre := z.pre (adsN ts (k + 1) 0)
  g := ()
  res := fun _ => ok (.ref (ts k + 209))
  post := fun _ => { z with ep := z.ep + 1 }.pre (adsN ts k 0)
  news := fun _ => []
  gpost := fun _ => ()
noncomputable def popX (_ : XS) (N t G : Nat) : Nat → Nat
  | 0 => N + 6
  | 1 => t + 6
  | 2 => G
  | _ => 0
noncomputable def PopRun (E : Env) (k : Nat) : Prop := ∀ z ts, RunEq (E.cfg noCon noCut) 200 (popQ z ts k) [0, 0, 3, 3, 0, 3, 1, 0, 0, 0, 1, 0, 0, 0, 1, 0, 0, 0, 0, 1, 2, 0, 0, 0, 0, 4, 4, 0, 0, 0, 0, 0, 0, 4, 0, 0, 0, 0, 5, 5, 0, 5, 0, 1, 1, 0, 5, 5, 5, 5, 5, 5, 5, 5, 0, 5, 5, 5, 5, 0, 0, 0, 1, 0, 6, 0, 6, 6, 1, 0, 0, 0, 0, 0, 0, 3, 0, 0, 0, 0, 7, 7, 0, 7, 0, 1, 1, 0, 7, 7, 7, 7, 7, 7, 7, 7, 0, 7, 7, 7, 7, 0, 0, 0, 1, 0, 8, 0, 8, 8, 1, 0, 1, 1, 0, 0, 1, 1, 1, 1] popX []
noncomputable def newZ (y : Nat → Nat) (hh : Int) : Pl := ⟨y 3, y 4, 0, y 5, 304, hh⟩
noncomputable def iniHash (w : World) : Int := PySem.W.ZFast.zw12210062019545310541 (w.params.strHash (⟨#[95, 105, 110, 105, 116, 105, 97, 108, 95, 115, 105, 122, 101]⟩ : PySem.Str).cps)
noncomputable def newQ (hh : Int) : Raw Unit where
  code := .call (.ref 118) ⟨[], []⟩
  ads := []
  pre := []
  g := ()
  res := fun y => ok (.ref (y 3 + 209))
  post := fun _ => []
  news := fun y => [(y 3 + 209, accO (y 4 + 209) [] 0), (y 4 + 209, iniO hh (y 5 + 1) 305)]
  gpost := fun _ => ()
noncomputable def newX (_ : XS) (N t G : Nat) : Nat → Nat
  | 0 => N + 5
  | 1 => t + 5
  | 2 => G
  | 3 => N + 1
  | 4 => N
  | _ => t + 3
noncomputable def NewRun (E : Env) : Prop := RunEq (E.cfg noCon noCut) 160 (newQ (iniHash E.w)) [0, 0, 0, 0, 0, 0, 0, 0, 0, 0, 0, 0, 0, 0, 0, 0, 0, 0, 2, 0, 2, 0, 0, 0, 0, 0, 0, 0, 0, 3, 3, 3, 3, 0, 3, 3, 2, 0, 0, 0, 0, 2, 0, 2, 0, 2, 0, 0, 0, 2, 0, 1, 1, 1, 0, 0, 0, 0, 0, 3, 0, 0, 0, 0, 4, 4, 0, 4, 0, 2, 2, 0, 4, 4, 4, 4, 4, 4, 4, 4, 0, 4, 4, 4, 4, 0, 0, 0, 2, 0, 5, 0, 5, 5, 2, 2, 2, 2] newX [1, 0]
structure Cd where
  ts : Nat → Nat
  u : Nat → Nat
  v : Nat → Nat
  xs : Nat → Nat
noncomputable def Cd.os (c : Cd) : Nat → Nat → List Obj
  | 0, _ => []
  | k + 1, i => cardO (c.u i + 1) (c.v i + 1) (c.xs i) :: c.os k (i + 1)
noncomputable def Cd.txt (c : Cd) : Nat → Nat → List Nat
  | 0, _ => []
  | k + 1, i => c.xs i :: c.txt k (i + 1)
noncomputable def tabO (vs : List Value) : Obj := { cls := .none, data := .fields vs.toArray }
noncomputable def rep4 (L c a : Nat) : List Nat := [L, c, c, c, c, a, a, a, a, a, c, a, a, a, a, a, a, c, a, a, a, a, a, a, c, a, a, a + 2]
noncomputable def tail9 (G L : Nat) (b : Bool) : List Nat := [G, 0, G, G, 0, 0, 0, L, L, L, L] ++ (if b then [] else [L, L, L, L]) ++ [1, L, L]
noncomputable def lenSegs (L F G LI c a : Nat) : Nat → List Nat
  | 0 => []
  | k + 1 => rep4 L c a ++ [F, F, F, F, 0, 0, F, 0, 0, F, LI, LI, LI, LI] ++ tail9 G L true ++ lenSegs L F G LI (c + 1) (a + 3) k
noncomputable def strSegs (L F G LI c a : Nat) : Nat → List Nat
  | 0 => []
  | k + 1 => rep4 L c a ++ [F, F, F, F, 0, F, F, a + 3, a + 3, LI, LI, LI] ++ tail9 G L true ++ strSegs L F G LI (c + 1) (a + 4) k
noncomputable def lenSc (k : Nat) (fst b : Bool) : List Nat :=
  let n := k + 4
  let s := if fst then 3 else 0
  [0, 0, n, n, 0, 0, 0, n, 1, 0, 0, 0, 1, 0, 0, 0, 0, 1, 0, n + 1, 0, 0] ++ (if fst then [3, 3, 3, 3] else [3]) ++ [0, 0, n + 2 + s, n + 2 + s, n, 1, 0, 0, 0, 0, 0, 0, 0, 1, 0, 1, 0, 0, 0, 1, 1, 0, 2, 0, n + 3 + s, n + 3 + s, 0, n + 3 + s, n + 3 + s, n + 4 + s]
    ++ tail9 (n + 3 + s) (n + 1) b ++ lenSegs (n + 1) (n + 2 + s) (n + 3 + s) (n + 4 + s) 4 (n + 5 + s) k ++ [n + 5 + s + 3 * k + 1, n + 5 + s + 3 * k + 3]
noncomputable def strSc (k : Nat) (fst b : Bool) : List Nat :=
  let n := k + 4
  let s := if fst then 3 else 0
  let G := n + 3 + s
  let LI := n + 4 + s
  [0, 0, n, n, 0, 0, n, 1, 0, 0, 0, 1, 0, 0, 0, 0, 1, 0, n + 1, 0, 0] ++ (if fst then [3, 3, 3, 3] else [3]) ++ [0, 0, n + 2 + s, n + 2 + s, 0, G, G, G, 0, G, G, 0, LI, G, G, G, 0, G, G, G, G, LI, LI, LI, LI, LI, LI]
    ++ tail9 G (n + 1) b ++ strSegs (n + 1) (n + 2 + s) G LI 4 (n + 5 + s) k ++ [n + 5 + s + 4 * k + 1, n + 5 + s + 4 * k + 3, LI]
noncomputable def tabOf (l : List Value) : Option Nat → Obj
  | none => tabO []
  | some a => tabO (l ++ [.ref (a + 209)])
noncomputable def tab80 : Option Nat → Obj := tabOf [.int 25 0, .int 19 0]
noncomputable def tab87 : Option Nat → Obj := tabOf [.int 28 0, .int 32 0]
noncomputable def lenQ (z : Pl) (c : Cd) (k : Nat) (T : Option Nat) : Raw Unit where
  code := .call (.ref 85) ⟨[.ref (z.p + 209)], []⟩
  ads := z.ads ++ [80] ++ adsN c.ts k 0
  pre := z.pre (adsN c.ts k 0) ++ [tab80 T] ++ c.os k 0
  g := ()
  res := fun y => ok (.int k (y 3 + 1))
  post := fun y => z.pre (adsN c.ts k 0) ++ [tab80 (some (T.getD (y 4)))] ++ c.os k 0
  news := fun _ => []
  gpost := fun _ => ()
noncomputable def lenX (k : Nat) (T : Option Nat) (_ : XS) (N t G : Nat) : Nat → Nat
  | 0 => N + (match T with | none => 12 + 3 * k | some _ => 9 + 3 * k)
  | 1 => t + (match T with | none => 11 + 8 * k | some _ => 6 + 8 * k)
  | 2 => G + 1
  | 3 => t + (match T with | none => 10 + 8 * k | some _ => 5 + 8 * k)
  | _ => N + 4
noncomputable def LenRun (E : Env) (k : Nat) (T : Option Nat) : Prop := ∀ z c, RunEq (E.cfg noCon noCut) 1450 (lenQ z c k T) (lenSc k T.isNone E.b2) (lenX k T) []
noncomputable def strQ (z : Pl) (c : Cd) (k : Nat) (T : Option Nat) : Raw Unit where
  code := .call (.ref 92) ⟨[.ref (z.p + 209)], []⟩
  ads := z.ads ++ [87] ++ adsN c.ts k 0
  pre := z.pre (adsN c.ts k 0) ++ [tab87 T] ++ c.os k 0
  g := ()
  res := fun y => ok (.str ⟨(c.txt k 0).toArray⟩ (y 3 + 1))
  post := fun y => z.pre (adsN c.ts k 0) ++ [tab87 (some (T.getD (y 4)))] ++ c.os k 0
  news := fun _ => []
  gpost := fun _ => ()
noncomputable def strX (k : Nat) (T : Option Nat) (_ : XS) (N t G : Nat) : Nat → Nat
  | 0 => N + (match T with | none => 12 + 4 * k | some _ => 9 + 4 * k)
  | 1 => t + (match T with | none => (if k = 1 then 12 else 10 + 3 * k) | some _ => (if k = 1 then 7 else 5 + 3 * k))
  | 2 => G + 1
  | 3 => t + (match T with | none => (if k = 1 then 11 else 9 + 3 * k) | some _ => (if k = 1 then 6 else 4 + 3 * k))
  | _ => N + 4
noncomputable def StrRun (E : Env) (k : Nat) (T : Option Nat) : Prop := ∀ z c, RunEq (E.cfg noCon noCut) 1250 (strQ z c k T) (strSc k T.isNone E.b2) (strX k T) []
end Sol
namespace Sol
open PySem PySem.Spec PySem.Calls PyProof.Rows PySem.W PySem.W.X
section
variable {Γ : Type}
noncomputable def Raw.at (q : Raw Unit) (g : Γ) : Raw Γ := ⟨q.code, q.ads, q.pre, g, q.res, q.post, q.news, fun _ => g⟩
noncomputable def Gd.unit (K : Gd Γ) : Gd Unit := ⟨K.E, fun _ _ => False, fun _ _ => True, K.os, K.dm, K.um⟩
theorem Gd.unit_fine (K : Gd Γ) : K.unit.Fine := ⟨fun _ _ _ _ f => False.elim f, fun _ _ _ _ _ => trivial⟩
theorem RawOk.lift {K : Gd Γ} (F : K.Fine) {q : Raw Unit} (H : RawOk K.unit q) (g : Γ) : RawOk K (q.at g) := by
  refine ⟨H.1, fun A h gb d t R => ?_⟩
  have R' : RawIn K.unit q A h gb := ⟨R.big, R.hd, R.dep, R.uni, R.kt, fun _ _ _ f => f, R.rd, fun a ha => ⟨fun f => f, (R.rdF a ha).2⟩, R.nodup, trivial, R.bare⟩
  refine codeAny_mono (H.2 A h gb d t R') ?_
  rintro r s' ⟨x, h', gb', d', rfl, er, L⟩
  have kp : ∀ b o, h.get? b = some o → b ∉ q.ads → h'.get? b = some o := fun b o e hn => L.keep b o e (fun f => f) hn
  refine ⟨x, h', gb', d', rfl, er, L.size, L.gens, L.bare, L.post, L.len, fun p hp => ?_, L.newN, ?_, fun b f => .inl f, fun b o e _ hn => kp b o e hn, L.le⟩
  · obtain ⟨a, b, _⟩ := L.news p hp
    refine ⟨a, b, fun f => ?_⟩
    obtain ⟨o, e⟩ := F.footIn g h p.1 R.gh f
    exact absurd (Heap.lt_size e) (Nat.not_lt.mpr b)
  · exact F.stable g h h' (fun b o f e => kp b o e fun hb => (R.rdF b hb).1 f) R.gh
noncomputable def conL : List (Seen Γ → Con Γ) → Seen Γ → Nat → Option (Con Γ)
  | [], _, _ => none
  | f :: l, ps, j => match j with
    | 0 => some (f ps)
    | j + 1 => conL l ps j
end
section
theorem noCon_ok {Γ : Type} {ps : Seen Γ} {j : Nat} {c : Con Γ} {p : Prop} (h : noCon (Γ := Γ) ps j = some c) : p := nomatch h
variable {K : Gd Unit} (hE : K.E.Ok) (hF : K.Fine) (hdm : K.Lim)
theorem adsN_len (ts : Nat → Nat) : ∀ k i, (adsN ts k i).length = k
  | 0, _ => rfl
  | k + 1, i => by rw [adsN, List.length_cons, adsN_len ts k]
theorem os_len (c : Cd) : ∀ k i, (c.os k i).length = k
  | 0, _ => rfl
  | k + 1, i => by rw [Cd.os, List.length_cons, os_len c k]
include hE hF hdm
theorem push_ok {k : Nat} (R : PushRun K.E k) (z ts u v x) : RawOk K (pushQ z ts k u v x) :=
  (R z ts u v x).ok hE hF hdm (con := noCon) (cut := noCut) (fun _ _ _ _ _ _ h => noCon_ok h) rfl rfl rfl
theorem count_ok {k : Nat} (R : CountRun K.E k) (z ts) : RawOk K (countQ z ts k) :=
  (R z ts).ok hE hF hdm (con := noCon) (cut := noCut) (fun _ _ _ _ _ _ h => noCon_ok h) rfl rfl rfl
theorem pop_ok {k : Nat} (R : PopRun K.E k) (z ts) : RawOk K (popQ z ts k) :=
  (R z ts).ok hE hF hdm (con := noCon) (cut := noCut) (fun _ _ _ _ _ _ h => noCon_ok h) rfl rfl rfl
theorem new_ok (R : NewRun K.E) : RawOk K (newQ (iniHash K.E.w)) :=
  RunEq.ok hE hF hdm (con := noCon) (cut := noCut) (fun _ _ _ _ _ _ h => noCon_ok h) R rfl rfl rfl
end
end Sol
namespace Sol
open PySem PySem.Spec PySem.Calls PyProof.Rows PySem.W PySem.W.X
section
variable {Γ : Type}
noncomputable def xOf (o : Out Γ) (f : Nat → Nat) : Nat → Nat
  | 0 => o.B.N + o.m
  | 1 => o.B.t + o.i
  | 2 => o.B.G + o.gl.length
  | j + 3 => f j
noncomputable def viewF (r : Res Γ) (f : Out Γ → Sm Γ) : Option (List (Ob Γ) × Sm Γ) := match r with
  | .out o => some (o.lg.map Ob.r, f o)
  | .stop _ _ => none
  | .bad _ => none
theorem viewF_out {r : Res Γ} {J js f} (h : viewL r J js = viewF r f) (hn : viewL r J js ≠ none) : ∃ o, r = .out o ∧ (∀ x ∈ o.lg, x.ok) ∧ o.sm J js = f o := by
  cases r with
  | out o =>
    have e : some (o.lg.map Ob.l, o.sm J js) = some (o.lg.map Ob.r, f o) := h
    injection e with e
    injection e with e1 e2
    exact ⟨o, rfl, obs_ok e1, e2⟩
  | stop _ _ => exact absurd rfl hn
  | bad _ => exact absurd rfl hn
noncomputable def isOut (r : Res Γ) : Bool := match r with
  | .out _ => true
  | .stop _ _ => false
  | .bad _ => false
noncomputable def pairL (r : Res Γ) (J : Nat) (js : List Nat) : Bool × Option (List (Ob Γ) × Sm Γ) := (isOut r, viewL r J js)
noncomputable def pairR (r : Res Γ) (f : Out Γ → Sm Γ) : Bool × Option (List (Ob Γ) × Sm Γ) := (true, viewF r f)
noncomputable abbrev XF (Γ : Type) := Out Γ → XS → Nat → Nat → Nat → Nat → Nat
noncomputable def RunQ (C : Cfg Γ) (n : Nat) (q : Raw Γ) (sc : List Nat) (xf : XF Γ) (js : List Nat) : Prop :=
  ∀ N t G sk X, pairL (startR C n q N t G sk X sc) q.ads.length js = pairR (startR C n q N t G sk X sc) (fun o => q.exp (xOf o (xf o X N t G)))
noncomputable def RunQL (C : Cfg Γ) (n : Nat) (q : Raw Γ) (sc : List Nat) (xf : XF Γ) (js : List Nat) (N t G : Nat) (sk : SkS) (X : XS) := pairL (startR C n q N t G sk X sc) q.ads.length js
noncomputable def RunQR (C : Cfg Γ) (n : Nat) (q : Raw Γ) (sc : List Nat) (xf : XF Γ) (js : List Nat) (N t G : Nat) (sk : SkS) (X : XS) := pairR (startR C n q N t G sk X sc) (fun o => q.exp (xOf o (xf o X N t G)))
theorem RunQ.of {C : Cfg Γ} {n : Nat} {q : Raw Γ} {sc : List Nat} {xf : XF Γ} {js : List Nat} (h : RunQL C n q sc xf js = RunQR C n q sc xf js) : RunQ C n q sc xf js := fun N t G sk X => congrFun (congrFun (congrFun (congrFun (congrFun h N) t) G) sk) X
theorem pair_out {r : Res Γ} {J js f} (h : pairL r J js = pairR r f) : ∃ o, r = .out o ∧ (∀ x ∈ o.lg, x.ok) ∧ o.sm J js = f o := by
  unfold pairL pairR at h
  injection h with h1 h2
  refine viewF_out h2 ?_
  cases r with
  | out o => exact fun e => nomatch e
  | stop _ _ => cases h1
  | bad _ => cases h1
theorem RunQ.ok {K : Gd Γ} (hE : K.E.Ok) (hF : K.Fine) (hdm : K.Lim) {q : Raw Γ} {con cut}
    (hc : ∀ h A P, ∀ ps j c, con ps j = some c → ConOk (K.up.setup con cut h q.g A P q.ads.length) c) {n : Nat} {sc : List Nat} {xf : XF Γ} {js : List Nat}
    (run : RunQ (K.E.cfg con cut) n q sc xf js) (hl : q.ads.length = q.pre.length) (hb : btOk q.pre 0 .nil = true) (hj : jsOk q.ads.length js = true) : RawOk K q := by
  refine ⟨hl, fun A h gb d t R => K.codeRun hE hF R hl hb hdm (hc h A _) (n := n) (sc := sc) fun sk X => ?_⟩
  obtain ⟨o, e, ok, s⟩ := pair_out (run (h.objs.size - 209) t gb.length sk X)
  refine ⟨o, e, ok, fun h' gb' d' D hg hb => ?_⟩
  have s' := s
  unfold Out.sm Raw.exp at s'
  injection s' with s1 s2 s3 s4 s5 s6 s7 s8 s9 s10 s11
  rw [s2]
  show _
  refine ⟨xOf o (xf o X (h.objs.size - 209) t gb.length), h', gb' ++ o.gl, d', ?_, s1, D.left s hj hg hb⟩
  rw [← s8, Nat.add_right_comm]
  rfl
end
end Sol
namespace Sol
open PySem PySem.Spec PySem.Calls PyProof.Rows PySem.W PySem.W.X
noncomputable def idX (_ : XS) (N t G : Nat) : Nat → Nat
  | 0 => N
  | 1 => t
  | _ => G
noncomputable def lsO (vs : List Value) (ep : Nat) : Obj := { cls := .type "list", data := .seq vs.toArray ep }
noncomputable def tokV : Value → Nat
  | .int _ t => t
  | .str _ t => t
  | _ => 0
noncomputable def refV : Value → Nat
  | .ref a => a
  | _ => 0
noncomputable def nthE : List DictEntry → Nat → Option DictEntry
  | [], _ => none
  | v :: l, i => match i with
    | 0 => some v
    | i + 1 => nthE l i
noncomputable def esO : Option Obj → List DictEntry
  | none => []
  | some o => match o.data with
    | .dict es _ => es.toList
    | _ => []
noncomputable def epO : Option Obj → Nat
  | none => 0
  | some o => match o.data with
    | .dict _ e => e
    | .seq _ e => e
    | _ => 0
noncomputable def ktO (o : Option Obj) (i : Nat) : Nat := match nthE (esO o) i with
  | some e => tokV e.key - 1
  | none => 0
noncomputable def vtO (o : Option Obj) (i : Nat) : Nat := match nthE (esO o) i with
  | some e => tokV e.val - 1
  | none => 0
noncomputable def vrO (o : Option Obj) (i : Nat) : Nat := match nthE (esO o) i with
  | some e => refV e.val - 209
  | none => 0
section
variable {Γ : Type}
noncomputable def x0 (_ : Out Γ) (_ : XS) (_ _ _ : Nat) (_ : Nat) : Nat := 0
noncomputable def tX (_ : Out Γ) (_ : XS) (_ t _ : Nat) (_ : Nat) : Nat := t
noncomputable def fX (o : Out Γ) (X : XS) (_ _ _ : Nat) (j : Nat) : Nat := match j with
  | 0 => epO (o.T.get 0)
  | j + 1 => match Nat.blt j 10 with
    | true => ktO (o.T.get 0) j
    | false => match Nat.blt j 20 with
      | true => vtO (o.T.get 0) (j - 10)
      | false => match Nat.blt j 30 with
        | true => vrO (o.T.get 0) (j - 20)
        | false => match Nat.blt j 40 with
          | true => epO (o.T.get (j - 30))
          | false => X ((j - 40) / 10) ((j - 40) % 10)
end
end Sol
namespace Sol
open PySem PySem.Spec PySem.Calls PyProof.Rows PySem.W PySem.W.X
section
variable {Γ : Type}
noncomputable def rawK (c : Code) (ads : List Nat) (pre : List Obj) (g : Γ) (r : Result) (ps : List Obj) (nw : List (Nat × Obj)) (g' : Γ) : Raw Γ := ⟨c, ads, pre, g, fun _ => r, fun _ => ps, fun _ => nw, fun _ => g'⟩
noncomputable abbrev Rel (Γ : Type) := Result → List Obj → List (Nat × Obj) → Γ → Prop
noncomputable def RawR (K : Gd Γ) (c : Code) (ads : List Nat) (pre : List Obj) (g : Γ) (Ψ : Rel Γ) : Prop :=
  ads.length = pre.length ∧ ∀ (A : Around) (h : Heap) (gb : List GenState) (d : Drawn) (t : Nat), RawIn K (rawK c ads pre g (.error .none) [] [] g) A h gb →
    codeAny (model K.E.prog K.E.w) A c (fun r s' => ∃ x h' gb' d' ps nw g', s' = ⟨h', ⟨gb'⟩, d', x 1 + 1, K.os⟩ ∧ Ψ r ps nw g' ∧ RawLeft K (rawK c ads pre g r ps nw g') h x h' gb') ⟨h, ⟨gb⟩, d, t + 1, K.os⟩
variable {K : Gd Γ}
theorem RawIn.cast {q q' : Raw Γ} {A h gb} (R : RawIn K q A h gb) (e1 : q'.ads = q.ads) (e2 : q'.pre = q.pre) (e3 : q'.g = q.g) : RawIn K q' A h gb :=
  ⟨R.big, R.hd, R.dep, R.uni, R.kt, e3 ▸ R.ktF, by rw [e1, e2]; exact R.rd, by rw [e1, e3]; exact R.rdF, e1 ▸ R.nodup, e3 ▸ R.gh, R.bare⟩
theorem RawR.mono {c ads pre} {g : Γ} {Ψ Ψ' : Rel Γ} (H : RawR K c ads pre g Ψ) (h : ∀ r ps nw g', Ψ r ps nw g' → Ψ' r ps nw g') : RawR K c ads pre g Ψ' := by
  refine ⟨H.1, fun A h' gb d t R => codeAny_mono (H.2 A h' gb d t R) ?_⟩
  rintro r s' ⟨x, h'', gb', d', ps, nw, g', e, p, L⟩
  exact ⟨x, h'', gb', d', ps, nw, g', e, h _ _ _ _ p, L⟩
theorem RawOk.toR {q : Raw Γ} (H : RawOk K q) : RawR K q.code q.ads q.pre q.g (fun r ps nw g' => ∃ x, r = q.res x ∧ ps = q.post x ∧ nw = q.news x ∧ g' = q.gpost x) := by
  refine ⟨H.1, fun A h gb d t R => codeAny_mono (H.2 A h gb d t (R.cast rfl rfl rfl)) ?_⟩
  rintro r s' ⟨x, h', gb', d', e, er, L⟩
  exact ⟨x, h', gb', d', q.post x, q.news x, q.gpost x, e, ⟨x, er, rfl, rfl, rfl⟩, ⟨L.size, L.gens, L.bare, L.post, L.len, L.news, L.newN, L.gh, L.foot, L.keep, L.le⟩⟩
noncomputable def cons3 (x f : Nat → Nat) : Nat → Nat
  | 0 => x 0
  | 1 => x 1
  | 2 => x 2
  | j + 3 => f j
theorem RawR.toOk {q : Raw Γ} {Ψ : Rel Γ} (H : RawR K q.code q.ads q.pre q.g Ψ)
    (hq : ∀ r ps nw g', Ψ r ps nw g' → ∃ f : Nat → Nat, ∀ y : Nat → Nat, (∀ j, y (j + 3) = f j) → r = q.res y ∧ ps = q.post y ∧ nw = q.news y ∧ g' = q.gpost y) : RawOk K q := by
  refine ⟨H.1, fun A h gb d t R => codeAny_mono (H.2 A h gb d t (R.cast rfl rfl rfl)) ?_⟩
  rintro r s' ⟨x, h', gb', d', ps, nw, g', e, p, L⟩
  obtain ⟨f, hf⟩ := hq r ps nw g' p
  obtain ⟨rfl, rfl, rfl, rfl⟩ := hf (cons3 x f) (fun _ => rfl)
  exact ⟨cons3 x f, h', gb', d', e, rfl, ⟨L.size, L.gens, L.bare, L.post, L.len, L.news, L.newN, L.gh, L.foot, L.keep, L.le⟩⟩
theorem RawLeft.next {q q2 : Raw Γ} {A h gb x h' gb'} (R : RawIn K q A h gb) (L : RawLeft K q h x h' gb') (e1 : q2.ads = q.ads) (e2 : q2.pre = q.post x) (e3 : q2.g = q.gpost x) (hl : q.ads.length = q.pre.length) : RawIn K q2 A h' gb' := by
  have old : ∀ a ∈ q.ads, a < h.objs.size := fun a ha => by
    obtain ⟨n, hn, e⟩ := List.getElem_of_mem ha
    have hn' : n < q.pre.length := by rw [← hl]; exact hn
    exact Heap.lt_size (R.rd n a _ (by rw [List.getElem?_eq_getElem hn, e]) (List.getElem?_eq_getElem hn'))
  have nf : ∀ a ∈ q.ads, ¬ K.Foot (q.gpost x) a := fun a ha f => by
    rcases L.foot a f with y | y
    · exact (R.rdF a ha).1 y
    · exact absurd (old a ha) (Nat.not_lt.mpr y)
  refine ⟨Nat.le_trans R.big L.le, R.hd, R.dep, R.uni, fun a o e => ?_, fun a o e f => ?_, fun i a o h1 h2 => ?_, fun a ha => ?_, e1 ▸ R.nodup, e3 ▸ L.gh, L.bare⟩
  · exact L.keep a o (R.kt a o e) (R.ktF a o e) fun ha => by have := (R.rdF a ha).2; rw [e] at this; cases this
  · rw [e3] at f
    rcases L.foot a f with y | y
    · exact R.ktF a o e y
    · exact absurd (Heap.lt_size (R.kt a o e)) (Nat.not_lt.mpr y)
  · rw [e1] at h1; rw [e2] at h2; exact L.post i a o h1 h2
  · rw [e1] at ha
    exact ⟨e3 ▸ nf a ha, (R.rdF a ha).2⟩
theorem RawLeft.trans {q q2 : Raw Γ} {A h gb x h' gb' x2 h2 gb2} (R : RawIn K q A h gb) (L : RawLeft K q h x h' gb') (L2 : RawLeft K q2 h' x2 h2 gb2) (e1 : q2.ads = q.ads) (e3 : q2.g = q.gpost x)
    {q3 : Raw Γ} (f1 : q3.ads = q.ads) (f2 : q3.g = q.g) (f3 : q3.post x2 = q2.post x2) (f4 : q3.news x2 = q2.news x2) (f5 : q3.gpost x2 = q2.gpost x2) : RawLeft K q3 h x2 h2 gb2 := by
  refine ⟨L2.size, L2.gens, L2.bare, fun i a o h1 h2 => L2.post i a o (by rw [e1, ← f1]; exact h1) (by rw [← f3]; exact h2), by rw [f3, L2.len, e1, f1], fun p hp => ?_, by rw [f4]; exact L2.newN, by rw [f5]; exact L2.gh, fun b f => ?_, fun b o e nf hn => ?_, Nat.le_trans L.le L2.le⟩
  · rw [f4] at hp
    obtain ⟨a, b, c⟩ := L2.news p hp
    exact ⟨a, Nat.le_trans L.le b, by rw [f5]; exact c⟩
  · rw [f5] at f
    rw [f2]
    rcases L2.foot b f with y | y
    · exact L.foot b (e3 ▸ y)
    · exact .inr (Nat.le_trans L.le y)
  · rw [f2] at nf; rw [f1] at hn
    refine L2.keep b o (L.keep b o e nf hn) (fun f => ?_) (by rw [e1]; exact hn)
    rw [e3] at f
    rcases L.foot b f with y | y
    · exact nf y
    · exact absurd (Heap.lt_size e) (Nat.not_lt.mpr y)
noncomputable def RunT (C : Cfg Γ) (n : Nat) (q : Raw Γ) (nxt : (Nat → Nat) → Code) (sc : List Nat) (xf : XF Γ) : Prop :=
  ∀ N t G sk X, pairL (startR C n q N t G sk X sc) q.ads.length [] = pairR (startR C n q N t G sk X sc) (fun o => { q.exp (xOf o (xf o X N t G)) with ag := some (nxt (xOf o (xf o X N t G))) })
noncomputable def RunTL (C : Cfg Γ) (n : Nat) (q : Raw Γ) (nxt : (Nat → Nat) → Code) (sc : List Nat) (xf : XF Γ) (N t G : Nat) (sk : SkS) (X : XS) := pairL (startR C n q N t G sk X sc) q.ads.length []
noncomputable def RunTR (C : Cfg Γ) (n : Nat) (q : Raw Γ) (nxt : (Nat → Nat) → Code) (sc : List Nat) (xf : XF Γ) (N t G : Nat) (sk : SkS) (X : XS) := pairR (startR C n q N t G sk X sc) (fun o => { q.exp (xOf o (xf o X N t G)) with ag := some (nxt (xOf o (xf o X N t G))) })
theorem RunT.of {C : Cfg Γ} {n : Nat} {q : Raw Γ} {nxt : (Nat → Nat) → Code} {sc : List Nat} {xf : XF Γ} (h : RunTL C n q nxt sc xf = RunTR C n q nxt sc xf) : RunT C n q nxt sc xf := fun N t G sk X => congrFun (congrFun (congrFun (congrFun (congrFun h N) t) G) sk) X
theorem RunT.turn (hE : K.E.Ok) (hF : K.Fine) (hdm : K.Lim) {q : Raw Γ} {con cut}
    (hc : ∀ h A P, ∀ ps j c, con ps j = some c → ConOk (K.up.setup con cut h q.g A P q.ads.length) c) {n : Nat} {nxt : (Nat → Nat) → Code} {sc : List Nat} {xf : XF Γ}
    (run : RunT (K.E.cfg con cut) n q nxt sc xf) (hl : q.ads.length = q.pre.length) (hb : btOk q.pre 0 .nil = true) (hn : ∀ x, q.news x = []) {Ψ : Rel Γ}
    (rest : ∀ x, RawR K (nxt x) q.ads (q.post x) (q.gpost x) Ψ) : RawR K q.code q.ads q.pre q.g Ψ := by
  refine ⟨hl, fun A h gb d t R => ?_⟩
  have R' : RawIn K q A h gb := R.cast rfl rfl rfl
  refine K.codeRun hE hF R' hl hb hdm (hc h A _) (n := n) (sc := sc) fun sk X => ?_
  obtain ⟨o, e, ok, s⟩ := pair_out (run (h.objs.size - 209) t gb.length sk X)
  refine ⟨o, e, ok, fun h' gb' d' D hg hb => ?_⟩
  have s' := s
  unfold Out.sm Raw.exp at s'
  injection s' with s1 s2 s3 s4 s5 s6 s7 s8 s9 s10 s11
  have hx : xOf o (xf o X (h.objs.size - 209) t gb.length) = xOf o (xf o X (h.objs.size - 209) t gb.length) := rfl
  generalize xOf o (xf o X (h.objs.size - 209) t gb.length) = x at *
  have hs : ({ o with ag := none } : Out Γ).sm q.ads.length [] = q.exp x := by
    unfold Out.sm Raw.exp
    rw [s1, s3, s4, s5, s6, s7, s8, s9, s10, s11]
  have L : RawLeft K q h x h' (gb' ++ o.gl) := Rep.left hs rfl D hg hb
  rw [s2]
  show codeAny (model K.E.prog K.E.w) A (nxt x) _ _
  have R2 : RawIn K (rawK (nxt x) q.ads (q.post x) (q.gpost x) (.error .none) [] [] (q.gpost x)) A h' (gb' ++ o.gl) := L.next R' rfl rfl rfl hl
  have w := (rest x).2 A h' (gb' ++ o.gl) d' (o.B.t + o.i) R2
  rw [show o.B.t + 1 + o.i = o.B.t + o.i + 1 by omega]
  refine codeAny_mono w ?_
  rintro r s' ⟨x2, h2, gb2, d2, ps, nw, g', e', p, L2⟩
  exact ⟨x2, h2, gb2, d2, ps, nw, g', e', p, L.trans R' L2 rfl rfl rfl rfl rfl rfl rfl⟩
noncomputable def CG (K : Gd Γ) (c : Con Γ) : Prop := ∃ q ix, c = Raw.con q ix ∧ RawOk K q ∧ ix.Nodup ∧ ix.length = q.ads.length
noncomputable def AllCon (K : Gd Γ) : List (Seen Γ → Con Γ) → Prop
  | [] => True
  | f :: l => (∀ s, CG K (f s)) ∧ AllCon K l
theorem RawOk.cg {q : Raw Γ} (H : RawOk K q) (ix : List Nat) (h1 : ix.Nodup := by decide) (h2 : ix.length = q.ads.length := by rfl) : CG K (q.con ix) := ⟨q, ix, rfl, H, h1, h2⟩
theorem AllCon.ok : ∀ {l : List (Seen Γ → Con Γ)}, AllCon K l → ∀ {ps j c}, conL l ps j = some c → CG K c
  | [], _, _, _, _, h => nomatch h
  | f :: l, H, ps, 0, c, h => by
    injection h with h
    exact h ▸ H.1 ps
  | f :: l, H, ps, j + 1, c, h => AllCon.ok (l := l) H.2 (ps := ps) (j := j) h
theorem AllCon.con {l : List (Seen Γ → Con Γ)} (H : AllCon K l) {con cut h₀ g₀ A₀ R₀ J₀} : ∀ ps j c, conL l ps j = some c → ConOk (K.setup con cut h₀ g₀ A₀ R₀ J₀) c := fun ps j c h => by
  obtain ⟨q, ix, rfl, ok, h1, h2⟩ := H.ok h
  exact ok.con h1 h2
theorem Gd.up_fine (hF : K.Fine) : K.up.Fine := ⟨hF.footIn, hF.stable⟩
theorem Gd.up_lim (h : K.up.Lim) : K.Lim := ⟨by have : K.dm + 95 ≤ 805 := h.dep; omega, by have : K.um + 270 ≤ 9000 := h.uni; omega⟩
theorem RunQ.okC (hE : K.E.Ok) (hF : K.Fine) (hdm : K.Lim) {q : Raw Γ} {cut} {l : List (Seen Γ → Con Γ)} {n : Nat} {sc : List Nat} {xf : XF Γ} {js : List Nat}
    (run : RunQ (K.E.cfg (conL l) cut) n q sc xf js) (H : AllCon K.up l) (hl : q.ads.length = q.pre.length := by rfl) (hb : btOk q.pre 0 .nil = true := by rfl) (hj : jsOk q.ads.length js = true := by rfl) : RawOk K q :=
  run.ok hE hF hdm (fun _ _ _ ps j c h => H.con ps j c h) hl hb hj
theorem RunT.turnC (hE : K.E.Ok) (hF : K.Fine) (hdm : K.Lim) {q : Raw Γ} {cut} {l : List (Seen Γ → Con Γ)} {n : Nat} {nxt : (Nat → Nat) → Code} {sc : List Nat} {xf : XF Γ}
    (run : RunT (K.E.cfg (conL l) cut) n q nxt sc xf) (H : AllCon K.up l) {Ψ : Rel Γ} (rest : ∀ x, RawR K (nxt x) q.ads (q.post x) (q.gpost x) Ψ)
    (hl : q.ads.length = q.pre.length := by rfl) (hb : btOk q.pre 0 .nil = true := by rfl) (hn : ∀ x, q.news x = [] := by exact fun _ => rfl) : RawR K q.code q.ads q.pre q.g Ψ :=
  run.turn hE hF hdm (fun _ _ _ ps j c h => H.con ps j c h) hl hb hn rest
end
noncomputable def dI (n : Nat) : Int := match n % 2 with
  | 0 => .ofNat (n / 2)
  | _ => .negSucc (n / 2)
noncomputable def eI : Int → Nat
  | .ofNat n => 2 * n
  | .negSucc n => 2 * n + 1
theorem dI_eI (a : Int) : dI (eI a) = a := by
  cases a with
  | ofNat n => unfold dI eI; simp
  | negSucc n => unfold dI eI; have : (2 * n + 1) % 2 = 1 := by omega
                 rw [this]; simp; omega
end Sol
namespace Sol
open PySem PySem.Spec PySem.Calls PyProof.Rows PySem.W PySem.W.X
noncomputable def argsOf : Code → List Value
  | .call _ as => as.pos
  | .builtin _ as => as.pos
  | _ => []
noncomputable def nthV : List Value → Nat → Value
  | [], _ => .none
  | v :: l, i => match i with
    | 0 => v
    | i + 1 => nthV l i
noncomputable def tkA (c : Code) (i : Nat) : Nat := tokV (nthV (argsOf c) i)
noncomputable def rfA (c : Code) (i : Nat) : Nat := refV (nthV (argsOf c) i) - 209
noncomputable def iv (p : Int × Nat) : Value := .int p.1 (p.2 + 1)
noncomputable def lsI (L : List (Int × Nat)) (ep : Nat) : Obj := lsO (L.map iv) ep
theorem list_upto {α : Type} (d : α) (L : List α) : (upto L.length 0).map (fun j => L.getD j d) = L := by
  rw [upto_eq]
  refine List.ext_getElem (by simp) fun i h1 h2 => ?_
  simp
  rw [List.getElem?_eq_getElem h2]; rfl
section
variable {E : Env}
noncomputable def cmpQ (id : String) (a b : Int) (t u : Nat) (r : Bool) : Raw Unit where
  code := .call (.builtin id) ⟨[.int a t, .int b u], []⟩
  ads := []
  pre := []
  g := ()
  res := fun _ => ok (.bool r)
  post := fun _ => []
  news := fun _ => []
  gpost := fun _ => ()
theorem lt_run (a b : Int) (t u : Nat) : RunEq (E.cfg noCon noCut) 30 (cmpQ "int.__lt__" a b t u (@decide (a < b) (PySem.W.Z.ltZ a b))) [] idX [] := by
  intro N t G sk X; kernel_rfl
theorem gt_run (a b : Int) (t u : Nat) : RunEq (E.cfg noCon noCut) 30 (cmpQ "int.__gt__" a b t u (@decide (b < a) (PySem.W.Z.ltZ b a))) [] idX [] := by
  intro N t G sk X; kernel_rfl
theorem le_run (a b : Int) (t u : Nat) : RunEq (E.cfg noCon noCut) 30 (cmpQ "int.__le__" a b t u (@decide (a ≤ b) (PySem.W.Z.leZ a b))) [] idX [] := by
  intro N t G sk X; kernel_rfl
variable {K : Gd Unit} (hE : K.E.Ok) (hF : K.Fine) (hdm : K.Lim)
include hE hF hdm
theorem lt_ok2 {a b : Int} {t u : Nat} {r : Bool} (h : decide (a < b) = r) : RawOk K (cmpQ "int.__lt__" a b t u r) := by
  have e : @decide (a < b) (PySem.W.Z.ltZ a b) = r := by rw [← h]; congr
  subst e
  exact (lt_run a b t u).ok hE hF hdm (con := noCon) (cut := noCut) (fun _ _ _ _ _ _ h => noCon_ok h) rfl rfl rfl
theorem gt_ok2 {a b : Int} {t u : Nat} {r : Bool} (h : decide (b < a) = r) : RawOk K (cmpQ "int.__gt__" a b t u r) := by
  have e : @decide (b < a) (PySem.W.Z.ltZ b a) = r := by rw [← h]; congr
  subst e
  exact (gt_run a b t u).ok hE hF hdm (con := noCon) (cut := noCut) (fun _ _ _ _ _ _ h => noCon_ok h) rfl rfl rfl
theorem le_ok2 {a b : Int} {t u : Nat} {r : Bool} (h : decide (a ≤ b) = r) : RawOk K (cmpQ "int.__le__" a b t u r) := by
  have e : @decide (a ≤ b) (PySem.W.Z.leZ a b) = r := by rw [← h]; congr
  subst e
  exact (le_run a b t u).ok hE hF hdm (con := noCon) (cut := noCut) (fun _ _ _ _ _ _ h => noCon_ok h) rfl rfl rfl
end
section
variable {E : Env}
noncomputable def rshQ (a : Int) (t u : Nat) (r : Int) : Raw Unit where
  code := .call (.builtin "int.__rshift__") ⟨[.int a t, .int 1 u], []⟩
  ads := []
  pre := []
  g := ()
  res := fun y => ok (.int r (y 3 + 1))
  post := fun _ => []
  news := fun _ => []
  gpost := fun _ => ()
noncomputable def rsh_runP (E : Sol.Env) (k : Nat) : Prop := ∀ (t u : Nat), RunQ (E.cfg noCon noCut) 30 (rshQ k t u (k / 2 : Nat)) [] tX []
theorem rsh_run (k t u : Nat) (h : k < 13) : RunQ (E.cfg noCon noCut) 30 (rshQ k t u (k / 2 : Nat)) [] tX [] := by
  refine lts13 (P := rsh_runP E) ?_ ?_ ?_ ?_ ?_ ?_ ?_ ?_ ?_ ?_ ?_ ?_ ?_ k h t u <;> (intro t u ; exact RunQ.of (by kernel_rfl))
noncomputable def getQ (h ep : Nat) (L : List (Int × Nat)) (a : Int) (t : Nat) (p : Int × Nat) : Raw Unit where
  code := .call (.builtin "list.__getitem__") ⟨[.ref (h + 209), .int a t], []⟩
  ads := [h + 209]
  pre := [lsI L ep]
  g := ()
  res := fun _ => ok (iv p)
  post := fun _ => [lsI L ep]
  news := fun _ => []
  gpost := fun _ => ()
noncomputable def setQ (h ep : Nat) (L : List (Int × Nat)) (a : Int) (t : Nat) (p : Int × Nat) (i : Nat) : Raw Unit where
  code := .call (.builtin "list.__setitem__") ⟨[.ref (h + 209), .int a t, iv p], []⟩
  ads := [h + 209]
  pre := [lsI L ep]
  g := ()
  res := fun _ => ok .none
  post := fun _ => [lsI (L.set i p) ep]
  news := fun _ => []
  gpost := fun _ => ()
noncomputable def get_runP (E : Sol.Env) (n i : Nat) : Prop := ∀ h ep f t, RunQ (E.cfg noCon noCut) 20 (getQ h ep ((upto n 0).map f) i t (f i)) [1, 1] x0 []
theorem get_run (n i : Nat) (hn : n < 12) (hi : i < n) : ∀ h ep f t, RunQ (E.cfg noCon noCut) 20 (getQ h ep ((upto n 0).map f) i t (f i)) [1, 1] x0 [] := by
  refine lts12 (P := fun n => ∀ i, i < n → get_runP E n i) lts0 (lts1 ?_) (lts2 ?_ ?_) (lts3 ?_ ?_ ?_) (lts4 ?_ ?_ ?_ ?_) (lts5 ?_ ?_ ?_ ?_ ?_) (lts6 ?_ ?_ ?_ ?_ ?_ ?_) (lts7 ?_ ?_ ?_ ?_ ?_ ?_ ?_) (lts8 ?_ ?_ ?_ ?_ ?_ ?_ ?_ ?_) (lts9 ?_ ?_ ?_ ?_ ?_ ?_ ?_ ?_ ?_) (lts10 ?_ ?_ ?_ ?_ ?_ ?_ ?_ ?_ ?_ ?_) (lts11 ?_ ?_ ?_ ?_ ?_ ?_ ?_ ?_ ?_ ?_ ?_) n hn i hi <;> (intro h ep f t; exact RunQ.of (by kernel_rfl))
noncomputable def set_runP (E : Sol.Env) (n i : Nat) : Prop := ∀ h ep f t p, RunQ (E.cfg noCon noCut) 20 (setQ h ep ((upto n 0).map f) i t p i) [1, 1, 1, 1] x0 []
theorem set_run (n i : Nat) (hn : n < 12) (hi : i < n) : ∀ h ep f t p, RunQ (E.cfg noCon noCut) 20 (setQ h ep ((upto n 0).map f) i t p i) [1, 1, 1, 1] x0 [] := by
  refine lts12 (P := fun n => ∀ i, i < n → set_runP E n i) lts0 (lts1 ?_) (lts2 ?_ ?_) (lts3 ?_ ?_ ?_) (lts4 ?_ ?_ ?_ ?_) (lts5 ?_ ?_ ?_ ?_ ?_) (lts6 ?_ ?_ ?_ ?_ ?_ ?_) (lts7 ?_ ?_ ?_ ?_ ?_ ?_ ?_) (lts8 ?_ ?_ ?_ ?_ ?_ ?_ ?_ ?_) (lts9 ?_ ?_ ?_ ?_ ?_ ?_ ?_ ?_ ?_) (lts10 ?_ ?_ ?_ ?_ ?_ ?_ ?_ ?_ ?_ ?_) (lts11 ?_ ?_ ?_ ?_ ?_ ?_ ?_ ?_ ?_ ?_ ?_) n hn i hi <;> (intro h ep f t p; exact RunQ.of (by kernel_rfl))
noncomputable def llenQ (id : String) (h ep : Nat) (vs : List Value) : Raw Unit where
  code := .call (.builtin id) ⟨[.ref (h + 209)], []⟩
  ads := [h + 209]
  pre := [lsO vs ep]
  g := ()
  res := fun y => ok (.int vs.length (y 3 + 1))
  post := fun _ => [lsO vs ep]
  news := fun _ => []
  gpost := fun _ => ()
theorem llen_run (h ep : Nat) (vs : List Value) : RunQ (E.cfg noCon noCut) 20 (llenQ "list.__len__" h ep vs) [1, 1] tX [] := by
  intro N t G sk X; kernel_rfl
noncomputable def len_runP (E : Sol.Env) (n : Nat) : Prop := ∀ h ep f, RunQ (E.cfg noCon noCut) 20 (llenQ "len" h ep ((upto n 0).map f)) [1, 0, 1, 1] (fun _ _ _ t _ _ => t + 1) []
theorem len_run (n : Nat) (hn : n < 14) : ∀ h ep f, RunQ (E.cfg noCon noCut) 20 (llenQ "len" h ep ((upto n 0).map f)) [1, 0, 1, 1] (fun _ _ _ t _ _ => t + 1) [] := by
  refine lts14 (P := len_runP E) ?_ ?_ ?_ ?_ ?_ ?_ ?_ ?_ ?_ ?_ ?_ ?_ ?_ ?_ n hn <;> (intro h ep f; exact RunQ.of (by kernel_rfl))
noncomputable def lpopQ (h ep : Nat) (L : List (Int × Nat)) (p : Int × Nat) : Raw Unit where
  code := .call (.builtin "list.pop") ⟨[.ref (h + 209)], []⟩
  ads := [h + 209]
  pre := [lsI (L ++ [p]) ep]
  g := ()
  res := fun _ => ok (iv p)
  post := fun _ => [lsI L (ep + 1)]
  news := fun _ => []
  gpost := fun _ => ()
noncomputable def lpop_runP (E : Sol.Env) (n : Nat) : Prop := ∀ h ep f p, RunQ (E.cfg noCon noCut) 20 (lpopQ h ep ((upto n 0).map f) p) [1, 1, 1, 1, 1] x0 []
theorem lpop_run (n : Nat) (hn : n < 11) : ∀ h ep f p, RunQ (E.cfg noCon noCut) 20 (lpopQ h ep ((upto n 0).map f) p) [1, 1, 1, 1, 1] x0 [] := by
  refine lts11 (P := lpop_runP E) ?_ ?_ ?_ ?_ ?_ ?_ ?_ ?_ ?_ ?_ ?_ n hn <;> (intro h ep f p; exact RunQ.of (by kernel_rfl))
noncomputable def appQ (h ep : Nat) (vs : List Value) (v : Value) : Raw Unit where
  code := .call (.builtin "list.append") ⟨[.ref (h + 209), v], []⟩
  ads := [h + 209]
  pre := [lsO vs ep]
  g := ()
  res := fun _ => ok .none
  post := fun _ => [lsO (vs ++ [v]) (ep + 1)]
  news := fun _ => []
  gpost := fun _ => ()
noncomputable def app_runP (E : Sol.Env) (n : Nat) : Prop := ∀ h ep f v, RunQ (E.cfg noCon noCut) 20 (appQ h ep ((upto n 0).map f) v) [1, 1, 1, 1] x0 []
theorem app_run (n : Nat) (hn : n < 14) : ∀ h ep f v, RunQ (E.cfg noCon noCut) 20 (appQ h ep ((upto n 0).map f) v) [1, 1, 1, 1] x0 [] := by
  refine lts14 (P := app_runP E) ?_ ?_ ?_ ?_ ?_ ?_ ?_ ?_ ?_ ?_ ?_ ?_ ?_ ?_ n hn <;> (intro h ep f p; exact RunQ.of (by kernel_rfl))
noncomputable def neNilQ (h ep e ep2 : Nat) (L : List (Int × Nat)) (r : Bool) : Raw Unit where
  code := .call (.builtin "list.__ne__") ⟨[.ref (h + 209), .ref (e + 209)], []⟩
  ads := [h + 209, e + 209]
  pre := [lsI L ep, lsO [] ep2]
  g := ()
  res := fun _ => ok (.bool r)
  post := fun _ => [lsI L ep, lsO [] ep2]
  news := fun _ => []
  gpost := fun _ => ()
theorem neNil_run0 (h ep e ep2 : Nat) : RunQ (E.cfg noCon noCut) 20 (neNilQ h ep e ep2 [] false) [1, 2, 1, 2, 1, 2, 1, 2] x0 [] := by
  intro N t G sk X; kernel_rfl
theorem neNil_run1 (h ep e ep2 : Nat) (p : Int × Nat) (L : List (Int × Nat)) : RunQ (E.cfg noCon noCut) 20 (neNilQ h ep e ep2 (p :: L) true) [1, 2, 1, 2] x0 [] := by
  intro N t G sk X; kernel_rfl
noncomputable def letQ (a : Int) (t u : Nat) (i : Nat) : Raw Unit where
  code := .call (.builtin "str.__getitem__") ⟨[.str ⟨#[97, 98, 99, 100, 101, 102, 103, 104, 105, 106, 107]⟩ u, .int a t], []⟩
  ads := []
  pre := []
  g := ()
  res := fun y => ok (.str ⟨#[97 + i]⟩ (y 3 + 1))
  post := fun _ => []
  news := fun _ => []
  gpost := fun _ => ()
noncomputable def let_runP (E : Sol.Env) (i : Nat) : Prop := ∀ (t u : Nat), RunQ (E.cfg noCon noCut) 20 (letQ i t u i) [] tX []
theorem let_run (i t u : Nat) (h : i < 11) : RunQ (E.cfg noCon noCut) 20 (letQ i t u i) [] tX [] := by
  refine lts11 (P := let_runP E) ?_ ?_ ?_ ?_ ?_ ?_ ?_ ?_ ?_ ?_ ?_ i h t u <;> (intro t u ; exact RunQ.of (by kernel_rfl))
end
section
variable {K : Gd Unit} (hE : K.E.Ok) (hF : K.Fine) (hdm : K.Lim)
include hE hF hdm
theorem RunQ.ok0 {n : Nat} {q : Raw Unit} {sc xf js} (run : RunQ (K.E.cfg noCon noCut) n q sc xf js) (hl : q.ads.length = q.pre.length := by rfl) (hb : btOk q.pre 0 .nil = true := by rfl) (hj : jsOk q.ads.length js = true := by rfl) : RawOk K q :=
  run.ok hE hF hdm (con := noCon) (cut := noCut) (fun _ _ _ _ _ _ h => noCon_ok h) hl hb hj
theorem rsh_ok {a : Int} {t u k : Nat} {r : Int} (ha : a = k) (h : k < 13) (hr : r = (k / 2 : Nat)) : RawOk K (rshQ a t u r) := by
  subst ha hr; exact RunQ.ok0 hE hF hdm (rsh_run k t u h)
theorem get_ok {h ep : Nat} {L : List (Int × Nat)} {a : Int} {t i : Nat} {p : Int × Nat} (ha : a = i) (hp : L[i]? = some p) (hL : L.length < 12) : RawOk K (getQ h ep L a t p) := by
  subst ha
  obtain ⟨hi, rfl⟩ := List.getElem?_eq_some_iff.mp hp
  have := RunQ.ok0 hE hF hdm (get_run L.length i hL hi h ep (fun j => L.getD j (0, 0)) t)
  rw [list_upto] at this
  have e : L.getD i (0, 0) = L[i] := by simp [List.getD, List.getElem?_eq_getElem hi]
  rw [e] at this
  exact this
theorem set_ok {h ep : Nat} {L : List (Int × Nat)} {a : Int} {t i : Nat} {p : Int × Nat} (ha : a = i) (hi : i < L.length) (hL : L.length < 12) : RawOk K (setQ h ep L a t p i) := by
  subst ha
  have := RunQ.ok0 hE hF hdm (set_run L.length i hL hi h ep (fun j => L.getD j (0, 0)) t p)
  rw [list_upto] at this
  exact this
theorem llen_ok {h ep : Nat} {vs : List Value} : RawOk K (llenQ "list.__len__" h ep vs) := RunQ.ok0 hE hF hdm (llen_run h ep vs)
theorem len_okW {h ep : Nat} {vs : List Value} (hL : vs.length < 14) : RawOk K (llenQ "len" h ep vs) := by
  have := RunQ.ok0 hE hF hdm (len_run vs.length hL h ep (fun j => vs.getD j .none))
  rw [list_upto] at this
  exact this
theorem len_okB {h ep : Nat} {vs : List Value} (hL : vs.length < 12) : RawOk K (llenQ "len" h ep vs) := len_okW hE hF hdm (Nat.lt_of_lt_of_le hL (by decide))
theorem lpop_ok {h ep : Nat} {L : List (Int × Nat)} {p : Int × Nat} (hL : L.length < 11) : RawOk K (lpopQ h ep L p) := by
  have := RunQ.ok0 hE hF hdm (lpop_run L.length hL h ep (fun j => L.getD j (0, 0)) p)
  rw [list_upto] at this
  exact this
theorem app_okW {h ep : Nat} {vs : List Value} {v : Value} (hL : vs.length < 14) : RawOk K (appQ h ep vs v) := by
  have := RunQ.ok0 hE hF hdm (app_run vs.length hL h ep (fun j => vs.getD j .none) v)
  rw [list_upto] at this
  exact this
theorem app_ok {h ep : Nat} {vs : List Value} {v : Value} (hL : vs.length < 12) : RawOk K (appQ h ep vs v) := app_okW hE hF hdm (Nat.lt_of_lt_of_le hL (by decide))
theorem neNil_ok {h ep e ep2 : Nat} {L : List (Int × Nat)} {r : Bool} (hr : r = !L.isEmpty) : RawOk K (neNilQ h ep e ep2 L r) := by
  subst hr
  cases L with
  | nil => exact RunQ.ok0 hE hF hdm (neNil_run0 h ep e ep2)
  | cons p L => exact RunQ.ok0 hE hF hdm (neNil_run1 h ep e ep2 p L)
theorem let_ok {a : Int} {t u i : Nat} (ha : a = i) (h : i < 11) : RawOk K (letQ a t u i) := by
  subst ha; exact RunQ.ok0 hE hF hdm (let_run i t u h)
end
end Sol
namespace Sol
open PySem PySem.Spec PySem.Calls PyProof.Rows PySem.W PySem.W.X
noncomputable def fdOf (E : Sol.Env) (a : Nat) : FuncData := match E.kt.get a with
  | some o => match o.data with
    | .func fd => fd
    | _ => default
  | none => default
noncomputable def bodyOf (fd : FuncData) : List Stmt := match fd.body with
  | .stmts b => b
  | .expr _ => []
noncomputable def nthSt : List Stmt → Nat → Stmt
  | [], _ => .Pass default
  | s :: l, i => match i with
    | 0 => s
    | i + 1 => nthSt l i
noncomputable def whileC (s : Stmt) (env : PySem.Env) : Code := match s with
  | .While t b o _ => .whileLoop t b o env
  | _ => .block [] env
noncomputable def envF (fd : FuncData) (self fr : Nat) : PySem.Env := { scope := fd.scope, locals := fr, globals := fd.globals, cells := fd.closure, qual := fd.qualname ++ a_locals, func := some self, code := fd.code, frame := some fr, builtins := fd.builtins }
noncomputable def hsh (w : World) (s : List Nat) : Int := PySem.W.ZFast.zw12210062019545310541 (w.params.strHash (⟨s.toArray⟩ : PySem.Str).cps)
noncomputable def ky (w : World) (s : List Nat) (t : Nat) (v : Value) : DictEntry := ⟨hsh w s, .str ⟨s.toArray⟩ (t + 1), v⟩
noncomputable def frO (es : List DictEntry) (ep : Nat) : Obj := { cls := .type "frame", data := .dict es.toArray ep }
noncomputable def n_heap : List Nat := [104, 101, 97, 112]
noncomputable def n_startpos : List Nat := [115, 116, 97, 114, 116, 112, 111, 115]
noncomputable def n_pos : List Nat := [112, 111, 115]
noncomputable def n_newitem : List Nat := [110, 101, 119, 105, 116, 101, 109]
noncomputable def n_parentpos : List Nat := [112, 97, 114, 101, 110, 116, 112, 111, 115]
noncomputable def n_parent : List Nat := [112, 97, 114, 101, 110, 116]
noncomputable def n_endpos : List Nat := [101, 110, 100, 112, 111, 115]
noncomputable def n_childpos : List Nat := [99, 104, 105, 108, 100, 112, 111, 115]
noncomputable def n_rightpos : List Nat := [114, 105, 103, 104, 116, 112, 111, 115]
structure Sd where
  f : Nat
  h : Nat
  ep : Nat
  lep : Nat
  k : Nat → Nat
  s : Int
  st : Nat
  p : Int
  pt : Nat
  w : Int × Nat
  pp : Int × Nat
  par : Int × Nat
  b : Bool
  L : List (Int × Nat)
noncomputable def Sd.pre (W : World) (z : Sd) : List Obj :=
  [frO (ky W n_heap (z.k 0) (.ref (z.h + 209)) :: ky W n_startpos (z.k 1) (.int z.s (z.st + 1)) :: ky W n_pos (z.k 2) (.int z.p (z.pt + 1)) :: ky W n_newitem (z.k 3) (iv z.w) ::
    match z.b with
    | true => [ky W n_parentpos (z.k 4) (iv z.pp), ky W n_parent (z.k 5) (iv z.par)]
    | false => []) z.ep, lsI z.L z.lep]
noncomputable def sdC (E : Sol.Env) (f : Nat) : Code := whileC (nthSt (bodyOf (fdOf E 181)) 1) (envF (fdOf E 181) 181 (f + 209))
noncomputable def sdQ (E : Sol.Env) (z : Sd) (r : Result) (post : (Nat → Nat) → List Obj) : Raw Unit where
  code := sdC E z.f
  ads := [z.f + 209, z.h + 209]
  pre := z.pre E.w
  g := ()
  res := fun _ => r
  post := post
  news := fun _ => []
  gpost := fun _ => ()
noncomputable def nextR : Result := .ok .next
noncomputable def agR : Result := .error .none
noncomputable def Sd.to (z : Sd) (y : Nat → Nat) (b : Bool) (p pp par : Int) (L : List (Int × Nat)) : Sd := { z with ep := y 3, k := fun i => y (4 + i), st := y 15, p := p, pt := y 16, pp := (pp, y 18), par := (par, y 19), b := b, L := L }
noncomputable def SdCon (z : Sd) (q : Int) (par : Int × Nat) (r : Bool) (i : Nat) : List (Seen Unit → Con Unit) := [
  fun s => (cmpQ "int.__gt__" z.p z.s (tkA s.c 0) (tkA s.c 1) true).con [],
  fun s => (rshQ (z.p - 1) (tkA s.c 0) (tkA s.c 1) q).con [],
  fun s => (getQ z.h z.lep z.L q (tkA s.c 1) par).con [1],
  fun s => (cmpQ "int.__lt__" z.w.1 par.1 (tkA s.c 0) (tkA s.c 1) r).con [],
  fun s => (setQ z.h z.lep z.L z.p (tkA s.c 1) par i).con [1]]
noncomputable def SdConE (z : Sd) : List (Seen Unit → Con Unit) := [fun s => (cmpQ "int.__gt__" z.p z.s (tkA s.c 0) (tkA s.c 1) false).con []]
noncomputable def cutW : Code → Bool
  | .whileLoop _ _ _ _ => true
  | _ => false
noncomputable def SdEnd (E : Sol.Env) : Prop := ∀ (z : Sd) (b : Bool), RunQ (E.cfg (conL (SdConE { z with b := b })) noCut) 40 (sdQ E { z with b := b } nextR fun y => (Sd.to { z with b := b } y b z.p z.pp.1 z.par.1 z.L).pre E.w) [1, 1, 1] fX []
noncomputable def SdBrk (E : Sol.Env) : Prop := ∀ (z : Sd) (b : Bool) (q : Int) (par : Int × Nat), RunQ (E.cfg (conL ((SdCon { z with b := b } q par false 0).take 4)) noCut) 100 (sdQ E { z with b := b } nextR fun y => (Sd.to { z with b := b } y true z.p q par.1 z.L).pre E.w) [1, 1, 1, 1, 0, 2, 1, 1, 1, 1, 2, 2, 2, 3, 1, 1, 1, 1, 4] fX []
noncomputable def SdMov (E : Sol.Env) : Prop := ∀ (z : Sd) (b : Bool) (q : Int) (par : Int × Nat) (i : Nat), RunT (E.cfg (conL (SdCon { z with b := b } q par true i)) cutW) 140 (sdQ E { z with b := b } agR fun y => (Sd.to { z with b := b } y true q q par.1 (z.L.set i par)).pre E.w) (fun _ => sdC E z.f) [1, 1, 1, 1, 0, 2, 1, 1, 1, 1, 2, 2, 2, 3, 1, 1, 1, 1, 4, 1, 1, 1, 2, 2, 5, 1, 1, 1] fX
noncomputable def sdF (w : Int) : Nat → Nat → Nat → List (Int × Nat) → Nat × List (Int × Nat)
  | 0, _, p, L => (p, L)
  | f + 1, s, p, L => match Nat.blt s p with
    | true => match decide (w < (L.getD ((p - 1) / 2) (0, 0)).1) with
      | true => sdF w f s ((p - 1) / 2) (L.set p (L.getD ((p - 1) / 2) (0, 0)))
      | false => (p, L)
    | false => (p, L)
section
variable {K : Gd Unit} (hE : K.E.Ok) (hF : K.Fine) (hdm : K.up.Lim)
include hE hF hdm
theorem sd_loop (r1 : SdEnd K.E) (r2 : SdBrk K.E) (r3 : SdMov K.E) : ∀ (fuel : Nat) (z : Sd) (s p : Nat), z.s = s → z.p = p → p < z.L.length → z.L.length < 12 → p < fuel →
    RawR K (sdC K.E z.f) [z.f + 209, z.h + 209] (z.pre K.E.w) () (fun r ps nw _ => r = nextR ∧ nw = [] ∧ ∃ y pp par, ps = (z.to y (z.b || Nat.blt s p) (sdF z.w.1 fuel s p z.L).1 pp par (sdF z.w.1 fuel s p z.L).2).pre K.E.w) := by
  have hU := Gd.up_fine hF
  intro fuel
  induction fuel with
  | zero => intro z s p _ _ _ _ h; exact absurd h (Nat.not_lt_zero _)
  | succ f ih =>
    intro z s p hs hp hl hL hf
    unfold sdF
    cases hb : Nat.blt s p with
    | false =>
      have hg : ¬ s < p := fun h => by rw [Nat.blt_eq.mpr h] at hb; cases hb
      have ok := RunQ.okC hE hF (Gd.up_lim hdm) (r1 z z.b) ⟨fun s => (gt_ok2 (K := K.up) hE hU hdm (by show decide (z.s < z.p) = false; rw [hs, hp]; simp; omega)).cg [], trivial⟩
      refine ok.toR.mono ?_
      rintro r ps nw g ⟨y, rfl, rfl, rfl, -⟩
      refine ⟨rfl, rfl, y, z.pp.1, z.par.1, ?_⟩
      simp only [Bool.or_false, ← hp]
      rfl
    | true =>
      have hg : s < p := Nat.blt_eq.mp hb
      have hi : (p - 1) / 2 < z.L.length := by omega
      have hget : z.L[(p - 1) / 2]? = some (z.L.getD ((p - 1) / 2) (0, 0)) := by simp [List.getD, List.getElem?_eq_getElem hi]
      generalize hpar : z.L.getD ((p - 1) / 2) (0, 0) = par at hget ⊢
      have hz1 : z.p - 1 = ((p - 1 : Nat) : Int) := by rw [hp]; omega
      have hr : ((((p - 1) / 2 : Nat)) : Int) = (((p - 1) / 2 : Nat) : Int) := rfl
      have c1 : ∀ s' : Seen Unit, CG K.up ((cmpQ "int.__gt__" z.p z.s (tkA s'.c 0) (tkA s'.c 1) true).con []) := fun s' => (gt_ok2 (K := K.up) hE hU hdm (by show decide (z.s < z.p) = true; rw [hs, hp]; simp; omega)).cg []
      have c2 : ∀ s' : Seen Unit, CG K.up ((rshQ (z.p - 1) (tkA s'.c 0) (tkA s'.c 1) ((((p - 1) / 2 : Nat)) : Int)).con []) := fun s' => (rsh_ok (K := K.up) hE hU hdm hz1 (by omega) rfl).cg []
      have c3 : ∀ s' : Seen Unit, CG K.up ((getQ z.h z.lep z.L ((((p - 1) / 2 : Nat)) : Int) (tkA s'.c 1) par).con [1]) := fun s' => (get_ok (K := K.up) hE hU hdm rfl hget hL).cg [1]
      have c5 : ∀ s' : Seen Unit, CG K.up ((setQ z.h z.lep z.L z.p (tkA s'.c 1) par p).con [1]) := fun s' => (set_ok (K := K.up) hE hU hdm hp hl hL).cg [1]
      cases hc : decide (z.w.1 < par.1) with
      | false =>
        have c4 : ∀ s' : Seen Unit, CG K.up ((cmpQ "int.__lt__" z.w.1 par.1 (tkA s'.c 0) (tkA s'.c 1) false).con []) := fun s' => (lt_ok2 (K := K.up) hE hU hdm hc).cg []
        have ok := RunQ.okC hE hF (Gd.up_lim hdm) (r2 z z.b ((((p - 1) / 2 : Nat)) : Int) par) ⟨c1, c2, c3, c4, trivial⟩
        refine ok.toR.mono ?_
        rintro r ps nw g ⟨y, rfl, rfl, rfl, -⟩
        refine ⟨rfl, rfl, y, (((p - 1) / 2 : Nat) : Int), par.1, ?_⟩
        simp only [Bool.or_true, ← hp]
        rfl
      | true =>
        have c4 : ∀ s' : Seen Unit, CG K.up ((cmpQ "int.__lt__" z.w.1 par.1 (tkA s'.c 0) (tkA s'.c 1) true).con []) := fun s' => (lt_ok2 (K := K.up) hE hU hdm hc).cg []
        refine RunT.turnC hE hF (Gd.up_lim hdm) (r3 z z.b ((((p - 1) / 2 : Nat)) : Int) par p) ⟨c1, c2, c3, c4, c5, trivial⟩ fun x => ?_
        have z' := ih (Sd.to z x true ((((p - 1) / 2 : Nat)) : Int) ((((p - 1) / 2 : Nat)) : Int) par.1 (z.L.set p par)) s ((p - 1) / 2) hs rfl (by show _ < (z.L.set p par).length; rw [List.length_set]; exact hi) (by show (z.L.set p par).length < 12; rw [List.length_set]; exact hL) (by omega)
        refine z'.mono ?_
        rintro r ps nw g ⟨h1, h2, y, pp, pr, h3⟩
        refine ⟨h1, h2, y, pp, pr, ?_⟩
        rw [h3]
        simp only [Bool.or_true]
        rfl
end
end Sol
namespace Sol
open PySem PySem.Spec PySem.Calls PyProof.Rows PySem.W PySem.W.X
structure Su where
  f : Nat
  h : Nat
  ep : Nat
  lep : Nat
  k : Nat → Nat
  e : Int
  et : Nat
  s : Int
  st : Nat
  p : Int
  pt : Nat
  w : Int × Nat
  c : Int
  ct : Nat
  rp : Int × Nat
  b : Bool
  L : List (Int × Nat)
noncomputable def Su.pre (W : World) (z : Su) : List Obj :=
  [frO (ky W n_heap (z.k 0) (.ref (z.h + 209)) :: ky W n_pos (z.k 1) (.int z.p (z.pt + 1)) :: ky W n_endpos (z.k 2) (.int z.e (z.et + 1)) :: ky W n_startpos (z.k 3) (.int z.s (z.st + 1)) ::
    ky W n_newitem (z.k 4) (iv z.w) :: ky W n_childpos (z.k 5) (.int z.c (z.ct + 1)) ::
    match z.b with
    | true => [ky W n_rightpos (z.k 6) (iv z.rp)]
    | false => []) z.ep, lsI z.L z.lep]
noncomputable def suC (E : Sol.Env) (f : Nat) : Code := whileC (nthSt (bodyOf (fdOf E 188)) 4) (envF (fdOf E 188) 188 (f + 209))
noncomputable def suQ (E : Sol.Env) (z : Su) (r : Result) (post : (Nat → Nat) → List Obj) : Raw Unit where
  code := suC E z.f
  ads := [z.f + 209, z.h + 209]
  pre := z.pre E.w
  g := ()
  res := fun _ => r
  post := post
  news := fun _ => []
  gpost := fun _ => ()
noncomputable def Su.to (z : Su) (y : Nat → Nat) (b : Bool) (p c rp : Int) (L : List (Int × Nat)) : Su :=
  { z with ep := y 3, k := fun i => y (4 + i), pt := y 15, et := y 16, st := y 17, ct := y 19, rp := (rp, y 20), p := p, c := c, b := b, L := L }
noncomputable def suc (z : Su) (a b : Int) (r : Bool) : Seen Unit → Con Unit := fun s => (cmpQ "int.__lt__" a b (tkA s.c 0) (tkA s.c 1) r).con []
noncomputable def sug (z : Su) (i : Int) (p : Int × Nat) : Seen Unit → Con Unit := fun s => (getQ z.h z.lep z.L i (tkA s.c 1) p).con [1]
noncomputable def sus (z : Su) (p : Int × Nat) (i : Nat) : Seen Unit → Con Unit := fun s => (setQ z.h z.lep z.L z.p (tkA s.c 1) p i).con [1]
noncomputable def SuEnd (E : Sol.Env) : Prop := ∀ (z : Su) (b : Bool), RunQ (E.cfg (conL [suc z z.c z.e false]) noCut) 40 (suQ E { z with b := b } nextR fun y => (Su.to { z with b := b } y b z.p z.c z.rp.1 z.L).pre E.w) [1, 1, 1] fX []
noncomputable def SuOnly (E : Sol.Env) : Prop := ∀ (z : Su) (b : Bool) (a : Int × Nat) (i : Nat), RunT (E.cfg (conL [suc z z.c z.e true, suc z (z.c + 1) z.e false, sug z z.c a, sus z a i]) cutW) 160
  (suQ E { z with b := b } agR fun y => (Su.to { z with b := b } y true z.c (2 * z.c + 1) (z.c + 1) (z.L.set i a)).pre E.w) (fun _ => suC E z.f) [1, 1, 1, 1, 0, 1, 1, 1, 1, 2, 1, 1, 2, 2, 2, 3, 1, 1, 2, 2, 4, 1, 1, 1, 1, 0, 0, 1, 1] fX
noncomputable def SuLeft (E : Sol.Env) : Prop := ∀ (z : Su) (b : Bool) (a a' : Int × Nat) (i : Nat), RunT (E.cfg (conL [suc z z.c z.e true, suc z (z.c + 1) z.e true, sug z z.c a, sug z (z.c + 1) a', suc z a.1 a'.1 true, sug z z.c a, sus z a i]) cutW) 200
  (suQ E { z with b := b } agR fun y => (Su.to { z with b := b } y true z.c (2 * z.c + 1) (z.c + 1) (z.L.set i a)).pre E.w) (fun _ => suC E z.f) [1, 1, 1, 1, 0, 1, 1, 1, 1, 2, 1, 1, 2, 2, 2, 3, 1, 1, 2, 2, 2, 4, 5, 1, 1, 2, 2, 2, 6, 1, 1, 2, 2, 7, 1, 1, 1, 1, 0, 0, 1, 1] fX
noncomputable def SuRight (E : Sol.Env) : Prop := ∀ (z : Su) (b : Bool) (a a' : Int × Nat) (i : Nat), RunT (E.cfg (conL [suc z z.c z.e true, suc z (z.c + 1) z.e true, sug z z.c a, sug z (z.c + 1) a', suc z a.1 a'.1 false, sug z (z.c + 1) a', sus z a' i]) cutW) 200
  (suQ E { z with b := b } agR fun y => (Su.to { z with b := b } y true (z.c + 1) (2 * (z.c + 1) + 1) (z.c + 1) (z.L.set i a')).pre E.w) (fun _ => suC E z.f) [1, 1, 1, 1, 0, 1, 1, 1, 1, 2, 1, 1, 2, 2, 2, 3, 1, 1, 2, 2, 2, 4, 5, 1, 1, 1, 1, 1, 2, 2, 2, 6, 1, 1, 2, 2, 7, 1, 1, 1, 1, 0, 0, 1, 1] fX
noncomputable def suF (n : Nat) : Nat → Nat → List (Int × Nat) → Nat × List (Int × Nat)
  | 0, p, L => (p, L)
  | f + 1, p, L => match Nat.blt (2 * p + 1) n with
    | true => match Nat.blt (2 * p + 2) n with
      | true => match decide ((L.getD (2 * p + 1) (0, 0)).1 < (L.getD (2 * p + 2) (0, 0)).1) with
        | true => suF n f (2 * p + 1) (L.set p (L.getD (2 * p + 1) (0, 0)))
        | false => suF n f (2 * p + 2) (L.set p (L.getD (2 * p + 2) (0, 0)))
      | false => suF n f (2 * p + 1) (L.set p (L.getD (2 * p + 1) (0, 0)))
    | false => (p, L)
theorem getD_some {L : List (Int × Nat)} {i : Nat} (hi : i < L.length) : L[i]? = some (L.getD i (0, 0)) := by simp [List.getD, List.getElem?_eq_getElem hi]
theorem suF_len (n : Nat) : ∀ f p L, (suF n f p L).2.length = L.length
  | 0, _, _ => rfl
  | f + 1, p, L => by
    unfold suF
    repeat' split
    all_goals first | rfl | (rw [suF_len n f, List.length_set])
theorem suF_lt (n : Nat) : ∀ f p L, p < n → (suF n f p L).1 < n
  | 0, _, _, h => h
  | f + 1, p, L, h => by
    unfold suF
    split
    · rename_i h1
      have h1 : 2 * p + 1 < n := Nat.blt_eq.mp h1
      split
      · rename_i h2
        have h2 : 2 * p + 2 < n := Nat.blt_eq.mp h2
        split
        · exact suF_lt n f _ _ h1
        · exact suF_lt n f _ _ h2
      · exact suF_lt n f _ _ h1
    · exact h
theorem sdF_len (w : Int) : ∀ f s p L, (sdF w f s p L).2.length = L.length
  | 0, _, _, _ => rfl
  | f + 1, s, p, L => by
    unfold sdF
    repeat' split
    all_goals first | rfl | (rw [sdF_len w f, List.length_set])
theorem sdF_lt (w : Int) (n : Nat) : ∀ f s p L, p < n → (sdF w f s p L).1 < n
  | 0, _, _, _, h => h
  | f + 1, s, p, L, h => by
    unfold sdF
    split
    · split
      · exact sdF_lt w n f _ _ _ (by omega)
      · exact h
    · exact h
section
variable {K : Gd Unit} (hE : K.E.Ok) (hF : K.Fine) (hdm : K.up.Lim)
include hE hF hdm
theorem suc_ok (z : Su) {a b : Int} {r : Bool} (h : decide (a < b) = r) : ∀ s : Seen Unit, CG K.up (suc z a b r s) := fun s => (lt_ok2 (K := K.up) hE (Gd.up_fine hF) hdm h).cg []
theorem sug_ok (z : Su) {i : Int} {j : Nat} {p : Int × Nat} (hi : i = j) (hp : z.L[j]? = some p) (hL : z.L.length < 12) : ∀ s : Seen Unit, CG K.up (sug z i p s) := fun s => (get_ok (K := K.up) hE (Gd.up_fine hF) hdm hi hp hL).cg [1]
theorem sus_ok (z : Su) {i : Nat} {p : Int × Nat} (hi : z.p = i) (hl : i < z.L.length) (hL : z.L.length < 12) : ∀ s : Seen Unit, CG K.up (sus z p i s) := fun s => (set_ok (K := K.up) hE (Gd.up_fine hF) hdm hi hl hL).cg [1]
theorem su_loop (r1 : SuEnd K.E) (r2 : SuOnly K.E) (r3 : SuLeft K.E) (r4 : SuRight K.E) : ∀ (fuel : Nat) (z : Su) (p : Nat), z.p = p → z.e = z.L.length → z.c = 2 * (p : Int) + 1 → p < z.L.length → z.L.length < 12 → z.L.length ≤ p + fuel →
    RawR K (suC K.E z.f) [z.f + 209, z.h + 209] (z.pre K.E.w) () (fun r ps nw _ => r = nextR ∧ nw = [] ∧ ∃ y rp, ps = (z.to y (z.b || Nat.blt (2 * p + 1) z.L.length) (suF z.L.length fuel p z.L).1 (2 * ((suF z.L.length fuel p z.L).1 : Int) + 1) rp (suF z.L.length fuel p z.L).2).pre K.E.w) := by
  intro fuel
  induction fuel with
  | zero => intro z p _ _ _ h1 _ h2; exact absurd h1 (by omega)
  | succ f ih =>
    intro z p hp he hc hl hL hf
    unfold suF
    cases hb : Nat.blt (2 * p + 1) z.L.length with
    | false =>
      have hg : ¬ 2 * p + 1 < z.L.length := fun h => by rw [Nat.blt_eq.mpr h] at hb; cases hb
      have ok := RunQ.okC hE hF (Gd.up_lim hdm) (r1 z z.b) ⟨suc_ok hE hF hdm z (by rw [hc, he]; simp; omega), trivial⟩
      refine ok.toR.mono ?_
      rintro r ps nw g ⟨y, rfl, rfl, rfl, -⟩
      refine ⟨rfl, rfl, y, z.rp.1, ?_⟩
      simp only [Bool.or_false, ← hp]
      rw [← hp] at hc
      rw [← hc]
      rfl
    | true =>
      have hg : 2 * p + 1 < z.L.length := Nat.blt_eq.mp hb
      have hc1 : z.c = ((2 * p + 1 : Nat) : Int) := by rw [hc]; omega
      have c1 := suc_ok hE hF hdm z (a := z.c) (b := z.e) (r := true) (by rw [hc, he]; simp; omega)
      have c3 := sug_ok hE hF hdm z hc1 (getD_some hg) hL
      cases hb2 : Nat.blt (2 * p + 2) z.L.length with
      | false =>
        have hg2 : ¬ 2 * p + 2 < z.L.length := fun h => by rw [Nat.blt_eq.mpr h] at hb2; cases hb2
        have c2 := suc_ok hE hF hdm z (a := z.c + 1) (b := z.e) (r := false) (by rw [hc, he]; simp; omega)
        have c4 := sus_ok hE hF hdm z (p := z.L.getD (2 * p + 1) (0, 0)) hp hl hL
        refine RunT.turnC hE hF (Gd.up_lim hdm) (r2 z z.b (z.L.getD (2 * p + 1) (0, 0)) p) ⟨c1, c2, c3, c4, trivial⟩ fun x => ?_
        have z' := ih (Su.to z x true z.c (2 * z.c + 1) (z.c + 1) (z.L.set p (z.L.getD (2 * p + 1) (0, 0)))) (2 * p + 1) hc1 (by show z.e = ((z.L.set p _).length : Int); rw [List.length_set]; exact he) (by show 2 * z.c + 1 = _; rw [hc1]) (by show _ < (z.L.set p _).length; rw [List.length_set]; exact hg) (by show (z.L.set p _).length < 12; rw [List.length_set]; exact hL) (by show (z.L.set p _).length ≤ _; rw [List.length_set]; omega)
        refine z'.mono ?_
        rintro r ps nw g ⟨h1, h2, y, rp, h3⟩
        refine ⟨h1, h2, y, rp, ?_⟩
        rw [h3]
        have e : (Su.to z x true z.c (2 * z.c + 1) (z.c + 1) (z.L.set p (z.L.getD (2 * p + 1) (0, 0)))).L.length = z.L.length := List.length_set ..
        rw [e]
        simp only [Bool.or_true]
        rfl
      | true =>
        have hg2 : 2 * p + 2 < z.L.length := Nat.blt_eq.mp hb2
        have hc2 : z.c + 1 = ((2 * p + 2 : Nat) : Int) := by rw [hc1]; omega
        have c2 := suc_ok hE hF hdm z (a := z.c + 1) (b := z.e) (r := true) (by rw [hc, he]; simp; omega)
        have c4 := sug_ok hE hF hdm z hc2 (getD_some hg2) hL
        cases hd : decide ((z.L.getD (2 * p + 1) (0, 0)).1 < (z.L.getD (2 * p + 2) (0, 0)).1) with
        | true =>
          have c5 := suc_ok hE hF hdm z hd
          have c7 := sus_ok hE hF hdm z (p := z.L.getD (2 * p + 1) (0, 0)) hp hl hL
          refine RunT.turnC hE hF (Gd.up_lim hdm) (r3 z z.b (z.L.getD (2 * p + 1) (0, 0)) (z.L.getD (2 * p + 2) (0, 0)) p) ⟨c1, c2, c3, c4, c5, c3, c7, trivial⟩ fun x => ?_
          have z' := ih (Su.to z x true z.c (2 * z.c + 1) (z.c + 1) (z.L.set p (z.L.getD (2 * p + 1) (0, 0)))) (2 * p + 1) hc1 (by show z.e = ((z.L.set p _).length : Int); rw [List.length_set]; exact he) (by show 2 * z.c + 1 = _; rw [hc1]) (by show _ < (z.L.set p _).length; rw [List.length_set]; exact hg) (by show (z.L.set p _).length < 12; rw [List.length_set]; exact hL) (by show (z.L.set p _).length ≤ _; rw [List.length_set]; omega)
          refine z'.mono ?_
          rintro r ps nw g ⟨h1, h2, y, rp, h3⟩
          refine ⟨h1, h2, y, rp, ?_⟩
          rw [h3]
          have e : (Su.to z x true z.c (2 * z.c + 1) (z.c + 1) (z.L.set p (z.L.getD (2 * p + 1) (0, 0)))).L.length = z.L.length := List.length_set ..
          rw [e]
          simp only [Bool.or_true]
          rfl
        | false =>
          have c5 := suc_ok hE hF hdm z hd
          have c7 := sus_ok hE hF hdm z (p := z.L.getD (2 * p + 2) (0, 0)) hp hl hL
          refine RunT.turnC hE hF (Gd.up_lim hdm) (r4 z z.b (z.L.getD (2 * p + 1) (0, 0)) (z.L.getD (2 * p + 2) (0, 0)) p) ⟨c1, c2, c3, c4, c5, c4, c7, trivial⟩ fun x => ?_
          have z' := ih (Su.to z x true (z.c + 1) (2 * (z.c + 1) + 1) (z.c + 1) (z.L.set p (z.L.getD (2 * p + 2) (0, 0)))) (2 * p + 2) hc2 (by show z.e = ((z.L.set p _).length : Int); rw [List.length_set]; exact he) (by show 2 * (z.c + 1) + 1 = _; rw [hc2]) (by show _ < (z.L.set p _).length; rw [List.length_set]; exact hg2) (by show (z.L.set p _).length < 12; rw [List.length_set]; exact hL) (by show (z.L.set p _).length ≤ _; rw [List.length_set]; omega)
          refine z'.mono ?_
          rintro r ps nw g ⟨h1, h2, y, rp, h3⟩
          refine ⟨h1, h2, y, rp, ?_⟩
          rw [h3]
          have e : (Su.to z x true (z.c + 1) (2 * (z.c + 1) + 1) (z.c + 1) (z.L.set p (z.L.getD (2 * p + 2) (0, 0)))).L.length = z.L.length := List.length_set ..
          rw [e]
          simp only [Bool.or_true]
          rfl
end
end Sol
namespace Sol
open PySem PySem.Spec PySem.Calls PyProof.Rows PySem.W PySem.W.X
noncomputable def fA (c : Code) : Nat := match c with
  | .whileLoop _ _ _ env => env.locals - 209
  | .forLoop _ _ _ _ env => env.locals - 209
  | .compStart _ _ _ _ env => env.locals - 209
  | .compLoop _ _ _ _ env => env.locals - 209
  | _ => 0
noncomputable def suLoopQ (E : Sol.Env) (z : Su) (b : Bool) (p : Int) (L : List (Int × Nat)) : Raw Unit := suQ E z nextR fun y => (z.to y b p (2 * p + 1) (dI (y 44)) L).pre E.w
noncomputable def sdLoopQ (E : Sol.Env) (z : Sd) (b : Bool) (p : Int) (L : List (Int × Nat)) : Raw Unit := sdQ E z nextR fun y => (z.to y b p (dI (y 44)) (dI (y 45)) L).pre E.w
noncomputable def suFnQ (h lep : Nat) (L : List (Int × Nat)) (pos : Int) (pt : Nat) (L' : List (Int × Nat)) : Raw Unit where
  code := .call (.ref 188) ⟨[.ref (h + 209), .int pos (pt + 1)], []⟩
  ads := [h + 209]
  pre := [lsI L lep]
  g := ()
  res := fun _ => ok .none
  post := fun _ => [lsI L' lep]
  news := fun _ => []
  gpost := fun _ => ()
noncomputable def suZ (h lep : Nat) (L : List (Int × Nat)) (pos : Int) (w : Int × Nat) (s : Seen Unit) : Su :=
  { f := fA s.c, h := h, ep := epO (s.T.get 1), lep := lep, k := ktO (s.T.get 1), e := ((L.map iv).length : Nat), et := vtO (s.T.get 1) 2, s := pos, st := vtO (s.T.get 1) 3, p := pos, pt := vtO (s.T.get 1) 1, w := w, c := 2 * pos + 1, ct := vtO (s.T.get 1) 5, rp := (0, 0), b := false, L := L }
noncomputable def sdZ (h lep : Nat) (L : List (Int × Nat)) (pos p1 : Int) (w : Int × Nat) (s : Seen Unit) : Sd :=
  { f := fA s.c, h := h, ep := epO (s.T.get 2), lep := lep, k := ktO (s.T.get 2), s := pos, st := vtO (s.T.get 2) 1, p := p1, pt := vtO (s.T.get 2) 2, w := w, pp := (0, 0), par := (0, 0), b := false, L := L }
noncomputable def suFnCon (E : Sol.Env) (h lep : Nat) (L L1 L3 : List (Int × Nat)) (pos p1 p2 : Int) (w : Int × Nat) (i1 i2 : Nat) (b b2 : Bool) : List (Seen Unit → Con Unit) := [
  fun s => (llenQ "len" h lep (L.map iv)).con [0],
  fun s => (getQ h lep L pos (tkA s.c 1) w).con [0],
  fun s => (suLoopQ E (suZ h lep L pos w s) b p1 L1).con [1, 0],
  fun s => (setQ h lep L1 p1 (tkA s.c 1) w i1).con [0],
  fun s => (getQ h lep (L1.set i1 w) p1 (tkA s.c 1) w).con [0],
  fun s => (sdLoopQ E (sdZ h lep (L1.set i1 w) pos p1 w s) b2 p2 L3).con [2, 0],
  fun s => (setQ h lep L3 p2 (tkA s.c 1) w i2).con [0]]
noncomputable def SuFn (E : Sol.Env) : Prop := ∀ (h lep : Nat) (L L1 L3 : List (Int × Nat)) (pos p1 p2 : Int) (pt : Nat) (w : Int × Nat) (i1 i2 : Nat) (b b2 : Bool),
  RunQ (E.cfg (conL (suFnCon E h lep L L1 L3 pos p1 p2 w i1 i2 b b2)) noCut) 300 (suFnQ h lep L pos pt (L3.set i2 w))
    [0, 0, 2, 2, 2, 2, 0, 0, 0, 2, 1, 2, 2, 2, 2, 2, 2, 2, 1, 1, 1, 2, 2, 2, 2, 0, 0, 2, 2, 3, 2, 2, 2, 1, 1, 4, 0, 2, 2, 2, 0, 0, 0, 0, 3, 3, 3, 3, 3, 3, 0, 3, 3, 1, 1, 1, 5, 3, 3, 6, 3, 3, 3, 1, 1, 7] x0 []
noncomputable def siftA (L : List (Int × Nat)) (p : Nat) : Nat × List (Int × Nat) := suF L.length 12 p L
noncomputable def siftB (L : List (Int × Nat)) (p : Nat) : Nat × List (Int × Nat) := sdF (L.getD p (0, 0)).1 12 p (siftA L p).1 ((siftA L p).2.set (siftA L p).1 (L.getD p (0, 0)))
noncomputable def siftF (L : List (Int × Nat)) (p : Nat) : List (Int × Nat) := (siftB L p).2.set (siftB L p).1 (L.getD p (0, 0))
theorem siftF_len (L : List (Int × Nat)) (p : Nat) : (siftF L p).length = L.length := by
  unfold siftF siftB siftA
  simp only [List.length_set, sdF_len, suF_len]
section
variable {K : Gd Unit} (hE : K.E.Ok) (hF : K.Fine) (hdm : K.up.Lim)
include hE hF hdm
theorem suLoop_ok (r1 : SuEnd K.E) (r2 : SuOnly K.E) (r3 : SuLeft K.E) (r4 : SuRight K.E) {z : Su} {p : Nat} (hp : z.p = p) (he : z.e = z.L.length) (hc : z.c = 2 * z.p + 1) (hl : p < z.L.length) (hL : z.L.length < 12) :
    RawOk K (suLoopQ K.E z (z.b || Nat.blt (2 * p + 1) z.L.length) (suF z.L.length 12 p z.L).1 (suF z.L.length 12 p z.L).2) := by
  refine RawR.toOk (su_loop hE hF hdm r1 r2 r3 r4 12 z p hp he (by rw [hc, hp]) hl hL (by omega)) ?_
  rintro r ps nw g' ⟨rfl, rfl, y, rp, rfl⟩
  refine ⟨fun j => match Nat.beq j 41 with | true => eI rp | false => y (j + 3), fun y' hy => ⟨rfl, ?_, rfl, rfl⟩⟩
  show _ = (z.to y' _ _ _ (dI (y' 44)) _).pre K.E.w
  have e44 : dI (y' 44) = rp := by rw [hy 41]; exact dI_eI rp
  rw [e44]
  unfold Su.to Su.pre
  simp only [show y' 3 = y 3 from hy 0, show y' 4 = y 4 from hy 1, show y' 5 = y 5 from hy 2, show y' 6 = y 6 from hy 3, show y' 7 = y 7 from hy 4, show y' 8 = y 8 from hy 5, show y' 9 = y 9 from hy 6, show y' 10 = y 10 from hy 7, show y' 15 = y 15 from hy 12, show y' 16 = y 16 from hy 13, show y' 17 = y 17 from hy 14, show y' 19 = y 19 from hy 16, show y' 20 = y 20 from hy 17]
theorem sdLoop_ok (r1 : SdEnd K.E) (r2 : SdBrk K.E) (r3 : SdMov K.E) {z : Sd} {s p : Nat} (hs : z.s = s) (hp : z.p = p) (hl : p < z.L.length) (hL : z.L.length < 12) :
    RawOk K (sdLoopQ K.E z (z.b || Nat.blt s p) (sdF z.w.1 12 s p z.L).1 (sdF z.w.1 12 s p z.L).2) := by
  refine RawR.toOk (sd_loop hE hF hdm r1 r2 r3 12 z s p hs hp hl hL (by omega)) ?_
  rintro r ps nw g' ⟨rfl, rfl, y, pp, par, rfl⟩
  refine ⟨fun j => match Nat.beq j 41 with | true => eI pp | false => match Nat.beq j 42 with | true => eI par | false => y (j + 3), fun y' hy => ⟨rfl, ?_, rfl, rfl⟩⟩
  show _ = (z.to y' _ _ (dI (y' 44)) (dI (y' 45)) _).pre K.E.w
  have e44 : dI (y' 44) = pp := by rw [hy 41]; exact dI_eI pp
  have e45 : dI (y' 45) = par := by rw [hy 42]; exact dI_eI par
  rw [e44, e45]
  unfold Sd.to Sd.pre
  simp only [show y' 3 = y 3 from hy 0, show y' 4 = y 4 from hy 1, show y' 5 = y 5 from hy 2, show y' 6 = y 6 from hy 3, show y' 7 = y 7 from hy 4, show y' 8 = y 8 from hy 5, show y' 9 = y 9 from hy 6, show y' 15 = y 15 from hy 12, show y' 16 = y 16 from hy 13, show y' 18 = y 18 from hy 15, show y' 19 = y 19 from hy 16]
end
section
variable {K : Gd Unit} (hE : K.E.Ok) (hF : K.Fine) (hdm : K.up.up.Lim)
structure HqRuns (E : Sol.Env) : Prop where
  d1 : SdEnd E
  d2 : SdBrk E
  d3 : SdMov E
  u1 : SuEnd E
  u2 : SuOnly E
  u3 : SuLeft E
  u4 : SuRight E
  fn : SuFn E
include hE hF hdm
theorem suFn_ok (R : HqRuns K.E) {h lep pt : Nat} {L : List (Int × Nat)} {pos : Int} {p : Nat} (hpos : pos = p) (hp : p < L.length) (hL : L.length < 12) : RawOk K (suFnQ h lep L pos pt (siftF L p)) := by
  have hU := Gd.up_fine hF
  have hdU := Gd.up_lim hdm
  subst hpos
  have w1 := getD_some hp
  have la : (suF L.length 12 p L).2.length = L.length := suF_len ..
  have pa : (suF L.length 12 p L).1 < L.length := suF_lt _ _ _ _ hp
  unfold siftF siftB siftA
  generalize L.getD p (0, 0) = w at w1 ⊢
  generalize ha : suF L.length 12 p L = a at la pa ⊢
  have lc : (sdF w.1 12 p a.1 (a.2.set a.1 w)).2.length = L.length := by rw [sdF_len, List.length_set, la]
  have pc : (sdF w.1 12 p a.1 (a.2.set a.1 w)).1 < L.length := sdF_lt _ _ _ _ _ _ pa
  generalize hc : sdF w.1 12 p a.1 (a.2.set a.1 w) = c at lc pc ⊢
  refine RunQ.okC hE hF (Gd.up_lim (Gd.up_lim hdm)) (R.fn h lep L a.2 c.2 p a.1 c.1 pt w a.1 c.1 (false || Nat.blt (2 * p + 1) L.length) (false || Nat.blt p a.1)) ⟨fun s => ?_, fun s => ?_, fun s => ?_, fun s => ?_, fun s => ?_, fun s => ?_, fun s => ?_, trivial⟩
  · exact (len_okB (K := K.up) hE hU hdU (by rw [List.length_map]; exact hL)).cg [0]
  · exact (get_ok (K := K.up) hE hU hdU rfl w1 hL).cg [0]
  · have := suLoop_ok (K := K.up) hE hU hdm R.u1 R.u2 R.u3 R.u4 (z := suZ h lep L p w s) (p := p) rfl (by show (((L.map iv).length : Nat) : Int) = _; rw [List.length_map]; rfl) rfl hp hL
    have e : suF (suZ h lep L p w s).L.length 12 p (suZ h lep L p w s).L = a := ha
    rw [e] at this
    exact this.cg [1, 0]
  · exact (set_ok (K := K.up) hE hU hdU rfl (by rw [la]; exact pa) (by rw [la]; exact hL)).cg [0]
  · exact (get_ok (K := K.up) hE hU hdU rfl (by rw [List.getElem?_set_self (by rw [la]; exact pa)]) (by rw [List.length_set, la]; exact hL)).cg [0]
  · have := sdLoop_ok (K := K.up) hE hU hdm R.d1 R.d2 R.d3 (z := sdZ h lep (a.2.set a.1 w) p a.1 w s) (s := p) (p := a.1) rfl rfl (by show a.1 < (a.2.set a.1 w).length; rw [List.length_set, la]; exact pa) (by show (a.2.set a.1 w).length < 12; rw [List.length_set, la]; exact hL)
    have e : sdF (sdZ h lep (a.2.set a.1 w) p a.1 w s).w.1 12 p a.1 (sdZ h lep (a.2.set a.1 w) p a.1 w s).L = c := hc
    rw [e] at this
    exact this.cg [2, 0]
  · exact (set_ok (K := K.up) hE hU hdU rfl (by rw [lc]; exact pc) (by rw [lc]; exact hL)).cg [0]
end
end Sol
namespace Sol
open PySem PySem.Spec PySem.Calls PyProof.Rows PySem.W PySem.W.X
structure Card where
  a : Nat
  u : Nat
  v : Nat
  x : Nat
  deriving Inhabited
noncomputable def Cd.of (cs : List Card) : Cd := ⟨fun i => (cs.getD i default).a, fun i => (cs.getD i default).u, fun i => (cs.getD i default).v, fun i => (cs.getD i default).x⟩
noncomputable def adC (cs : List Card) : List Nat := cs.map fun c => c.a + 209
noncomputable def obC (cs : List Card) : List Obj := cs.map fun c => cardO (c.u + 1) (c.v + 1) c.x
noncomputable def txC (cs : List Card) : List Nat := cs.map (·.x)
theorem adsN_map (f : Nat → Nat) : ∀ k i, adsN f k i = (List.range' i k).map fun j => f j + 209
  | 0, _ => rfl
  | k + 1, i => by rw [adsN, adsN_map f k, List.range'_succ, List.map_cons]
theorem os_map (c : Cd) : ∀ k i, c.os k i = (List.range' i k).map fun j => cardO (c.u j + 1) (c.v j + 1) (c.xs j)
  | 0, _ => rfl
  | k + 1, i => by rw [Cd.os, os_map c k, List.range'_succ, List.map_cons]
theorem txt_map (c : Cd) : ∀ k i, c.txt k i = (List.range' i k).map c.xs
  | 0, _ => rfl
  | k + 1, i => by rw [Cd.txt, txt_map c k, List.range'_succ, List.map_cons]
theorem range_map {α β : Type} [Inhabited α] (L : List α) (f : α → β) : ((List.range' 0 L.length).map fun j => f (L.getD j default)) = L.map f := by
  refine List.ext_getElem (by simp) fun i h1 h2 => ?_
  have h2' : i < L.length := by simpa using h2
  simp [List.getElem?_eq_getElem h2']
theorem adsN_of (cs : List Card) : adsN (Cd.of cs).ts cs.length 0 = adC cs := by
  rw [adsN_map]; exact range_map cs fun c => c.a + 209
theorem os_of (cs : List Card) : (Cd.of cs).os cs.length 0 = obC cs := by
  rw [os_map]; exact range_map cs fun c => cardO (c.u + 1) (c.v + 1) c.x
theorem txt_of (cs : List Card) : (Cd.of cs).txt cs.length 0 = txC cs := by
  rw [txt_map]; exact range_map cs fun c => c.x
theorem adsN_list (ts : List Nat) : adsN (fun i => ts.getD i default) ts.length 0 = ts.map (· + 209) := by
  rw [adsN_map]; exact range_map ts fun c => c + 209
structure ClsRuns (E : Sol.Env) : Prop where
  push : ∀ k, k < 11 → PushRun E k
  count : ∀ k, k < 11 → CountRun E k
  pop : ∀ k, k < 10 → PopRun E k
  new : NewRun E
  len : ∀ k, k < 11 → ∀ T, LenRun E k T
  str : ∀ k, k < 11 → ∀ T, StrRun E k T
noncomputable def pushL (z : Pl) (ts : List Nat) (u v x : Nat) : Raw Unit where
  code := .call (.ref 62) ⟨[.ref (z.p + 209), .str ⟨#[]⟩ (u + 1), .str ⟨#[x]⟩ (v + 1)], []⟩
  ads := z.ads
  pre := z.pre (ts.map (· + 209))
  g := ()
  res := fun _ => ok .none
  post := fun y => { z with ep := z.ep + 1 }.pre (ts.map (· + 209) ++ [y 3 + 209])
  news := fun y => [(y 3 + 209, cardO (u + 1) (v + 1) x)]
  gpost := fun _ => ()
noncomputable def countL (z : Pl) (ts : List Nat) : Raw Unit where
  code := .call (.ref 115) ⟨[.ref (z.p + 209)], []⟩
  ads := z.ads
  pre := z.pre (ts.map (· + 209))
  g := ()
  res := fun y => ok (.int ts.length (y 3 + 1))
  post := fun _ => z.pre (ts.map (· + 209))
  news := fun _ => []
  gpost := fun _ => ()
noncomputable def popL (z : Pl) (ts : List Nat) (a : Nat) : Raw Unit where
  code := .call (.ref 78) ⟨[.ref (z.p + 209)], []⟩
  ads := z.ads
  pre := z.pre (ts.map (· + 209) ++ [a + 209])
  g := ()
  res := fun _ => ok (.ref (a + 209))
  post := fun _ => { z with ep := z.ep + 1 }.pre (ts.map (· + 209))
  news := fun _ => []
  gpost := fun _ => ()
noncomputable def lenL (z : Pl) (cs : List Card) (T : Option Nat) : Raw Unit where
  code := .call (.ref 85) ⟨[.ref (z.p + 209)], []⟩
  ads := z.ads ++ [80] ++ adC cs
  pre := z.pre (adC cs) ++ [tab80 T] ++ obC cs
  g := ()
  res := fun y => ok (.int cs.length (y 3 + 1))
  post := fun y => z.pre (adC cs) ++ [tab80 (some (T.getD (y 4)))] ++ obC cs
  news := fun _ => []
  gpost := fun _ => ()
noncomputable def strL (z : Pl) (cs : List Card) (T : Option Nat) : Raw Unit where
  code := .call (.ref 92) ⟨[.ref (z.p + 209)], []⟩
  ads := z.ads ++ [87] ++ adC cs
  pre := z.pre (adC cs) ++ [tab87 T] ++ obC cs
  g := ()
  res := fun y => ok (.str ⟨(txC cs).toArray⟩ (y 3 + 1))
  post := fun y => z.pre (adC cs) ++ [tab87 (some (T.getD (y 4)))] ++ obC cs
  news := fun _ => []
  gpost := fun _ => ()
theorem below11 {P : Nat → Prop} (h0 : P 0) (h1 : P 1) (h2 : P 2) (h3 : P 3) (h4 : P 4) (h5 : P 5) (h6 : P 6) (h7 : P 7) (h8 : P 8) (h9 : P 9) (h10 : P 10) {k : Nat} (h : k < 11) : P k := lts11 h0 h1 h2 h3 h4 h5 h6 h7 h8 h9 h10 k h
theorem bt_card (z : Pl) (o : Obj) (c : Cd) {k : Nat} (h : k < 11) : btOk (z.pre (adsN c.ts k 0) ++ [o] ++ c.os k 0) 0 .nil = true :=
  below11 (P := fun k => btOk (z.pre (adsN c.ts k 0) ++ [o] ++ c.os k 0) 0 .nil = true) rfl rfl rfl rfl rfl rfl rfl rfl rfl rfl rfl h
section
variable {K : Gd Unit} (hE : K.E.Ok) (hF : K.Fine) (hdm : K.Lim)
include hE hF hdm
theorem pushL_ok (R : ClsRuns K.E) {z : Pl} {ts : List Nat} {u v x : Nat} (h : ts.length < 11) : RawOk K (pushL z ts u v x) := by
  have := push_ok hE hF hdm (R.push _ h) z (fun i => ts.getD i default) u v x
  unfold pushQ at this
  rw [adsN_list] at this
  exact this
theorem countL_ok (R : ClsRuns K.E) {z : Pl} {ts : List Nat} (h : ts.length < 11) : RawOk K (countL z ts) := by
  have := count_ok hE hF hdm (R.count _ h) z (fun i => ts.getD i default)
  unfold countQ at this
  rw [adsN_list] at this
  exact this
theorem popL_ok (R : ClsRuns K.E) {z : Pl} {ts : List Nat} {a : Nat} (h : ts.length < 10) : RawOk K (popL z ts a) := by
  have := pop_ok hE hF hdm (R.pop _ h) z (fun i => (ts ++ [a]).getD i default)
  unfold popQ at this
  have e1 : adsN (fun i => (ts ++ [a]).getD i default) (ts.length + 1) 0 = ts.map (· + 209) ++ [a + 209] := by
    have := adsN_list (ts ++ [a])
    rw [List.length_append, List.length_singleton] at this
    rw [this, List.map_append]; rfl
  have e2 : adsN (fun i => (ts ++ [a]).getD i default) ts.length 0 = ts.map (· + 209) := by
    rw [← adsN_list ts, adsN_map, adsN_map]
    refine List.map_congr_left fun i hi => ?_
    have : i < ts.length := by have := List.mem_range'.mp hi; omega
    simp [List.getElem?_append_left this]
  have e3 : (ts ++ [a]).getD ts.length default = a := by simp
  rw [e1, e2] at this
  simp only [e3] at this
  exact this
theorem lenL_ok (R : ClsRuns K.E) {z : Pl} {cs : List Card} {T : Option Nat} (h : cs.length < 11) : RawOk K (lenL z cs T) := by
  have := RunEq.ok hE hF hdm (con := noCon) (cut := noCut) (fun _ _ _ _ _ _ h => noCon_ok h) (R.len _ h T z (Cd.of cs)) (by show (z.ads ++ [80] ++ adsN _ _ _).length = (z.pre _ ++ [tab80 T] ++ Cd.os _ _ _).length; simp only [List.length_append, adsN_len, os_len]; rfl) (bt_card z _ _ h) rfl
  unfold lenQ at this
  rw [adsN_of, os_of] at this
  exact this
theorem strL_ok (R : ClsRuns K.E) {z : Pl} {cs : List Card} {T : Option Nat} (h : cs.length < 11) : RawOk K (strL z cs T) := by
  have := RunEq.ok hE hF hdm (con := noCon) (cut := noCut) (fun _ _ _ _ _ _ h => noCon_ok h) (R.str _ h T z (Cd.of cs)) (by show (z.ads ++ [87] ++ adsN _ _ _).length = (z.pre _ ++ [tab87 T] ++ Cd.os _ _ _).length; simp only [List.length_append, adsN_len, os_len]; rfl) (bt_card z _ _ h) rfl
  unfold strQ at this
  rw [adsN_of, os_of, txt_of] at this
  exact this
end
end Sol
namespace Sol
open PySem PySem.Spec PySem.Calls PyProof.Rows PySem.W PySem.W.X
noncomputable abbrev OL := List (Nat × Obj)
noncomputable def olA (g : OL) : List Nat := g.map (·.1)
noncomputable def gK (E : Sol.Env) (os : OsState) (dm um : Nat) : Gd OL := ⟨E, fun g b => b ∈ olA g, fun g h => (∀ p ∈ g, h.get? p.1 = some p.2) ∧ (olA g).Nodup, os, dm, um⟩
theorem gK_fine (E os dm um) : (gK E os dm um).Fine where
  footIn := fun g h b I f => by
    obtain ⟨p, hp, e⟩ := List.mem_map.mp f
    exact ⟨p.2, e ▸ I.1 p hp⟩
  stable := fun g h h' k I => ⟨fun p hp => k p.1 p.2 (List.mem_map_of_mem hp) (I.1 p hp), I.2⟩
theorem zip2_get : ∀ {is : List Nat} {os : List Obj} {n i : Nat} {o : Obj}, is[n]? = some i → os[n]? = some o → (i, o) ∈ zip2 is os
  | [], _, _, _, _, h, _ => by simp at h
  | _ :: _, [], _, _, _, _, h => by simp at h
  | i :: is, o :: os, 0, _, _, h1, h2 => by simp at h1 h2; subst h1 h2; exact .head _
  | i :: is, o :: os, n + 1, _, _, h1, h2 => .tail _ (zip2_get (by simpa using h1) (by simpa using h2))
theorem olA_app (a b : OL) : olA (a ++ b) = olA a ++ olA b := List.map_append
theorem olA_zip {ga : List Nat} {gp : List Obj} (h : ga.length = gp.length) : olA (zip2 ga gp) = ga := zip2_fst h
structure Framed (q q' : Raw OL) (ga : List Nat) (gp : List Obj) (fr : OL) (gq : (Nat → Nat) → List Obj) : Prop where
  ec : q.code = q'.code
  ea : q.ads = q'.ads ++ ga
  ep : q.pre = q'.pre ++ gp
  lt : q'.ads.length = q'.pre.length
  er : q.res = q'.res
  lg : ga.length = gp.length
  hpre : q'.g.Perm (zip2 ga gp ++ (q.g ++ fr))
  hpost : ∀ x, q.post x = q'.post x ++ gq x
  lp : ∀ x, (q'.post x).length = q'.ads.length
  hper : ∀ x, ∃ l, (q'.news x ++ q'.gpost x).Perm l ∧ l.Sublist (zip2 ga (gq x) ++ (q.gpost x ++ fr) ++ q.news x)
  hnews : ∀ x, ∀ p ∈ q'.news x, p ∈ q.news x
section
variable {E : Sol.Env} {os : OsState} {dm um : Nat} {q q' : Raw OL} {ga : List Nat} {gp : List Obj} {fr : OL} {gq : (Nat → Nat) → List Obj}
theorem Framed.facts (F : Framed q q' ga gp fr gq) {A h gb} (R : RawIn (gK E os dm um) q' A h gb) :
    (ga ++ (olA q.g ++ olA fr)).Nodup ∧ (∀ b, b ∈ ga ∨ b ∈ olA q.g ∨ b ∈ olA fr → b ∈ olA q'.g) ∧ (∀ b ∈ olA q'.g, b < h.objs.size) ∧ (∀ p ∈ zip2 ga gp ++ (q.g ++ fr), h.get? p.1 = some p.2) := by
  have pA : (olA q'.g).Perm (ga ++ (olA q.g ++ olA fr)) := by
    have := F.hpre.map (·.1)
    rw [List.map_append, List.map_append] at this
    show (q'.g.map (·.1)).Perm _
    rw [← zip2_fst F.lg]; exact this
  have ndA : (ga ++ (olA q.g ++ olA fr)).Nodup := pA.nodup_iff.mp R.gh.2
  refine ⟨ndA, fun b hb => pA.symm.subset (by
    rcases hb with z | z | z
    · exact List.mem_append_left _ z
    · exact List.mem_append_right _ (List.mem_append_left _ z)
    · exact List.mem_append_right _ (List.mem_append_right _ z)), fun b hb => ?_, fun p hp => R.gh.1 p (F.hpre.symm.subset hp)⟩
  obtain ⟨o, e⟩ := (gK_fine E os dm um).footIn _ _ b R.gh hb
  exact Heap.lt_size e
theorem Framed.in (F : Framed q q' ga gp fr gq) {A h gb} (R : RawIn (gK E os dm um) q' A h gb) : RawIn (gK E os dm um) q A h gb := by
  obtain ⟨ndA, inA, lt_, obj⟩ := F.facts R
  obtain ⟨ec, ea, ep, lt, er, lg, hpre, hpost, lp, hper, hnews⟩ := F
  obtain ⟨n1, n2, n3⟩ := List.nodup_append.mp ndA
  obtain ⟨n4, n5, n6⟩ := List.nodup_append.mp n2
  refine ⟨R.big, R.hd, R.dep, R.uni, R.kt, fun a o e f => R.ktF a o e (inA a (.inr (.inl f))), fun i a o h1 h2 => ?_, fun a ha => ?_, ?_, ⟨fun p hp => obj p (List.mem_append_right _ (List.mem_append_left _ hp)), n4⟩, R.bare⟩
  · rw [ea] at h1
    rw [ep] at h2
    by_cases hi : i < q'.ads.length
    · rw [List.getElem?_append_left hi] at h1
      rw [List.getElem?_append_left (lt ▸ hi)] at h2
      exact R.rd i a o h1 h2
    · rw [List.getElem?_append_right (Nat.le_of_not_lt hi)] at h1
      rw [List.getElem?_append_right (Nat.le_of_not_lt (lt ▸ hi)), ← lt] at h2
      exact obj (a, o) (List.mem_append_left _ (zip2_get h1 h2))
  · rw [ea] at ha
    rcases List.mem_append.mp ha with ha | ha
    · exact ⟨fun f => (R.rdF a ha).1 (inA a (.inr (.inl f))), (R.rdF a ha).2⟩
    · refine ⟨fun f => n3 a ha a (List.mem_append_left _ f) rfl, ?_⟩
      show E.kt.get a = none
      cases e : E.kt.get a with
      | none => rfl
      | some o => exact absurd (inA a (.inl ha)) (R.ktF a o e)
  · rw [ea, List.nodup_append]
    exact ⟨R.nodup, n1, fun a ha b hb e => (R.rdF a ha).1 (e ▸ inA b (.inl hb))⟩
theorem Framed.left (F : Framed q q' ga gp fr gq) {A h gb x h' gb'} (R : RawIn (gK E os dm um) q' A h gb) (L : RawLeft (gK E os dm um) q h x h' gb') : RawLeft (gK E os dm um) q' h x h' gb' := by
  obtain ⟨ndA, inA, lt_, obj⟩ := F.facts R
  obtain ⟨ec, ea, ep, lt, er, lg, hpre, hpost, lp, hper, hnews⟩ := F
  obtain ⟨n1, n2, n3⟩ := List.nodup_append.mp ndA
  obtain ⟨n4, n5, n6⟩ := List.nodup_append.mp n2
  have lgq : ga.length = (gq x).length := by
    have := L.len
    rw [hpost, ea, List.length_append, List.length_append, lp] at this
    omega
  have nd : ((q'.news x).map (·.1) ++ olA (q'.gpost x)).Nodup := by
    obtain ⟨l, p, s⟩ := hper x
    have p1 := p.map (·.1)
    have s1 := s.map (·.1)
    rw [List.map_append] at p1
    refine p1.nodup_iff.mpr (s1.nodup ?_)
    rw [List.map_append, List.map_append, List.map_append, zip2_fst lgq]
    rw [List.nodup_append, List.nodup_append, List.nodup_append]
    refine ⟨⟨n1, ⟨L.gh.2, n5, fun a ha b hb e => ?_⟩, fun a ha b hb e => ?_⟩, L.newN, fun a ha b hb e => ?_⟩
    · subst e
      rcases L.foot a ha with y | y
      · exact n6 a y a hb rfl
      · exact absurd (lt_ a (inA a (.inr (.inr hb)))) (Nat.not_lt.mpr y)
    · subst e
      rcases List.mem_append.mp hb with hb | hb
      · rcases L.foot a hb with y | y
        · exact n3 a ha a (List.mem_append_left _ y) rfl
        · exact absurd (lt_ a (inA a (.inl ha))) (Nat.not_lt.mpr y)
      · exact n3 a ha a (List.mem_append_right _ hb) rfl
    · subst e
      obtain ⟨p, hp, rfl⟩ := List.mem_map.mp hb
      obtain ⟨_, y, z⟩ := L.news p hp
      rcases List.mem_append.mp ha with ha | ha
      · exact absurd (lt_ _ (inA _ (.inl ha))) (Nat.not_lt.mpr y)
      · rcases List.mem_append.mp ha with ha | ha
        · exact z ha
        · exact absurd (lt_ _ (inA _ (.inr (.inr ha)))) (Nat.not_lt.mpr y)
  have nd2 := List.nodup_append.mp nd
  have there : ∀ p ∈ zip2 ga (gq x) ++ (q.gpost x ++ fr) ++ q.news x, h'.get? p.1 = some p.2 := fun p hp => by
    rcases List.mem_append.mp hp with hp | hp
    · rcases List.mem_append.mp hp with hp | hp
      · obtain ⟨n, h1, h2⟩ := zip2_mem hp
        refine L.post (q'.ads.length + n) _ _ ?_ ?_
        · rw [ea, List.getElem?_append_right (by omega), Nat.add_sub_cancel_left]; exact h1
        · rw [hpost, List.getElem?_append_right (by rw [lp]; omega), lp, Nat.add_sub_cancel_left]; exact h2
      · rcases List.mem_append.mp hp with hp | hp
        · exact L.gh.1 p hp
        · have hb : p.1 ∈ olA fr := List.mem_map_of_mem hp
          refine L.keep _ _ (obj p (List.mem_append_right _ (List.mem_append_right _ hp))) (fun f => n6 _ f _ hb rfl) fun ha => ?_
          rw [ea] at ha
          rcases List.mem_append.mp ha with ha | ha
          · exact (R.rdF _ ha).1 (inA _ (.inr (.inr hb)))
          · exact n3 _ ha _ (List.mem_append_right _ hb) rfl
    · exact (L.news p hp).1
  have sub : ∀ p ∈ q'.news x ++ q'.gpost x, p ∈ zip2 ga (gq x) ++ (q.gpost x ++ fr) ++ q.news x := fun p hp => by
    obtain ⟨l, pm, s⟩ := hper x
    exact s.subset (pm.subset hp)
  refine ⟨L.size, L.gens, L.bare, fun i a o h1 h2 => ?_, lp x, fun p hp => ?_, nd2.1, ⟨fun p hp => there p (sub p (List.mem_append_right _ hp)), nd2.2.1⟩, fun b f => ?_, fun b o hb nf hn => ?_, L.le⟩
  · have hi := (List.getElem?_eq_some_iff.mp h1).1
    exact L.post i a o (by rw [ea, List.getElem?_append_left hi]; exact h1) (by rw [hpost, List.getElem?_append_left (by rw [lp]; exact hi)]; exact h2)
  · refine ⟨there p (sub p (List.mem_append_left _ hp)), ?_, fun f => nd2.2.2 _ (List.mem_map_of_mem hp) _ f rfl⟩
    exact (L.news p (hnews x p hp)).2.1
  · obtain ⟨p, hp, rfl⟩ := List.mem_map.mp f
    have := sub p (List.mem_append_right _ hp)
    rcases List.mem_append.mp this with z | z
    · rcases List.mem_append.mp z with z | z
      · exact .inl (inA _ (.inl (by rw [← zip2_fst lgq]; exact List.mem_map_of_mem z)))
      · rcases List.mem_append.mp z with z | z
        · rcases L.foot p.1 (List.mem_map_of_mem z) with y | y
          · exact .inl (inA _ (.inr (.inl y)))
          · exact .inr y
        · exact .inl (inA _ (.inr (.inr (List.mem_map_of_mem z))))
    · exact .inr (L.news p z).2.1
  · refine L.keep b o hb (fun f => nf (inA b (.inr (.inl f)))) fun ha => ?_
    rw [ea] at ha
    rcases List.mem_append.mp ha with ha | ha
    · exact hn ha
    · exact nf (inA b (.inl ha))
theorem frameF (F : Framed q q' ga gp fr gq) (H : RawOk (gK E os dm um) q) : RawOk (gK E os dm um) q' := by
  refine ⟨F.lt, fun A h gb d t R => ?_⟩
  have W := H.2 A h gb d t (F.in R)
  rw [F.ec] at W
  refine codeAny_mono W ?_
  rintro r s' ⟨x, h', gb', d', e, hr, L⟩
  exact ⟨x, h', gb', d', e, F.er ▸ hr, F.left R L⟩
end
theorem frame {E os dm um} {q q' : Raw OL} (H : RawOk (gK E os dm um) q) {ga : List Nat} {gp : List Obj} {fr : OL} (gq : (Nat → Nat) → List Obj)
    (ec : q.code = q'.code) (ea : q.ads = q'.ads ++ ga) (ep : q.pre = q'.pre ++ gp) (lt : q'.ads.length = q'.pre.length) (er : q.res = q'.res) (lg : ga.length = gp.length)
    (hpre : q'.g.Perm (zip2 ga gp ++ (q.g ++ fr))) (hpost : ∀ x, q.post x = q'.post x ++ gq x) (lp : ∀ x, (q'.post x).length = q'.ads.length)
    (hper : ∀ x, ∃ l, (q'.news x ++ q'.gpost x).Perm l ∧ l.Sublist (zip2 ga (gq x) ++ (q.gpost x ++ fr) ++ q.news x)) (hnews : ∀ x, ∀ p ∈ q'.news x, p ∈ q.news x) : RawOk (gK E os dm um) q' :=
  frameF ⟨ec, ea, ep, lt, er, lg, hpre, hpost, lp, hper, hnews⟩ H
section
variable {Γ : Type}
noncomputable def RunN (C : Cfg Γ) (n : Nat) (q : Raw Γ) (nxt : (Nat → Nat) → Code) (sc : List Nat) (xf : XF Γ) (js : List Nat) : Prop :=
  ∀ N t G sk X, pairL (startR C n q N t G sk X sc) q.ads.length js = pairR (startR C n q N t G sk X sc) (fun o => { q.exp (xOf o (xf o X N t G)) with ag := some (nxt (xOf o (xf o X N t G))) })
noncomputable def RunNL (C : Cfg Γ) (n : Nat) (q : Raw Γ) (nxt : (Nat → Nat) → Code) (sc : List Nat) (xf : XF Γ) (js : List Nat) (N t G : Nat) (sk : SkS) (X : XS) := pairL (startR C n q N t G sk X sc) q.ads.length js
noncomputable def RunNR (C : Cfg Γ) (n : Nat) (q : Raw Γ) (nxt : (Nat → Nat) → Code) (sc : List Nat) (xf : XF Γ) (js : List Nat) (N t G : Nat) (sk : SkS) (X : XS) := pairR (startR C n q N t G sk X sc) (fun o => { q.exp (xOf o (xf o X N t G)) with ag := some (nxt (xOf o (xf o X N t G))) })
theorem RunN.of {C : Cfg Γ} {n : Nat} {q : Raw Γ} {nxt : (Nat → Nat) → Code} {sc : List Nat} {xf : XF Γ} {js : List Nat} (h : RunNL C n q nxt sc xf js = RunNR C n q nxt sc xf js) : RunN C n q nxt sc xf js := fun N t G sk X => congrFun (congrFun (congrFun (congrFun (congrFun h N) t) G) sk) X
noncomputable def RunX (C : Cfg Γ) (n : Nat) (c : Code) (ads : List Nat) (pre : List Obj) (g : Γ) (sc : List Nat) (Q : Out Γ → XS → Result × List Obj × List (Nat × Obj) × Γ) (js : List Nat) : Prop :=
  ∀ N t G sk X, pairL (startR C n (rawK c ads pre g (.error .none) [] [] g) N t G sk X sc) ads.length js =
    pairR (startR C n (rawK c ads pre g (.error .none) [] [] g) N t G sk X sc) (fun o => (rawK c ads pre g (Q o X).1 (Q o X).2.1 (Q o X).2.2.1 (Q o X).2.2.2).exp (xOf o fun _ => 0))
noncomputable def RunXL (C : Cfg Γ) (n : Nat) (c : Code) (ads : List Nat) (pre : List Obj) (g : Γ) (sc : List Nat) (Q : Out Γ → XS → Result × List Obj × List (Nat × Obj) × Γ) (js : List Nat) (N t G : Nat) (sk : SkS) (X : XS) := pairL (startR C n (rawK c ads pre g (.error .none) [] [] g) N t G sk X sc) ads.length js
noncomputable def RunXR (C : Cfg Γ) (n : Nat) (c : Code) (ads : List Nat) (pre : List Obj) (g : Γ) (sc : List Nat) (Q : Out Γ → XS → Result × List Obj × List (Nat × Obj) × Γ) (js : List Nat) (N t G : Nat) (sk : SkS) (X : XS) := pairR (startR C n (rawK c ads pre g (.error .none) [] [] g) N t G sk X sc) (fun o => (rawK c ads pre g (Q o X).1 (Q o X).2.1 (Q o X).2.2.1 (Q o X).2.2.2).exp (xOf o fun _ => 0))
theorem RunX.of {C : Cfg Γ} {n : Nat} {c : Code} {ads : List Nat} {pre : List Obj} {g : Γ} {sc : List Nat} {Q : Out Γ → XS → Result × List Obj × List (Nat × Obj) × Γ} {js : List Nat} (h : RunXL C n c ads pre g sc Q js = RunXR C n c ads pre g sc Q js) : RunX C n c ads pre g sc Q js := fun N t G sk X => congrFun (congrFun (congrFun (congrFun (congrFun h N) t) G) sk) X
theorem RunX.toR {K : Gd Γ} (hE : K.E.Ok) (hF : K.Fine) (hdm : K.Lim) {c : Code} {ads : List Nat} {pre : List Obj} {g : Γ} {cut} {l : List (Seen Γ → Con Γ)} {n : Nat} {sc : List Nat} {Q} {js : List Nat}
    (run : RunX (K.E.cfg (conL l) cut) n c ads pre g sc Q js) (H : AllCon K.up l) (hl : ads.length = pre.length := by rfl) (hb : btOk pre 0 .nil = true := by rfl) (hj : jsOk ads.length js = true := by rfl) :
    RawR K c ads pre g (fun r ps nw g' => ∃ o X, r = (Q o X).1 ∧ ps = (Q o X).2.1 ∧ nw = (Q o X).2.2.1 ∧ g' = (Q o X).2.2.2) := by
  refine ⟨hl, fun A h gb d t R => K.codeRun hE hF R hl hb hdm (cut := cut) (fun ps j c h => H.con ps j c h) (n := n) (sc := sc) fun sk X => ?_⟩
  obtain ⟨o, e, ok, s⟩ := pair_out (run (h.objs.size - 209) t gb.length sk X)
  refine ⟨o, e, ok, fun h' gb' d' D hg hb => ?_⟩
  have s' := s
  unfold Out.sm Raw.exp at s'
  injection s' with s1 s2 s3 s4 s5 s6 s7 s8 s9 s10 s11
  rw [s2]
  show _
  have L : RawLeft K (rawK c ads pre g (Q o X).1 (Q o X).2.1 (Q o X).2.2.1 (Q o X).2.2.2) h (xOf o fun _ => 0) h' (gb' ++ o.gl) := Rep.left (q := rawK c ads pre g (Q o X).1 (Q o X).2.1 (Q o X).2.2.1 (Q o X).2.2.2) s hj D hg hb
  refine ⟨xOf o fun _ => 0, h', gb' ++ o.gl, d', _, _, _, ?_, ⟨o, X, s1, rfl, rfl, rfl⟩, by rw [s1]; exact L⟩
  rw [← s8, Nat.add_right_comm]
  rfl
end
theorem turnF {E os dm um} {q q' : Raw OL} {ga : List Nat} {gp : List Obj} {fr : OL} {gq : (Nat → Nat) → List Obj} (F : Framed q q' ga gp fr gq) (hE : E.Ok) (hdm : (gK E os dm um).Lim)
    {cut} {l : List (Seen OL → Con OL)} {n : Nat} {nxt : (Nat → Nat) → Code} {sc : List Nat} {xf : XF OL} {js : List Nat} (run : RunN (E.cfg (conL l) cut) n q nxt sc xf js) (H : AllCon (gK E os dm um).up l)
    {Ψ : Rel OL} (rest : ∀ x, RawR (gK E os dm um) (nxt x) q'.ads (q'.post x) (q'.gpost x) Ψ)
    (hl : q.ads.length = q.pre.length := by rfl) (hb : btOk q.pre 0 .nil = true := by rfl) (hj : jsOk q.ads.length js = true := by rfl) : RawR (gK E os dm um) q'.code q'.ads q'.pre q'.g Ψ := by
  refine ⟨F.lt, fun A h gb d t R => ?_⟩
  have R' : RawIn (gK E os dm um) q' A h gb := R.cast rfl rfl rfl
  have R1 := F.in R'
  rw [← F.ec]
  refine (gK E os dm um).codeRun hE (gK_fine ..) R1 hl hb hdm (cut := cut) (fun ps j c h => H.con ps j c h) (n := n) (sc := sc) fun sk X => ?_
  obtain ⟨o, e, ok, s⟩ := pair_out (run (h.objs.size - 209) t gb.length sk X)
  refine ⟨o, e, ok, fun h' gb' d' D hg hb => ?_⟩
  have s' := s
  unfold Out.sm Raw.exp at s'
  injection s' with s1 s2 s3 s4 s5 s6 s7 s8 s9 s10 s11
  generalize xOf o (xf o X (h.objs.size - 209) t gb.length) = x at *
  have hs : ({ o with ag := none } : Out OL).sm q.ads.length js = q.exp x := by
    unfold Out.sm Raw.exp
    rw [s1, s3, s4, s5, s6, s7, s8, s9, s10, s11]
  have L : RawLeft (gK E os dm um) q' h x h' (gb' ++ o.gl) := F.left R' (Rep.left hs hj D hg hb)
  rw [s2]
  show codeAny (model E.prog E.w) A (nxt x) _ _
  have R2 : RawIn (gK E os dm um) (rawK (nxt x) q'.ads (q'.post x) (q'.gpost x) (.error .none) [] [] (q'.gpost x)) A h' (gb' ++ o.gl) := L.next R' rfl rfl rfl F.lt
  have w := (rest x).2 A h' (gb' ++ o.gl) d' (o.B.t + o.i) R2
  rw [show o.B.t + 1 + o.i = o.B.t + o.i + 1 by omega]
  refine codeAny_mono w ?_
  rintro r s' ⟨x2, h2, gb2, d2, ps, nw, g', e', p, L2⟩
  exact ⟨x2, h2, gb2, d2, ps, nw, g', e', p, L.trans R' L2 rfl rfl rfl rfl rfl rfl rfl⟩
end Sol
namespace Sol
open PySem PySem.Spec PySem.Calls PyProof.Rows PySem.W PySem.W.X
noncomputable def itO (l i : Nat) : Obj := { cls := .type "list_iterator", data := .fields #[.ref (l + 209), .int i 0] }
noncomputable def itE (i : Nat) : Obj := { cls := .type "list_iterator", data := .fields #[.none, .int i 0] }
noncomputable def stopO (t : Nat) : Obj := { cls := .type "StopIteration", data := .fields #[.ref (t + 209), .none, .none, .none, .bool false, .none] }
noncomputable def nextQ (it l ep : Nat) (vs : List Value) (i : Nat) (v : Value) : Raw Unit where
  code := .call (.builtin "list_iterator.__next__") ⟨[.ref (it + 209)], []⟩
  ads := [it + 209, l + 209]
  pre := [itO l i, lsO vs ep]
  g := ()
  res := fun _ => ok v
  post := fun _ => [itO l (i + 1), lsO vs ep]
  news := fun _ => []
  gpost := fun _ => ()
noncomputable def nextE (it l ep : Nat) (vs : List Value) (n : Nat) : Raw Unit where
  code := .call (.builtin "list_iterator.__next__") ⟨[.ref (it + 209)], []⟩
  ads := [it + 209, l + 209]
  pre := [itO l n, lsO vs ep]
  g := ()
  res := fun y => .error (.ref (y 3 + 209))
  post := fun _ => [itE n, lsO vs ep]
  news := fun y => [(y 3 + 209, stopO (y 4))]
  gpost := fun _ => ()
section
variable {E : Env}
noncomputable def next_runP (E : Sol.Env) (n i : Nat) : Prop := ∀ it l ep f, RunQ (E.cfg noCon noCut) 30 (nextQ it l ep ((upto n 0).map f) i (f i)) [1, 1, 1, 2, 1, 1] x0 []
theorem next_run (n i : Nat) (hn : n < 12) (hi : i < n) : ∀ it l ep f, RunQ (E.cfg noCon noCut) 30 (nextQ it l ep ((upto n 0).map f) i (f i)) [1, 1, 1, 2, 1, 1] x0 [] := by
  refine lts12 (P := fun n => ∀ i, i < n → next_runP E n i) lts0 (lts1 ?_) (lts2 ?_ ?_) (lts3 ?_ ?_ ?_) (lts4 ?_ ?_ ?_ ?_) (lts5 ?_ ?_ ?_ ?_ ?_) (lts6 ?_ ?_ ?_ ?_ ?_ ?_) (lts7 ?_ ?_ ?_ ?_ ?_ ?_ ?_) (lts8 ?_ ?_ ?_ ?_ ?_ ?_ ?_ ?_) (lts9 ?_ ?_ ?_ ?_ ?_ ?_ ?_ ?_ ?_) (lts10 ?_ ?_ ?_ ?_ ?_ ?_ ?_ ?_ ?_ ?_) (lts11 ?_ ?_ ?_ ?_ ?_ ?_ ?_ ?_ ?_ ?_ ?_) n hn i hi <;> (intro it l ep f; exact RunQ.of (by kernel_rfl))
noncomputable def seX {Γ : Type} (_ : Out Γ) (_ : XS) (N _ _ : Nat) (j : Nat) : Nat := match j with
  | 0 => N + 1
  | _ => N
noncomputable def nextE_runP (E : Sol.Env) (n : Nat) : Prop := ∀ it l ep f, RunQ (E.cfg noCon noCut) 30 (nextE it l ep ((upto n 0).map f) n) [1, 1, 1, 2, 1, 1] seX [3]
theorem nextE_run (n : Nat) (hn : n < 12) : ∀ it l ep f, RunQ (E.cfg noCon noCut) 30 (nextE it l ep ((upto n 0).map f) n) [1, 1, 1, 2, 1, 1] seX [3] := by
  refine lts12 (P := nextE_runP E) ?_ ?_ ?_ ?_ ?_ ?_ ?_ ?_ ?_ ?_ ?_ ?_ n hn <;> (intro it l ep f; exact RunQ.of (by kernel_rfl))
end
section
variable {K : Gd Unit} (hE : K.E.Ok) (hF : K.Fine) (hdm : K.Lim)
include hE hF hdm
theorem next_ok {it l ep : Nat} {vs : List Value} {i : Nat} {v : Value} (h : vs[i]? = some v) (hL : vs.length < 12) : RawOk K (nextQ it l ep vs i v) := by
  obtain ⟨hi, rfl⟩ := List.getElem?_eq_some_iff.mp h
  have := RunQ.ok0 hE hF hdm (next_run vs.length i hL hi it l ep (fun j => vs.getD j .none))
  rw [list_upto] at this
  have e : vs.getD i .none = vs[i] := by simp [List.getD, List.getElem?_eq_getElem hi]
  rw [e] at this
  exact this
theorem nextE_ok {it l ep n : Nat} {vs : List Value} (h : n = vs.length) (hL : vs.length < 12) : RawOk K (nextE it l ep vs n) := by
  subst h
  have := RunQ.ok0 hE hF hdm (nextE_run vs.length hL it l ep (fun j => vs.getD j .none))
  rw [list_upto] at this
  exact this
end
theorem sum_ind {α : Type} [DecidableEq α] (a : α) : ∀ l : List α, (l.map fun x => if x = a then 1 else 0).sum = l.count a
  | [] => rfl
  | x :: l => by
    rw [List.map_cons, List.sum_cons, sum_ind a l, List.count_cons]
    by_cases h : x = a <;> simp [h] <;> omega
theorem perm_sum {α : Type} {l₁ l₂ : List α} (h : ∀ f : α → Nat, (l₁.map f).sum = (l₂.map f).sum) : l₁.Perm l₂ := by
  classical
  rw [List.perm_iff_count]
  intro a
  rw [← sum_ind, ← sum_ind]
  exact h _
section
variable {Γ : Type} {K : Gd Γ}
theorem lift_cg (F : K.Fine) {q : Raw Unit} (H : RawOk K.unit q) (g : Γ) (ix : List Nat) (h1 : ix.Nodup := by decide) (h2 : ix.length = q.ads.length := by rfl) : CG K ((q.at g).con ix) := (H.lift F g).cg ix h1 h2
end
theorem frame0 {E os dm um} {q q' : Raw OL} (H : RawOk (gK E os dm um) q) {ga : List Nat} {gp : List Obj} {fr : OL} (gq : (Nat → Nat) → List Obj)
    (ec : q.code = q'.code) (ea : q.ads = q'.ads ++ ga) (ep : q.pre = q'.pre ++ gp) (lt : q'.ads.length = q'.pre.length) (er : q.res = q'.res) (lg : ga.length = gp.length)
    (hpre : q'.g.Perm (zip2 ga gp ++ (q.g ++ fr))) (hpost : ∀ x, q.post x = q'.post x ++ gq x) (lp : ∀ x, (q'.post x).length = q'.ads.length) (hn : ∀ x, q'.news x = [])
    (hper : ∀ x, (q'.gpost x).Perm (zip2 ga (gq x) ++ (q.gpost x ++ fr))) : RawOk (gK E os dm um) q' :=
  frame H gq ec ea ep lt er lg hpre hpost lp (fun x => ⟨zip2 ga (gq x) ++ (q.gpost x ++ fr), by rw [hn]; exact hper x, List.sublist_append_left ..⟩) (fun x p hp => by rw [hn] at hp; cases hp)
end Sol
namespace Sol
open PySem PySem.Spec PySem.Calls PyProof.Rows PySem.W PySem.W.X
structure PileG where
  z : Pl
  cs : List Card
noncomputable def cards (cs : List Card) : OL := zip2 (adC cs) (obC cs)
noncomputable def obP (q : PileG) : OL := (q.z.p + 209, accO (q.z.d + 209) (adC q.cs) q.z.ep) :: (q.z.d + 209, iniO q.z.hh (q.z.u1 + 1) (q.z.u2 + 1)) :: cards q.cs
noncomputable def gA (ps : List PileG) (t80 t87 : Option Nat) : OL := (80, tab80 t80) :: (87, tab87 t87) :: ps.flatMap obP
noncomputable def lenGQ (c : Code) (p d ep : Nat) (ts : List Nat) (n : Int) (g : OL) (gf : Nat → OL) : Raw OL where
  code := c
  ads := [p + 209]
  pre := [accO (d + 209) ts ep]
  g := g
  res := fun y => ok (.int n (y 3 + 1))
  post := fun _ => [accO (d + 209) ts ep]
  news := fun _ => []
  gpost := fun y => gf (y 4)
noncomputable def len85 (p : Nat) : Code := .call (.ref 85) ⟨[.ref (p + 209)], []⟩
noncomputable def lenBC (p : Nat) : Code := .call (.builtin "len") ⟨[.ref (p + 209)], []⟩
noncomputable def tokR (r : Result) : Nat := match r with
  | .ok f => match f with
    | .ret v => tokV v - 1
    | _ => 0
  | .error _ => 0
noncomputable def lbX {Γ : Type} (o : Out Γ) (X : XS) (_ _ _ : Nat) (j : Nat) : Nat := match j with
  | 0 => tokR o.r
  | _ => X 0 4
noncomputable def LenBRun (E : Sol.Env) : Prop := ∀ (n : Nat), n < 11 → ∀ (p d ep : Nat) (ts : List Nat) (g : OL) (gf : Nat → OL), RunQ (E.cfg (conL [fun s => (lenGQ (len85 p) p d ep ts n g gf).con [0]]) noCut) 60 (lenGQ (lenBC p) p d ep ts n g gf) [1, 0, 0, 0, 0, 1] lbX []
noncomputable def lenN (p : Nat) (n : Int) (g : OL) (gf : Nat → OL) : Raw OL where
  code := lenBC p
  ads := []
  pre := []
  g := g
  res := fun y => ok (.int n (y 3 + 1))
  post := fun _ => []
  news := fun _ => []
  gpost := fun y => gf (y 4)
section
variable {E : Sol.Env} {os : OsState} {dm um : Nat} (hE : E.Ok) (hdm : (gK E os dm um).up.Lim)
include hE
theorem len85_ok (R : ClsRuns E) (hd : (gK E os dm um).Lim) {z : Pl} {cs : List Card} {T : Option Nat} (h : cs.length < 11) :
    RawOk (gK E os dm um) (lenGQ (len85 z.p) z.p z.d z.ep (adC cs) cs.length ((z.d + 209, iniO z.hh (z.u1 + 1) (z.u2 + 1)) :: (80, tab80 T) :: cards cs) (fun a => (z.d + 209, iniO z.hh (z.u1 + 1) (z.u2 + 1)) :: (80, tab80 (some (T.getD a))) :: cards cs)) := by
  have H := (lenL_ok (K := (gK E os dm um).unit) hE (Gd.unit_fine _) ⟨hd.dep, hd.uni⟩ R (z := z) (cs := cs) (T := T) h).lift (gK_fine E os dm um) []
  refine frame0 H (ga := (z.d + 209) :: 80 :: adC cs) (gp := iniO z.hh (z.u1 + 1) (z.u2 + 1) :: tab80 T :: obC cs) (fr := []) (fun y => iniO z.hh (z.u1 + 1) (z.u2 + 1) :: tab80 (some (T.getD (y 4))) :: obC cs) rfl rfl rfl rfl rfl ?_ ?_ (fun x => rfl) (fun x => rfl) (fun x => rfl) (fun x => ?_)
  · simp [adC, obC]
  · exact .of_eq (by show _ = zip2 _ _ ++ ([] ++ []); simp [zip2, cards]; exact rfl)
  · exact .of_eq (by show _ = zip2 _ _ ++ ([] ++ []); simp [zip2, cards]; exact rfl)
include hdm
theorem lenN_ok (R : ClsRuns E) (r : LenBRun E) {A B : List PileG} {q : PileG} {t80 t87 : Option Nat} (h : q.cs.length < 11) :
    RawOk (gK E os dm um) (lenN q.z.p q.cs.length (gA (A ++ q :: B) t80 t87) (fun a => gA (A ++ q :: B) (some (t80.getD a)) t87)) := by
  have c := len85_ok (os := os) (dm := dm + 95) (um := um + 270) hE R hdm (z := q.z) (cs := q.cs) (T := t80) h
  have H := RunQ.okC (K := gK E os dm um) hE (gK_fine ..) (Gd.up_lim hdm) (r q.cs.length h q.z.p q.z.d q.z.ep (adC q.cs) _ _) ⟨fun s => c.cg [0], trivial⟩
  refine frame0 H (ga := [q.z.p + 209]) (gp := [accO (q.z.d + 209) (adC q.cs) q.z.ep]) (fr := (87, tab87 t87) :: (A.flatMap obP ++ B.flatMap obP)) (fun y => [accO (q.z.d + 209) (adC q.cs) q.z.ep]) rfl rfl rfl rfl rfl rfl ?_ (fun x => rfl) (fun x => rfl) (fun x => rfl) (fun x => ?_)
  · refine perm_sum fun f => ?_
    show ((gA _ _ _).map f).sum = _
    simp only [lenGQ, gA, obP, zip2, List.map_cons, List.map_append, List.sum_cons, List.sum_append, List.flatMap_append, List.flatMap_cons, List.cons_append, List.nil_append, List.map_nil, List.sum_nil]
    omega
  · refine perm_sum fun f => ?_
    show ((gA _ _ _).map f).sum = _
    simp only [lenGQ, gA, obP, zip2, List.map_cons, List.map_append, List.sum_cons, List.sum_append, List.flatMap_append, List.flatMap_cons, List.cons_append, List.nil_append, List.map_nil, List.sum_nil]
    omega
end
end Sol
namespace Sol
open PySem PySem.Spec PySem.Calls PyProof.Rows PySem.W PySem.W.X
noncomputable def exprS (s : Stmt) : PySem.Expr := match s with
  | .Assign _ v _ => v
  | .Return (some v) _ => v
  | _ => .Name ⟨#[]⟩ default
noncomputable def scopeE (e : PySem.Expr) : Scope := match e with
  | .ListComp _ _ s _ => s
  | _ => default
noncomputable def compEnv (fd : FuncData) (e : PySem.Expr) (lc fr : Nat) : PySem.Env := { scope := scopeE e, locals := lc, globals := fd.globals, cells := fd.closure, qual := fd.qualname ++ a_locals, func := none, code := fd.code, frame := some fr, builtins := fd.builtins }
noncomputable def compLC (fd : FuncData) (e : PySem.Expr) (lc it acc fr : Nat) : Code := .compLoop e 0 (.ref (it + 209)) (.ref (acc + 209)) (compEnv fd e (lc + 209) (fr + 209))
noncomputable def compSC (fd : FuncData) (e : PySem.Expr) (lc it acc fr : Nat) : Code := .compStart e 0 (.ref (it + 209)) (.ref (acc + 209)) (compEnv fd e (lc + 209) (fr + 209))
noncomputable def dcO (es : List DictEntry) (ep : Nat) : Obj := { cls := .type "dict", data := .dict es.toArray ep }
noncomputable def n_pile : List Nat := [112, 105, 108, 101]
structure Rc where
  lc : Nat
  it : Nat
  acc : Nat
  l : Nat
  fr : Nat
  dep : Nat
  aep : Nat
  lep : Nat
  k : Nat
  b : Bool
  pv : Nat
  av : List Value
  vs : List Value
  i : Nat
noncomputable def Rc.pre (W : World) (z : Rc) (itO' : Obj) : List Obj := [dcO (match z.b with | true => [ky W n_pile z.k (.ref (z.pv + 209))] | false => []) z.dep, lsO z.av z.aep, itO', lsO z.vs z.lep]
noncomputable def rcC (E : Sol.Env) (z : Rc) : Code := compLC (fdOf E 198) (exprS (nthSt (bodyOf (fdOf E 198)) 0)) z.lc z.it z.acc z.fr
noncomputable def rcS (E : Sol.Env) (z : Rc) : Code := compSC (fdOf E 198) (exprS (nthSt (bodyOf (fdOf E 198)) 0)) z.lc z.it z.acc z.fr
noncomputable def rcQ (E : Sol.Env) (z : Rc) (c : Code) (r : Result) (g : OL) (post : (Nat → Nat) → List Obj) (gp : (Nat → Nat) → OL) : Raw OL where
  code := c
  ads := [z.lc + 209, z.acc + 209, z.it + 209, z.l + 209]
  pre := z.pre E.w (itO z.l z.i)
  g := g
  res := fun _ => r
  post := post
  news := fun _ => []
  gpost := gp
noncomputable def cutC : Code → Bool
  | .compLoop _ _ _ _ _ => true
  | _ => false
noncomputable def rcCon (z : Rc) (p : Nat) (n : Int) (g : OL) (gf : Nat → OL) : List (Seen OL → Con OL) := [
  fun s => ((nextQ z.it z.l z.lep z.vs z.i (.ref (p + 209))).at s.g).con [2, 3],
  fun s => (lenN p n g gf).con [],
  fun s => ((appQ z.acc z.aep z.av (.int (-n) (tkA s.c 1))).at s.g).con [1]]
noncomputable def Rc.to (z : Rc) (y : Nat → Nat) (p : Nat) (n : Int) : Rc := { z with dep := y 3, k := y 4, b := true, pv := p, av := z.av ++ [.int (-n) (y 55 + 1)], aep := z.aep + 1, i := z.i + 1 }
noncomputable def RcTurn (E : Sol.Env) : Prop := ∀ (z : Rc) (b : Bool) (p : Nat) (n : Nat) (g : OL) (gf : Nat → OL), RunT (E.cfg (conL (rcCon { z with b := b } p n g gf)) cutC) 120
  (rcQ E { z with b := b } (rcC E z) agR g (fun y => (Rc.to { z with b := b } y p n).pre E.w (itO z.l (z.i + 1))) fun y => gf (y 58)) (fun _ => rcC E z) [3, 1, 1, 1, 0, 0, 1, 2, 0, 3] fX
noncomputable def RcEnd (E : Sol.Env) : Prop := ∀ (z : Rc) (b : Bool) (g : OL), RunQ (E.cfg (conL [fun s => ((nextE z.it z.l z.lep z.vs z.i).at s.g).con [2, 3]]) cutC) 40
  (rcQ E { z with b := b } (rcC E z) nextR g (fun y => { z with b := b, dep := y 3, k := y 4 }.pre E.w (itE z.i)) fun _ => g) [3, 1, 5] fX []
noncomputable def RcStart (E : Sol.Env) : Prop := ∀ (z : Rc) (g : OL), RunT (E.cfg noCon cutC) 40
  (rcQ E { z with b := false } (rcS E z) agR g (fun y => { z with b := false }.pre E.w (itO z.l z.i)) fun _ => g) (fun _ => rcC E z) (match E.b2 with | true => [] | false => [3, 3, 0, 3, 3]) fX
noncomputable def IntsAre : List Value → List Int → Prop
  | [], [] => True
  | v :: l, n :: m => (∃ t, v = .int n (t + 1)) ∧ IntsAre l m
  | [], _ :: _ => False
  | _ :: _, [] => False
theorem IntsAre.snoc : ∀ {l : List Value} {m : List Int} {n : Int} {t : Nat}, IntsAre l m → IntsAre (l ++ [.int n (t + 1)]) (m ++ [n])
  | [], [], _, t, _ => ⟨⟨t, rfl⟩, trivial⟩
  | v :: l, n :: m, _, _, h => ⟨h.1, IntsAre.snoc (l := l) (m := m) h.2⟩
  | [], _ :: _, _, _, h => h.elim
  | _ :: _, [], _, _, h => h.elim
noncomputable def refP (q : PileG) : Value := .ref (q.z.p + 209)
noncomputable def negL (ps : List PileG) : List Int := ps.map fun q => -(q.cs.length : Int)
section
variable {E : Sol.Env} {os : OsState} {dm um : Nat} (hE : E.Ok) (hdm : (gK E os dm um).up.up.Lim)
include hE hdm
theorem rc_loop (R : ClsRuns E) (r0 : LenBRun E) (r1 : RcTurn E) (r2 : RcEnd E) {ps : List PileG} {t87 : Option Nat} (hps : ∀ q ∈ ps, q.cs.length < 11) (hl : ps.length < 12) :
    ∀ (B A : List PileG) (z : Rc) (t80 : Option Nat), ps = A ++ B → z.vs = ps.map refP → z.i = A.length → IntsAre z.av (negL A) → z.av.length = A.length →
    RawR (gK E os dm um) (rcC E z) [z.lc + 209, z.acc + 209, z.it + 209, z.l + 209] (z.pre E.w (itO z.l z.i)) (gA ps t80 t87)
      (fun r ob nw g' => r = nextR ∧ nw = [] ∧ ∃ z' : Rc, ∃ t, g' = gA ps t t87 ∧ ob = z'.pre E.w (itE ps.length) ∧ IntsAre z'.av (negL ps) ∧ z'.vs = z.vs ∧ z'.lep = z.lep ∧ z'.b = (z.b || !B.isEmpty)) := by
  intro B
  have hU := Gd.unit_fine (gK E os dm um).up
  have hF := gK_fine E os dm um
  have hFU := gK_fine E os (dm + 95) (um + 270)
  have hdU : (gK E os dm um).up.unit.Lim := ⟨(Gd.up_lim hdm).dep, (Gd.up_lim hdm).uni⟩
  induction B with
  | nil =>
    intro A z t80 hA hvs hi hav hlen
    have hn : z.vs.length < 12 := by rw [hvs, List.length_map]; exact hl
    have e : z.i = z.vs.length := by rw [hvs, List.length_map, hi, hA, List.append_nil]
    have ok := RunQ.okC (K := gK E os dm um) hE hF (Gd.up_lim (Gd.up_lim hdm)) (r2 z z.b (gA ps t80 t87)) ⟨fun s => lift_cg hFU (nextE_ok hE hU hdU e hn) s.g [2, 3], trivial⟩ rfl rfl rfl
    refine ok.toR.mono ?_
    rintro r ob nw g' ⟨y, rfl, rfl, rfl, rfl⟩
    refine ⟨rfl, rfl, { z with dep := y 3, k := y 4 }, t80, rfl, ?_, ?_, rfl, rfl, by simp⟩
    · show Rc.pre E.w _ (itE z.i) = _
      rw [hA, List.append_nil, ← hi]
    · rw [hA, List.append_nil]; exact hav
  | cons q B ih =>
    intro A z t80 hA hvs hi hav hlen
    have hn : z.vs.length < 12 := by rw [hvs, List.length_map]; exact hl
    have hget : z.vs[z.i]? = some (.ref (q.z.p + 209)) := by
      rw [hvs, hi, hA, List.map_append, List.map_cons, List.getElem?_append_right (by rw [List.length_map]; exact Nat.le_refl _), List.length_map, Nat.sub_self]; rfl
    have hlA : A.length < 12 := by rw [hA, List.length_append, List.length_cons] at hl; omega
    have cl : RawOk (gK E os dm um).up (lenN q.z.p q.cs.length (gA ps t80 t87) (fun a => gA ps (some (t80.getD a)) t87)) := by
      have := lenN_ok (os := os) (dm := dm + 95) (um := um + 270) hE hdm R r0 (A := A) (B := B) (q := q) (t80 := t80) (t87 := t87) (hps q (by rw [hA]; exact List.mem_append_right _ (.head _)))
      rw [← hA] at this
      exact this
    refine RunT.turnC (K := gK E os dm um) hE hF (Gd.up_lim (Gd.up_lim hdm)) (r1 z z.b q.z.p q.cs.length (gA ps t80 t87) (fun a => gA ps (some (t80.getD a)) t87))
      ⟨fun s => lift_cg hFU (next_ok hE hU hdU hget hn) s.g [2, 3], fun s => cl.cg [], fun s => lift_cg hFU (app_ok hE hU hdU (by rw [show z.av.length = A.length from hlen]; exact hlA)) s.g [1], trivial⟩ (fun x => ?_) rfl rfl
    have z' := ih (A ++ [q]) (Rc.to z x q.z.p q.cs.length) (some (t80.getD (x 58))) (by rw [hA, List.append_assoc]; rfl) hvs (by show z.i + 1 = _; rw [hi, List.length_append]; rfl)
      (by show IntsAre (z.av ++ [_]) _; unfold negL; rw [List.map_append]; exact hav.snoc) (by show (z.av ++ [_]).length = _; rw [List.length_append, List.length_append, hlen]; rfl)
    refine z'.mono ?_
    rintro r ob nw g' ⟨h1, h2, z2, t, h3, h4, h5, h6, h7, h8⟩
    refine ⟨h1, h2, z2, t, h3, h4, h5, h6, h7, ?_⟩
    rw [h8]
    show (true || _) = _
    simp
end
end Sol
namespace Sol
open PySem PySem.Spec PySem.Calls PyProof.Rows PySem.W PySem.W.X
noncomputable def stV (S : List Nat) (t : Nat) : Value := .str ⟨S.toArray⟩ (t + 1)
noncomputable def rX {Γ : Type} (o : Out Γ) (_ : XS) (_ _ _ : Nat) (_ : Nat) : Nat := tokR o.r
noncomputable def saddQ (S C : List Nat) (t u : Nat) : Raw Unit where
  code := .call (.builtin "str.__add__") ⟨[stV S t, stV C u], []⟩
  ads := []
  pre := []
  g := ()
  res := fun y => ok (stV (S ++ C) (y 3))
  post := fun _ => []
  news := fun _ => []
  gpost := fun _ => ()
noncomputable def slenQ (S : List Nat) (t : Nat) : Raw Unit where
  code := .call (.builtin "len") ⟨[stV S t], []⟩
  ads := []
  pre := []
  g := ()
  res := fun y => ok (.int S.length (y 3 + 1))
  post := fun _ => []
  news := fun _ => []
  gpost := fun _ => ()
noncomputable def smulQ (a : Int) (t u : Nat) (j : Nat) : Raw Unit where
  code := .call (.builtin "str.__mul__") ⟨[stV [97] t, .int a u], []⟩
  ads := []
  pre := []
  g := ()
  res := fun y => ok (stV (List.replicate j 97) (y 3))
  post := fun _ => []
  news := fun _ => []
  gpost := fun _ => ()
section
variable {E : Env}
noncomputable def sadd_runP (E : Sol.Env) (n m : Nat) : Prop := ∀ (f h : Nat → Nat) t u, RunQ (E.cfg noCon noCut) 20 (saddQ ((upto n 0).map f) ((upto m 0).map h) t u) [] rX []
theorem sadd_run (n m : Nat) (hn : n < 12) (hm : m < 7) : ∀ (f h : Nat → Nat) t u, RunQ (E.cfg noCon noCut) 20 (saddQ ((upto n 0).map f) ((upto m 0).map h) t u) [] rX [] := by
  refine lts12 (P := fun n => ∀ m, m < 7 → sadd_runP E n m) (lts7 ?_ ?_ ?_ ?_ ?_ ?_ ?_) (lts7 ?_ ?_ ?_ ?_ ?_ ?_ ?_) (lts7 ?_ ?_ ?_ ?_ ?_ ?_ ?_) (lts7 ?_ ?_ ?_ ?_ ?_ ?_ ?_) (lts7 ?_ ?_ ?_ ?_ ?_ ?_ ?_) (lts7 ?_ ?_ ?_ ?_ ?_ ?_ ?_) (lts7 ?_ ?_ ?_ ?_ ?_ ?_ ?_) (lts7 ?_ ?_ ?_ ?_ ?_ ?_ ?_) (lts7 ?_ ?_ ?_ ?_ ?_ ?_ ?_) (lts7 ?_ ?_ ?_ ?_ ?_ ?_ ?_) (lts7 ?_ ?_ ?_ ?_ ?_ ?_ ?_) (lts7 ?_ ?_ ?_ ?_ ?_ ?_ ?_) n hn m hm <;> (intro f h t u; exact RunQ.of (by kernel_rfl))
noncomputable def slen_runP (E : Sol.Env) (n : Nat) : Prop := ∀ (f : Nat → Nat) t, RunQ (E.cfg noCon noCut) 20 (slenQ ((upto n 0).map f) t) [0] rX []
theorem slen_run (n : Nat) (hn : n < 12) : ∀ (f : Nat → Nat) t, RunQ (E.cfg noCon noCut) 20 (slenQ ((upto n 0).map f) t) [0] rX [] := by
  refine lts12 (P := slen_runP E) ?_ ?_ ?_ ?_ ?_ ?_ ?_ ?_ ?_ ?_ ?_ ?_ n hn <;> (intro f t; exact RunQ.of (by kernel_rfl))
noncomputable def smul_runP (E : Sol.Env) (n : Nat) : Prop := ∀ t u, RunQ (E.cfg noCon noCut) 20 (smulQ (n : Nat) t u n) [] rX []
theorem smul_run (n : Nat) (hn : n < 12) : ∀ t u, RunQ (E.cfg noCon noCut) 20 (smulQ (n : Nat) t u n) [] rX [] := by
  refine lts12 (P := smul_runP E) ?_ ?_ ?_ ?_ ?_ ?_ ?_ ?_ ?_ ?_ ?_ ?_ n hn <;> (intro t u; exact RunQ.of (by kernel_rfl))
noncomputable def smul_negP (E : Sol.Env) (n : Nat) : Prop := ∀ t u, RunQ (E.cfg noCon noCut) 20 (smulQ (.negSucc n) t u 0) [] rX []
theorem smul_neg (n : Nat) (hn : n < 12) : ∀ t u, RunQ (E.cfg noCon noCut) 20 (smulQ (.negSucc n) t u 0) [] rX [] := by
  refine lts12 (P := smul_negP E) ?_ ?_ ?_ ?_ ?_ ?_ ?_ ?_ ?_ ?_ ?_ ?_ n hn <;> (intro t u; exact RunQ.of (by kernel_rfl))
end
section
variable {K : Gd Unit} (hE : K.E.Ok) (hF : K.Fine) (hdm : K.Lim)
include hE hF hdm
theorem sadd_ok {S C : List Nat} {t u : Nat} (hS : S.length < 12) (hC : C.length < 7) : RawOk K (saddQ S C t u) := by
  have := RunQ.ok0 hE hF hdm (sadd_run S.length C.length hS hC (fun j => S.getD j 0) (fun j => C.getD j 0) t u)
  rw [list_upto, list_upto] at this
  exact this
theorem slen_ok {S : List Nat} {t : Nat} (hS : S.length < 12) : RawOk K (slenQ S t) := by
  have := RunQ.ok0 hE hF hdm (slen_run S.length hS (fun j => S.getD j 0) t)
  rw [list_upto] at this
  exact this
theorem smul_ok {a : Int} {t u : Nat} (h : a < 12) (h' : -12 ≤ a) : RawOk K (smulQ a t u a.toNat) := by
  cases a with
  | ofNat n => exact RunQ.ok0 hE hF hdm (smul_run n (by simp at h; omega) t u)
  | negSucc n => exact RunQ.ok0 hE hF hdm (smul_neg n (by omega) t u)
end
end Sol
namespace Sol
open PySem PySem.Spec PySem.Calls PyProof.Rows PySem.W PySem.W.X
noncomputable def n_piles : List Nat := [112, 105, 108, 101, 115]
noncomputable def n_size : List Nat := [115, 105, 122, 101]
noncomputable def n_row : List Nat := [114, 111, 119]
structure Rw where
  f : Nat
  h : Nat
  l : Nat
  ep : Nat
  lep : Nat
  k : Nat → Nat
  s : Int
  st : Nat
  row : List Nat
  rt : Nat
noncomputable def Rw.pre (W : World) (z : Rw) (L : List (Int × Nat)) : List Obj :=
  [frO [ky W n_piles (z.k 0) (.ref (z.l + 209)), ky W n_size (z.k 1) (.int z.s (z.st + 1)), ky W n_heap (z.k 2) (.ref (z.h + 209)), ky W n_row (z.k 3) (stV z.row z.rt)] z.ep, lsI L z.lep]
noncomputable def rwC (E : Sol.Env) (f : Nat) : Code := whileC (nthSt (bodyOf (fdOf E 198)) 3) (envF (fdOf E 198) 198 (f + 209))
noncomputable def rwQ (E : Sol.Env) (z : Rw) (L : List (Int × Nat)) (r : Result) (post : (Nat → Nat) → List Obj) : Raw Unit where
  code := rwC E z.f
  ads := [z.f + 209, z.h + 209]
  pre := z.pre E.w L
  g := ()
  res := fun _ => r
  post := post
  news := fun _ => []
  gpost := fun _ => ()
noncomputable def Rw.to (z : Rw) (y : Nat → Nat) (row : List Nat) (lep : Nat) : Rw := { z with ep := y 3, k := fun i => y (4 + i), st := y 15, row := row, rt := y 17, lep := lep }
noncomputable def rwNe (z : Rw) (L : List (Int × Nat)) (r : Bool) : Seen Unit → Con Unit := fun s => (neNilQ z.h z.lep (rfA s.c 1) (epO (s.T.get 2)) L r).con [1, 2]
noncomputable def llenN (id : String) (h ep : Nat) (vs : List Value) (n : Nat) : Raw Unit where
  code := .call (.builtin id) ⟨[.ref (h + 209)], []⟩
  ads := [h + 209]
  pre := [lsO vs ep]
  g := ()
  res := fun y => ok (.int n (y 3 + 1))
  post := fun _ => [lsO vs ep]
  news := fun _ => []
  gpost := fun _ => ()
theorem llenN_eq {id : String} {h ep n : Nat} {vs : List Value} (e : vs.length = n) : llenN id h ep vs n = llenQ id h ep vs := by subst e; rfl
noncomputable def rwConA (j : Nat) (z : Rw) (m p : Int × Nat) (M L' : List (Int × Nat)) (i : Nat) : List (Seen Unit → Con Unit) := [
  rwNe z ((m :: M) ++ [p]) true,
  fun s => (lpopQ z.h z.lep (m :: M) p).con [1],
  fun s => (llenN "list.__len__" z.h (z.lep + 1) ((m :: M).map iv) (j + 1)).con [1],
  fun s => (getQ z.h (z.lep + 1) (m :: M) 0 (tkA s.c 1) m).con [1],
  fun s => (setQ z.h (z.lep + 1) (m :: M) 0 (tkA s.c 1) p 0).con [1],
  fun s => (suFnQ z.h (z.lep + 1) (p :: M) 0 (tkA s.c 1 - 1) L').con [1],
  fun s => (letQ (-m.1) (tkA s.c 1) (tkA s.c 0) i).con [],
  fun s => (saddQ z.row [97 + i] (tkA s.c 0 - 1) (tkA s.c 1 - 1)).con []]
noncomputable def rwConB (z : Rw) (p : Int × Nat) (i : Nat) : List (Seen Unit → Con Unit) := [
  rwNe z [p] true,
  fun s => (lpopQ z.h z.lep [] p).con [1],
  fun s => (llenQ "list.__len__" z.h (z.lep + 1) []).con [1],
  fun s => (letQ (-p.1) (tkA s.c 1) (tkA s.c 0) i).con [],
  fun s => (saddQ z.row [97 + i] (tkA s.c 0 - 1) (tkA s.c 1 - 1)).con []]
noncomputable def RwEnd (E : Sol.Env) : Prop := ∀ z : Rw, RunQ (E.cfg (conL [rwNe z [] false]) noCut) 60 (rwQ E z [] nextR fun y => (z.to y z.row z.lep).pre E.w []) [1, 2, 3, 2, 1] fX []
noncomputable def RwA (E : Sol.Env) : Prop := ∀ j, j < 11 → ∀ (z : Rw) (m p : Int × Nat) (M L' : List (Int × Nat)) (i : Nat), RunT (E.cfg (conL (rwConA j z m p M L' i)) cutW) 300
  (rwQ E z ((m :: M) ++ [p]) agR fun y => (z.to y (z.row ++ [97 + i]) (z.lep + 1)).pre E.w L') (fun _ => rwC E z.f)
  [1, 2, 3, 2, 1, 1, 0, 1, 0, 0, 0, 0, 4, 4, 0, 4, 2, 2, 2, 2, 2, 4, 4, 4, 2, 2, 0, 2, 3, 4, 2, 2, 2, 4, 4, 4, 4, 4, 2, 2, 5, 0, 4, 0, 6, 4, 0, 7, 8, 1, 1] fX
noncomputable def RwB (E : Sol.Env) : Prop := ∀ (z : Rw) (p : Int × Nat) (i : Nat), RunT (E.cfg (conL (rwConB z p i)) cutW) 300
  (rwQ E z [p] agR fun y => (z.to y (z.row ++ [97 + i]) (z.lep + 1)).pre E.w []) (fun _ => rwC E z.f)
  [1, 2, 3, 2, 1, 1, 0, 1, 0, 0, 0, 0, 4, 4, 0, 4, 2, 2, 2, 2, 2, 4, 4, 4, 2, 2, 0, 2, 3, 4, 0, 4, 5, 1, 1] fX
end Sol
namespace Sol
open PySem PySem.Spec PySem.Calls PyProof.Rows PySem.W PySem.W.X
noncomputable def PP (x : Int × Nat) : Prop := -10 ≤ x.1 ∧ x.1 ≤ 0
noncomputable def AllP (L : List (Int × Nat)) : Prop := ∀ x ∈ L, PP x
theorem AllP.getD {L : List (Int × Nat)} (h : AllP L) (i : Nat) : PP (L.getD i (0, 0)) := by
  by_cases hi : i < L.length
  · simp only [List.getD, List.getElem?_eq_getElem hi, Option.getD_some]; exact h _ (List.getElem_mem hi)
  · simp only [List.getD, List.getElem?_eq_none (Nat.le_of_not_lt hi), Option.getD_none]; exact ⟨by decide, by decide⟩
theorem AllP.set {L : List (Int × Nat)} (h : AllP L) {i : Nat} {v : Int × Nat} (hv : PP v) : AllP (L.set i v) := fun x hx => by
  rcases List.mem_or_eq_of_mem_set hx with z | z
  · exact h x z
  · exact z ▸ hv
theorem suF_P (n : Nat) : ∀ f p L, AllP L → AllP (suF n f p L).2
  | 0, _, _, h => h
  | f + 1, p, L, h => by
    unfold suF
    repeat' split
    all_goals first | exact h | exact suF_P n f _ _ (h.set (h.getD _))
theorem sdF_P (w : Int) : ∀ f s p L, AllP L → AllP (sdF w f s p L).2
  | 0, _, _, _, h => h
  | f + 1, s, p, L, h => by
    unfold sdF
    repeat' split
    all_goals first | exact h | exact sdF_P w f _ _ _ (h.set (h.getD _))
theorem siftF_P {L : List (Int × Nat)} (h : AllP L) (p : Nat) : AllP (siftF L p) := by
  unfold siftF
  exact (sdF_P _ _ _ _ _ ((suF_P _ _ _ _ h).set (h.getD _))).set (h.getD _)
noncomputable def hpop (L : List (Int × Nat)) : (Int × Nat) × List (Int × Nat) := match L.dropLast with
  | [] => (L.getLastD (0, 0), [])
  | m :: M => (m, siftF (L.getLastD (0, 0) :: M) 0)
noncomputable def rowF : Nat → List (Int × Nat) → List Nat
  | 0, _ => []
  | f + 1, L => match L with
    | [] => []
    | _ :: _ => (97 + (-(hpop L).1.1).toNat) :: rowF f (hpop L).2
theorem hpop_snoc0 (p : Int × Nat) : hpop [p] = (p, []) := rfl
theorem hpop_snoc (m p : Int × Nat) (M : List (Int × Nat)) : hpop ((m :: M) ++ [p]) = (m, siftF (p :: M) 0) := by
  unfold hpop
  rw [List.dropLast_concat, List.getLastD_concat]
theorem PP.neg {x : Int × Nat} (h : PP x) : -x.1 = ((-x.1).toNat : Int) ∧ (-x.1).toNat < 11 := by
  obtain ⟨a, b⟩ := h
  exact ⟨by omega, by omega⟩
structure RwRuns (E : Sol.Env) : Prop where
  e : RwEnd E
  a : RwA E
  b : RwB E
section
variable {K : Gd Unit} (hE : K.E.Ok) (hF : K.Fine) (hdm : K.up.up.up.Lim)
include hE hF hdm
theorem rwNe_ok (z : Rw) {L : List (Int × Nat)} {r : Bool} (hr : r = !L.isEmpty) : ∀ s, CG K.up (rwNe z L r s) := fun s => by
  have hd : K.up.Lim := Gd.up_lim (Gd.up_lim hdm)
  have := neNil_ok (K := K.up) hE (Gd.up_fine hF) hd (h := z.h) (ep := z.lep) (e := rfA s.c 1) (ep2 := epO (s.T.get 2)) hr
  exact this.cg [1, 2]
theorem rw_loop (H : HqRuns K.E) (R : RwRuns K.E) : ∀ (n : Nat) (L : List (Int × Nat)) (z : Rw), L.length = n → n + z.row.length < 12 → n < 11 → AllP L →
    RawR K (rwC K.E z.f) [z.f + 209, z.h + 209] (z.pre K.E.w L) () (fun r ps nw _ => r = nextR ∧ nw = [] ∧ ∃ y lep, ps = (z.to y (z.row ++ rowF n L) lep).pre K.E.w []) := by
  have hU := Gd.up_fine hF
  have hd1 : K.up.Lim := Gd.up_lim (Gd.up_lim hdm)
  have hd2 : K.up.up.Lim := Gd.up_lim hdm
  intro n
  induction n with
  | zero =>
    intro L z hL _ _ _
    have e : L = [] := List.length_eq_zero_iff.mp hL
    subst e
    have ok := RunQ.okC hE hF (Gd.up_lim hd1) (R.e z) ⟨rwNe_ok hE hF hdm z rfl, trivial⟩
    refine ok.toR.mono ?_
    rintro r ps nw g ⟨y, rfl, rfl, rfl, -⟩
    refine ⟨rfl, rfl, y, z.lep, ?_⟩
    show _ = (z.to y (z.row ++ []) z.lep).pre K.E.w []
    rw [List.append_nil]
    rfl
  | succ n ih =>
    intro L z hL hrow hn hP
    have hne : L ≠ [] := fun e => by subst e; cases hL
    obtain ⟨M, p, rfl⟩ : ∃ M p, L = M ++ [p] := ⟨L.dropLast, L.getLast hne, (List.dropLast_concat_getLast hne).symm⟩
    have hM : M.length = n := by rw [List.length_append, List.length_singleton] at hL; omega
    have hpP : PP p := hP p (List.mem_append_right _ (.head _))
    have hr1 : ∀ i, z.row.length < 12 ∧ [97 + i].length < 7 := fun i => ⟨by omega, by show 1 < 7; decide⟩
    cases M with
    | nil =>
      subst hM
      obtain ⟨e1, e2⟩ := hpP.neg
      generalize hi : (-p.1).toNat = i at e1 e2
      refine RunT.turnC hE hF (Gd.up_lim hd1) (R.b z p i) ⟨rwNe_ok hE hF hdm z rfl, fun s => (lpop_ok (K := K.up) hE hU hd1 (by show 0 < 11; decide)).cg [1], fun s => (llen_ok (K := K.up) hE hU hd1).cg [1], fun s => (let_ok (K := K.up) hE hU hd1 e1 e2).cg [], fun s => (sadd_ok (K := K.up) hE hU hd1 (hr1 i).1 (hr1 i).2).cg [], trivial⟩ fun x => ?_
      have z' := ih [] (z.to x (z.row ++ [97 + i]) (z.lep + 1)) rfl (by show 0 + (z.row ++ [97 + i]).length < 12; rw [List.length_append]; simp; omega) (by omega) (fun x hx => nomatch hx)
      refine z'.mono ?_
      rintro r ps nw g ⟨h1, h2, y, lep, h3⟩
      refine ⟨h1, h2, y, lep, ?_⟩
      rw [h3]
      have e : rowF (([] : List (Int × Nat)).length + 1) ([] ++ [p]) = [97 + i] := by
        show (97 + (-(hpop [p]).1.1).toNat) :: _ = _
        rw [hpop_snoc0, hi]; rfl
      rw [e]
      show (Rw.to z y ((z.row ++ [97 + i]) ++ []) lep).pre K.E.w [] = _
      rw [List.append_nil]
    | cons m M =>
      have hmP : PP m := hP m (List.mem_append_left _ (.head _))
      have hMl : M.length + 1 = n := hM
      obtain ⟨e1, e2⟩ := hmP.neg
      generalize hi : (-m.1).toNat = i at e1 e2
      have pL : (p :: M).length = n := hMl
      have su : ∀ s : Seen Unit, RawOk K.up (suFnQ z.h (z.lep + 1) (p :: M) 0 (tkA s.c 1 - 1) (siftF (p :: M) 0)) := fun s => suFn_ok (K := K.up) hE hU hdm H (pos := 0) (p := 0) rfl (by rw [pL]; omega) (by rw [pL]; omega)
      have ln : ∀ s : Seen Unit, RawOk K.up (llenN "list.__len__" z.h (z.lep + 1) ((m :: M).map iv) (M.length + 1)) := fun s => by
        rw [llenN_eq (by rw [List.length_map]; rfl)]
        exact llen_ok (K := K.up) hE hU hd1
      refine RunT.turnC hE hF (Gd.up_lim hd1) (R.a M.length (by omega) z m p M (siftF (p :: M) 0) i) ⟨rwNe_ok hE hF hdm z rfl, fun s => (lpop_ok (K := K.up) hE hU hd1 (by rw [hM]; omega)).cg [1], fun s => (ln s).cg [1],
        fun s => (get_ok (K := K.up) hE hU hd1 (i := 0) rfl rfl (by rw [hM]; omega)).cg [1], fun s => (set_ok (K := K.up) hE hU hd1 (i := 0) rfl (by rw [hM]; omega) (by rw [hM]; omega)).cg [1], fun s => (su s).cg [1],
        fun s => (let_ok (K := K.up) hE hU hd1 e1 e2).cg [], fun s => (sadd_ok (K := K.up) hE hU hd1 (hr1 i).1 (hr1 i).2).cg [], trivial⟩ fun x => ?_
      have z' := ih (siftF (p :: M) 0) (z.to x (z.row ++ [97 + i]) (z.lep + 1)) (by rw [siftF_len]; exact pL) (by show n + (z.row ++ [97 + i]).length < 12; rw [List.length_append]; simp; omega) (by omega)
        (siftF_P (fun x hx => by
          rcases List.mem_cons.mp hx with rfl | hx
          · exact hpP
          · exact hP x (List.mem_append_left _ (.tail _ hx))) 0)
      refine z'.mono ?_
      rintro r ps nw g ⟨h1, h2, y, lep, h3⟩
      refine ⟨h1, h2, y, lep, ?_⟩
      rw [h3]
      have e : rowF (n + 1) ((m :: M) ++ [p]) = (97 + i) :: rowF n (siftF (p :: M) 0) := by
        show (97 + (-(hpop ((m :: M) ++ [p])).1.1).toNat) :: rowF n (hpop ((m :: M) ++ [p])).2 = _
        rw [hpop_snoc, hi]
      rw [e]
      show (Rw.to z y ((z.row ++ [97 + i]) ++ _) lep).pre K.E.w [] = _
      rw [List.append_assoc]; rfl
end
end Sol
namespace Sol
open PySem PySem.Spec PySem.Calls PyProof.Rows PySem.W PySem.W.X
noncomputable def hpQ (h lep : Nat) (L L' : List (Int × Nat)) : Raw Unit where
  code := .call (.ref 174) ⟨[.ref (h + 209)], []⟩
  ads := [h + 209]
  pre := [lsI L lep]
  g := ()
  res := fun _ => ok .none
  post := fun _ => [lsI L' lep]
  news := fun _ => []
  gpost := fun _ => ()
noncomputable def hpSus (h lep : Nat) (Ls : Nat → List (Int × Nat)) : Nat → Nat → List (Seen Unit → Con Unit)
  | 0, _ => []
  | r + 1, j => (fun s => (suFnQ h lep (Ls j) r (tkA s.c 1 - 1) (Ls (j + 1))).con [0]) :: hpSus h lep Ls r (j + 1)
noncomputable def hpTurns : Nat → Nat → List Nat
  | 0, _ => [4, 0, 4, 4, 4, 4, 6]
  | m + 1, j => [4, 0, 4, 4, 4, 4, 4, 4, 4, 4, 2, 2, 0, 2, 2, 0, j + 2] ++ hpTurns m (j + 1)
noncomputable def hpSc (m : Nat) : List Nat := [0, 0, 2, 2, 0, 0, 0, 2, 1, 2, 2, 0, 0, 0, 0, 2, 0, 0, 0, 3, 3, 0, 3, 3, 0, 0, 3, 0, 3, 3, 3, 3, 4, 4, 4, 0, 4, 4, 0] ++ hpTurns m 0
noncomputable def HpRunN (E : Sol.Env) (n : Nat) : Prop := ∀ (h lep : Nat) (Ls : Nat → List (Int × Nat)), RunQ (E.cfg (conL ((fun s => (llenN "len" h lep ((Ls 0).map iv) n).con [0]) :: hpSus h lep Ls (n / 2) 0)) noCut) 900 (hpQ h lep (Ls 0) (Ls (n / 2))) (hpSc (n / 2)) x0 []
noncomputable def HpRun (E : Sol.Env) : Prop := ∀ n, n < 11 → HpRunN E n
noncomputable def hpL (L : List (Int × Nat)) (m : Nat) : Nat → List (Int × Nat)
  | 0 => L
  | j + 1 => siftF (hpL L m j) (m - 1 - j)
noncomputable def heapifyF (L : List (Int × Nat)) : List (Int × Nat) := hpL L (L.length / 2) (L.length / 2)
theorem hpL_len (L : List (Int × Nat)) (m : Nat) : ∀ j, (hpL L m j).length = L.length
  | 0 => rfl
  | j + 1 => by rw [hpL, siftF_len, hpL_len L m j]
theorem hpL_P {L : List (Int × Nat)} (h : AllP L) (m : Nat) : ∀ j, AllP (hpL L m j)
  | 0 => h
  | j + 1 => siftF_P (hpL_P h m j) _
section
variable {K : Gd Unit} (hE : K.E.Ok) (hF : K.Fine) (hdm : K.up.up.up.Lim)
include hE hF hdm
theorem hpSus_ok (H : HqRuns K.E) {h lep : Nat} {L : List (Int × Nat)} {m : Nat} (hm : m ≤ L.length) (hL : L.length < 12) : ∀ r j, r + j = m → AllCon K.up (hpSus h lep (hpL L m) r j)
  | 0, _, _ => trivial
  | r + 1, j, e => by
    refine ⟨fun s => ?_, hpSus_ok H hm hL r (j + 1) (by omega)⟩
    have := suFn_ok (K := K.up) hE (Gd.up_fine hF) hdm H (h := h) (lep := lep) (pt := tkA s.c 1 - 1) (L := hpL L m j) (pos := r) (p := r) rfl (by rw [hpL_len]; omega) (by rw [hpL_len]; exact hL)
    have e' : siftF (hpL L m j) r = hpL L m (j + 1) := by rw [hpL, show m - 1 - j = r by omega]
    rw [e'] at this
    exact this.cg [0]
theorem hp_ok (H : HqRuns K.E) (R : HpRun K.E) {h lep : Nat} {L : List (Int × Nat)} (hL : L.length < 11) : RawOk K (hpQ h lep L (heapifyF L)) := by
  refine RunQ.okC hE hF (Gd.up_lim (Gd.up_lim (Gd.up_lim hdm))) (R L.length hL h lep (hpL L (L.length / 2))) ⟨fun s => ?_, hpSus_ok hE hF hdm H (Nat.div_le_self ..) (by omega) _ _ (by omega)⟩
  have := len_okB (K := K.up) hE (Gd.up_fine hF) (Gd.up_lim (Gd.up_lim hdm)) (h := h) (ep := lep) (vs := L.map iv) (by rw [List.length_map]; omega)
  rw [← llenN_eq (n := L.length) (by rw [List.length_map])] at this
  exact this.cg [0]
end
noncomputable def er (p : Int × Nat) : Int × Nat := (p.1, 0)
theorem er_fst (x y : Int × Nat) : decide ((er x).1 < (er y).1) = decide (x.1 < y.1) := rfl
theorem er_fst2 (w : Int) (y : Int × Nat) : decide (w < (er y).1) = decide (w < y.1) := rfl
theorem getD_er (L : List (Int × Nat)) (i : Nat) : (L.map er).getD i (0, 0) = er (L.getD i (0, 0)) := by
  simp only [List.getD, List.getElem?_map]
  cases L[i]? <;> rfl
theorem suF_er (n : Nat) : ∀ f p L, suF n f p (L.map er) = ((suF n f p L).1, (suF n f p L).2.map er)
  | 0, _, _ => rfl
  | f + 1, p, L => by
    unfold suF
    rw [getD_er, getD_er]
    rw [er_fst]
    cases Nat.blt (2 * p + 1) n with
    | false => rfl
    | true =>
      cases Nat.blt (2 * p + 2) n with
      | false => simp only [← List.map_set]; exact suF_er n f _ _
      | true =>
        cases decide ((L.getD (2 * p + 1) (0, 0)).1 < (L.getD (2 * p + 2) (0, 0)).1) with
        | true => simp only [← List.map_set]; exact suF_er n f _ _
        | false => simp only [← List.map_set]; exact suF_er n f _ _
theorem sdF_er (w : Int) : ∀ f s p L, sdF w f s p (L.map er) = ((sdF w f s p L).1, (sdF w f s p L).2.map er)
  | 0, _, _, _ => rfl
  | f + 1, s, p, L => by
    unfold sdF
    rw [getD_er]
    rw [er_fst2]
    cases Nat.blt s p with
    | false => rfl
    | true =>
      cases decide (w < (L.getD ((p - 1) / 2) (0, 0)).1) with
      | true => simp only [← List.map_set]; exact sdF_er w f _ _ _
      | false => rfl
theorem siftF_er (L : List (Int × Nat)) (p : Nat) : siftF (L.map er) p = (siftF L p).map er := by
  have a : siftA (L.map er) p = ((siftA L p).1, (siftA L p).2.map er) := by unfold siftA; rw [List.length_map, suF_er]
  have b : siftB (L.map er) p = ((siftB L p).1, (siftB L p).2.map er) := by
    unfold siftB
    rw [getD_er, a]
    show sdF (L.getD p (0, 0)).1 12 p (siftA L p).1 (((siftA L p).2.map er).set (siftA L p).1 (er (L.getD p (0, 0)))) = _
    rw [← List.map_set, sdF_er]
  unfold siftF
  rw [getD_er, b]
  show (List.map er (siftB L p).2).set (siftB L p).1 (er _) = _
  rw [← List.map_set]
theorem hpL_er (L : List (Int × Nat)) (m : Nat) : ∀ j, hpL (L.map er) m j = (hpL L m j).map er
  | 0 => rfl
  | j + 1 => by rw [hpL, hpL_er L m j, siftF_er]; rfl
theorem heapifyF_er (L : List (Int × Nat)) : heapifyF (L.map er) = (heapifyF L).map er := by unfold heapifyF; rw [List.length_map, hpL_er]
theorem hpop_er (L : List (Int × Nat)) : hpop (L.map er) = (er (hpop L).1, (hpop L).2.map er) := by
  unfold hpop
  have e1 : (L.map er).dropLast = L.dropLast.map er := by rw [List.map_dropLast]
  have e2 : (L.map er).getLastD (0, 0) = er (L.getLastD (0, 0)) := by
    cases L with
    | nil => rfl
    | cons a L => rw [List.getLastD_eq_getLast?, List.getLastD_eq_getLast?, List.getLast?_map]; cases (a :: L).getLast? <;> rfl
  rw [e1, e2]
  cases L.dropLast with
  | nil => rfl
  | cons m M =>
    show (er m, siftF ((L.getLastD (0, 0) :: M).map er) 0) = _
    rw [siftF_er]
theorem rowF_er : ∀ f L, rowF f (L.map er) = rowF f L
  | 0, _ => rfl
  | f + 1, [] => rfl
  | f + 1, a :: L => by
    show (97 + (-(hpop ((a :: L).map er)).1.1).toNat) :: rowF f (hpop ((a :: L).map er)).2 = _
    rw [hpop_er, rowF_er f]
    rfl
noncomputable def rowL (ns : List Int) : List Nat := rowF ns.length (heapifyF (ns.map fun a => (a, 0)))
theorem rowL_eq {L : List (Int × Nat)} {ns : List Int} (h : L.map (·.1) = ns) : rowF L.length (heapifyF L) = rowL ns := by
  unfold rowL
  have e : ns.map (fun a => (a, 0)) = L.map er := by rw [← h, List.map_map]; rfl
  rw [e, heapifyF_er, rowF_er, ← h, List.length_map]
end Sol
namespace Sol
open PySem PySem.Spec PySem.Calls PyProof.Rows PySem.W PySem.W.X
noncomputable def LY : List Int → (Nat → Nat) → Nat → List (Int × Nat)
  | [], _, _ => []
  | n :: ns, y, j => (n, y j) :: LY ns y (j + 1)
theorem LY_fst : ∀ (ns : List Int) (y : Nat → Nat) (j : Nat), (LY ns y j).map (·.1) = ns
  | [], _, _ => rfl
  | n :: ns, y, j => by rw [LY, List.map_cons, LY_fst ns]
theorem IntsAre.ly : ∀ {av : List Value} {ns : List Int}, IntsAre av ns → ∃ f : Nat → Nat, ∀ (y : Nat → Nat) (j : Nat), (∀ i, y (j + i) = f i) → av = (LY ns y j).map iv
  | [], [], _ => ⟨fun _ => 0, fun _ _ _ => rfl⟩
  | v :: l, n :: m, h => by
    obtain ⟨⟨t, rfl⟩, h2⟩ := h
    obtain ⟨f, hf⟩ := IntsAre.ly (av := l) (ns := m) h2
    refine ⟨fun i => match i with | 0 => t | i + 1 => f i, fun y j hy => ?_⟩
    have e0 : y j = t := hy 0
    rw [LY, List.map_cons, ← hf y (j + 1) (fun i => by rw [show j + 1 + i = j + (i + 1) by omega]; exact hy (i + 1))]
    show _ = Value.int n (y j + 1) :: _
    rw [e0]
  | [], _ :: _, h => h.elim
  | _ :: _, [], h => h.elim
noncomputable def oN : Nat → Option Nat
  | 0 => none
  | n + 1 => some n
noncomputable def nO : Option Nat → Nat
  | none => 0
  | some n => n + 1
theorem oN_nO (o : Option Nat) : oN (nO o) = o := by cases o <;> rfl
noncomputable def cIt (c : Code) : Nat := match c with
  | .compStart _ _ it _ _ => refV it - 209
  | _ => 0
noncomputable def cAcc (c : Code) : Nat := match c with
  | .compStart _ _ _ acc _ => refV acc - 209
  | _ => 0
noncomputable def cFr (c : Code) : Nat := match c with
  | .compStart _ _ _ _ env => match env.frame with
    | some a => a - 209
    | none => 0
  | _ => 0
noncomputable def rcSQ (E : Sol.Env) (z : Rc) (ns : List Int) (n : Nat) (g : OL) (gf : Nat → OL) : Raw OL :=
  rcQ E { z with b := false, av := [], i := 0 } (rcS E z) nextR g (fun y => { z with dep := y 5, k := y 6, b := true, pv := y 7, av := (LY ns y 60).map iv, aep := y 8 }.pre E.w (itE n)) fun y => gf (y 4)
noncomputable def rwLoopQ (E : Sol.Env) (z : Rw) (L : List (Int × Nat)) (S : List Nat) : Raw Unit := rwQ E z L nextR fun y => (z.to y S (y 44)).pre E.w []
noncomputable def rowQ (l lep : Nat) (vs : List Value) (size : Int) (t : Nat) (g : OL) (S : List Nat) (gf : Nat → OL) : Raw OL where
  code := .call (.ref 198) ⟨[.ref (l + 209), .int size (t + 1)], []⟩
  ads := [l + 209]
  pre := [lsO vs lep]
  g := g
  res := fun y => ok (stV S (y 3))
  post := fun _ => [lsO vs lep]
  news := fun _ => []
  gpost := fun y => gf (y 4)
noncomputable def hd1 (l : List (Nat → Nat)) : Nat → Nat := match l with
  | [] => fun _ => 0
  | x :: _ => x
noncomputable def rowZc (l lep : Nat) (vs : List Value) (s : Seen OL) : Rc := { lc := fA s.c, it := cIt s.c, acc := cAcc s.c, l := l, fr := cFr s.c, dep := epO (s.T.get 4), aep := epO (s.T.get 3), lep := lep, k := 0, b := false, pv := 0, av := [], vs := vs, i := 0 }
noncomputable def rowZw (l : Nat) (size : Int) (s : Seen OL) : Rw := { f := fA s.c, h := vrO (s.T.get 1) 2, l := l, ep := epO (s.T.get 1), lep := epO (s.T.get 3), k := ktO (s.T.get 1), s := size, st := vtO (s.T.get 1) 1, row := [], rt := vtO (s.T.get 1) 3 }
noncomputable def rowCon (E : Sol.Env) (l lep : Nat) (vs : List Value) (ns : List Int) (n : Nat) (g : OL) (gf : Nat → OL) (size : Int) (hf : List (Int × Nat) → List (Int × Nat)) (S : List Nat) (m : Int) (j : Nat) : List (Seen OL → Con OL) := [
  fun s => (rcSQ E (rowZc l lep vs s) ns n g gf).con [4, 3, 2, 0],
  fun s => ((hpQ (rfA s.c 0) (epO (s.T.get 3)) (LY ns (hd1 s.l) 60) (hf (LY ns (hd1 s.l) 60))).at s.g).con [3],
  fun s => ((rwLoopQ E (rowZw l size s) (hf (LY ns (hd1 s.l.tail) 60)) S).at s.g).con [1, 3],
  fun s => ((slenQ S (tkA s.c 0 - 1)).at s.g).con [],
  fun s => ((smulQ (size - m) (tkA s.c 0 - 1) (tkA s.c 1) j).at s.g).con [],
  fun s => ((saddQ S (List.replicate j 97) (tkA s.c 0 - 1) (tkA s.c 1 - 1)).at s.g).con []]
noncomputable def RowRun (E : Sol.Env) : Prop := ∀ (l lep : Nat) (vs : List Value) (ns : List Int) (n : Nat) (g : OL) (gf : Nat → OL) (size : Int) (t : Nat) (hf : List (Int × Nat) → List (Int × Nat)) (S : List Nat) (j : Nat),
  RunQ (E.cfg (conL (rowCon E l lep vs ns n g gf size hf S S.length j)) noCut) 300 (rowQ l lep vs size t g (S ++ List.replicate j 97) gf)
    [0, 0, 2, 2, 2, 2, 0, 2, 1, 1, 0, 1, 3, 1, 2, 2, 5, 5, 5, 0, 2, 0, 2, 2, 2, 3, 2, 2, 0, 0, 2, 4, 0, 0, 5, 6] lbX []
end Sol
namespace Sol
open PySem PySem.Spec PySem.Calls PyProof.Rows PySem.W PySem.W.X
theorem hpop_len {L : List (Int × Nat)} {n : Nat} (h : L.length = n + 1) : (hpop L).2.length = n := by
  have hne : L ≠ [] := fun e => by subst e; cases h
  obtain ⟨M, p, rfl⟩ : ∃ M p, L = M ++ [p] := ⟨L.dropLast, L.getLast hne, (List.dropLast_concat_getLast hne).symm⟩
  rw [List.length_append, List.length_singleton] at h
  cases M with
  | nil => show 0 = n; simp at h; omega
  | cons m M => rw [hpop_snoc, siftF_len]; simp at h ⊢; omega
theorem rowF_len : ∀ (n : Nat) (L : List (Int × Nat)), L.length = n → (rowF n L).length = n
  | 0, _, _ => rfl
  | n + 1, [], h => nomatch h
  | n + 1, a :: L, h => by
    show (rowF n (hpop (a :: L)).2).length + 1 = _
    rw [rowF_len n _ (hpop_len h)]
theorem rowL_len (ns : List Int) : (rowL ns).length = ns.length := by
  unfold rowL
  exact rowF_len _ _ (by unfold heapifyF; rw [hpL_len, List.length_map])
theorem LY_len : ∀ (ns : List Int) (y : Nat → Nat) (j : Nat), (LY ns y j).length = ns.length
  | [], _, _ => rfl
  | n :: ns, y, j => by rw [LY, List.length_cons, LY_len ns, List.length_cons]
noncomputable def fR (a b c d e : Nat) (h : Nat → Nat) (j : Nat) : Nat := if j < 57 then (match j with | 1 => a | 2 => b | 3 => c | 4 => d | 5 => e | _ => 0) else h (j - 57)
structure RowRuns (E : Sol.Env) : Prop where
  cls : ClsRuns E
  hq : HqRuns E
  hp : HpRun E
  rw' : RwRuns E
  lb : LenBRun E
  c1 : RcTurn E
  c2 : RcEnd E
  c0 : RcStart E
  row : RowRun E
theorem rwLoop_ok {K : Gd Unit} (hE : K.E.Ok) (hF : K.Fine) (hdm : K.up.up.up.Lim) (H : HqRuns K.E) (R : RwRuns K.E) {L : List (Int × Nat)} {z : Rw} (h0 : z.row = []) (hL : L.length < 11) (hP : AllP L) : RawOk K (rwLoopQ K.E z L (rowF L.length L)) := by
  refine RawR.toOk (rw_loop hE hF hdm H R L.length L z rfl (by rw [h0]; simp; omega) hL hP) ?_
  rintro r ps nw g' ⟨rfl, rfl, y, lep, rfl⟩
  refine ⟨fun j => if j = 41 then lep else y (j + 3), fun y' hy => ⟨rfl, ?_, rfl, rfl⟩⟩
  show _ = (z.to y' _ (y' 44)).pre K.E.w []
  have e44 : y' 44 = lep := hy 41
  rw [e44, h0]
  unfold Rw.to Rw.pre
  simp only [show y' 3 = y 3 from hy 0, show y' 4 = y 4 from hy 1, show y' 5 = y 5 from hy 2, show y' 6 = y 6 from hy 3, show y' 7 = y 7 from hy 4, show y' 15 = y 15 from hy 12, show y' 17 = y 17 from hy 14, List.nil_append]
section
variable {E : Sol.Env} {os : OsState} {dm um : Nat} (hE : E.Ok)
include hE
theorem rcS_ok (hdm : (gK E os dm um).up.up.Lim) (R : RowRuns E) {ps : List PileG} {t80 t87 : Option Nat} (hps : ∀ q ∈ ps, q.cs.length < 11) (hl : ps.length < 12) (hne : ps ≠ []) {z : Rc} (hvs : z.vs = ps.map refP) :
    RawOk (gK E os dm um) (rcSQ E z (negL ps) ps.length (gA ps t80 t87) (fun a => gA ps (oN a) t87)) := by
  have L := rc_loop (os := os) (dm := dm) (um := um) hE hdm R.cls R.lb R.c1 R.c2 (t87 := t87) hps hl ps [] { z with b := false, av := [], i := 0 } t80 rfl hvs rfl trivial rfl
  have T := RunT.turn (K := gK E os dm um) hE (gK_fine ..) (Gd.up_lim (Gd.up_lim hdm)) (con := noCon) (fun _ _ _ _ _ _ h => noCon_ok h) (R.c0 { z with b := false, av := [], i := 0 } (gA ps t80 t87)) rfl rfl (fun _ => rfl) (fun x => L)
  refine RawR.toOk (q := rcSQ E z (negL ps) ps.length (gA ps t80 t87) (fun a => gA ps (oN a) t87)) T ?_
  rintro r ob nw g' ⟨rfl, rfl, z', t, rfl, rfl, h1, h2, h3, h4⟩
  obtain ⟨fv, hfv⟩ := h1.ly
  refine ⟨fR (nO t) z'.dep z'.k z'.pv z'.aep fv, fun y hy => ⟨rfl, ?_, rfl, ?_⟩⟩
  · show Rc.pre E.w z' _ = Rc.pre E.w { z with dep := y 5, k := y 6, b := true, pv := y 7, av := (LY (negL ps) y 60).map iv, aep := y 8 } _
    have e5 : y 5 = z'.dep := hy 2
    have e6 : y 6 = z'.k := hy 3
    have e7 : y 7 = z'.pv := hy 4
    have e8 : y 8 = z'.aep := hy 5
    have ea : z'.av = (LY (negL ps) y 60).map iv := hfv y 60 fun i => by
      have := hy (57 + i)
      rw [show 57 + i + 3 = 60 + i by omega] at this
      rw [this]
      unfold fR
      rw [if_neg (by omega), Nat.add_sub_cancel_left]
    have hb : z'.b = true := by
      rw [h4]
      cases ps with
      | nil => exact absurd rfl hne
      | cons _ _ => rfl
    have h2' : z'.vs = z.vs := h2
    have h3' : z'.lep = z.lep := h3
    unfold Rc.pre
    rw [e5, e6, e7, e8, ← ea, hb, h2', h3']
  · have e4 : y 4 = nO t := hy 1
    show gA ps t t87 = gA ps (oN (y 4)) t87
    rw [e4, oN_nO]
theorem row_ok (hdm : (gK E os dm um).up.up.up.up.Lim) (R : RowRuns E) {ps : List PileG} {t80 t87 : Option Nat} (hps : ∀ q ∈ ps, q.cs.length < 11) (hl : ps.length < 11) (hne : ps ≠ []) {l lep t : Nat} {size : Int} (hs : 0 ≤ size) (hs' : size < 7) :
    RawOk (gK E os dm um) (rowQ l lep (ps.map refP) size t (gA ps t80 t87) (rowL (negL ps) ++ List.replicate (size - ps.length).toNat 97) (fun a => gA ps (oN a) t87)) := by
  have hF := gK_fine E os (dm + 95) (um + 270)
  have hU := Gd.unit_fine (gK E os dm um).up
  have hd3 := Gd.up_lim hdm
  have hd2 := Gd.up_lim hd3
  have hdA := Gd.up_lim hd2
  have hdU : (gK E os dm um).up.unit.Lim := ⟨hdA.dep, hdA.uni⟩
  have hdU4 : (gK E os dm um).up.unit.up.up.up.Lim := ⟨hdm.dep, hdm.uni⟩
  have hnl : (negL ps).length = ps.length := List.length_map ..
  have hS : (rowL (negL ps)).length = ps.length := by rw [rowL_len, hnl]
  have hP : ∀ y j, AllP (LY (negL ps) y j) := fun y j x hx => by
    have : x.1 ∈ negL ps := by rw [← LY_fst (negL ps) y j]; exact List.mem_map_of_mem hx
    obtain ⟨q, hq, e⟩ := List.mem_map.mp this
    have := hps q hq
    exact ⟨by omega, by omega⟩
  have r := R.row l lep (ps.map refP) (negL ps) ps.length (gA ps t80 t87) (fun a => gA ps (oN a) t87) size t heapifyF (rowL (negL ps)) (size - ps.length).toNat
  refine RunQ.okC (K := gK E os dm um) hE (gK_fine ..) (Gd.up_lim hdA) r ⟨fun s => ?_, fun s => ?_, fun s => ?_, fun s => ?_, fun s => ?_, fun s => ?_, trivial⟩
  · exact (rcS_ok (os := os) (dm := dm + 95) (um := um + 270) hE hd3 R hps (by omega) hne (z := rowZc l lep (ps.map refP) s) rfl).cg [4, 3, 2, 0]
  · exact lift_cg hF (hp_ok hE hU hdU4 R.hq R.hp (by rw [LY_len, hnl]; exact hl)) s.g [3]
  · have hlen : (heapifyF (LY (negL ps) (hd1 s.l.tail) 60)).length = (LY (negL ps) (hd1 s.l.tail) 60).length := by unfold heapifyF; rw [hpL_len]
    have := rwLoop_ok (K := (gK E os dm um).up.unit) hE hU hdU4 R.hq R.rw' (L := heapifyF (LY (negL ps) (hd1 s.l.tail) 60)) (z := rowZw l size s) rfl (by rw [hlen, LY_len, hnl]; exact hl) (hpL_P (hP _ _) _ _)
    rw [hlen, rowL_eq (LY_fst (negL ps) (hd1 s.l.tail) 60)] at this
    exact lift_cg hF this s.g [1, 3]
  · exact lift_cg hF (slen_ok hE hU hdU (by rw [hS]; omega)) s.g []
  · have := smul_ok (K := (gK E os dm um).up.unit) hE hU hdU (a := size - ((rowL (negL ps)).length : Nat)) (t := tkA s.c 0 - 1) (u := tkA s.c 1) (by omega) (by rw [hS]; omega)
    rw [hS] at this ⊢
    exact lift_cg hF this s.g []
  · exact lift_cg hF (sadd_ok hE hU hdU (by rw [hS]; omega) (by rw [List.length_replicate]; omega)) s.g []
end
end Sol
namespace Sol
open PySem PySem.Spec PySem.Calls PyProof.Rows PySem.W PySem.W.X
noncomputable def forC (s : Stmt) (it : Nat) (env : PySem.Env) : Code := match s with
  | .For t _ b o _ => .forLoop t (.ref (it + 209)) b o env
  | _ => .block [] env
noncomputable def cutF : Code → Bool
  | .forLoop _ _ _ _ _ => true
  | _ => false
noncomputable def n_fresh : List Nat := [102, 114, 101, 115, 104]
noncomputable def n_blank : List Nat := [98, 108, 97, 110, 107]
noncomputable def n_card : List Nat := [99, 97, 114, 100]
structure Mv where
  f : Nat
  it : Nat
  l : Nat
  fp : Nat
  ep : Nat
  lep : Nat
  k : Nat → Nat
  b : Bool
  pv : Nat
  u : Nat
  v : Nat
  x : Nat
  vs : List Value
  i : Nat
noncomputable def Mv.pre (W : World) (z : Mv) (itO' : Obj) : List Obj :=
  [frO (ky W n_piles (z.k 0) (.ref (z.l + 209)) :: ky W n_fresh (z.k 1) (.ref (z.fp + 209)) ::
    match z.b with
    | true => [ky W n_pile (z.k 2) (.ref (z.pv + 209)), ky W n_blank (z.k 3) (.str ⟨#[]⟩ (z.u + 1)), ky W n_card (z.k 4) (.str ⟨#[z.x]⟩ (z.v + 1))]
    | false => []) z.ep, itO', lsO z.vs z.lep]
noncomputable def mvC (E : Sol.Env) (z : Mv) : Code := forC (nthSt (bodyOf (fdOf E 203)) 1) z.it (envF (fdOf E 203) 203 (z.f + 209))
noncomputable def Mv.to (z : Mv) (y : Nat → Nat) (p : Nat) (u v x : Nat) : Mv := { z with ep := y 3, k := fun i => y (4 + i), b := true, pv := p, u := u, v := v, x := x, i := z.i + 1 }
noncomputable def mvQ (E : Sol.Env) (z : Mv) (zp zf : Pl) (ts tsf : List Nat) (a u v x : Nat) (g : OL) : Raw OL where
  code := mvC E z
  ads := [z.f + 209, z.it + 209, z.l + 209, zp.p + 209, zp.d + 209, a + 209, zf.p + 209, zf.d + 209]
  pre := z.pre E.w (itO z.l z.i) ++ (zp.pre (ts.map (· + 209) ++ [a + 209]) ++ (cardO (u + 1) (v + 1) x :: zf.pre (tsf.map (· + 209))))
  g := g
  res := fun _ => agR
  post := fun y => (z.to y zp.p u v x).pre E.w (itO z.l (z.i + 1)) ++ ({ zp with ep := zp.ep + 1 }.pre (ts.map (· + 209)) ++ (cardO (u + 1) (v + 1) x :: { zf with ep := zf.ep + 1 }.pre (tsf.map (· + 209) ++ [y 67 + 209])))
  news := fun y => [(y 67 + 209, cardO (u + 1) (v + 1) x)]
  gpost := fun _ => g
noncomputable def mvCon (z : Mv) (zp zf : Pl) (ts tsf : List Nat) (a u v x : Nat) : List (Seen OL → Con OL) := [
  fun s => ((nextQ z.it z.l z.lep z.vs z.i (.ref (zp.p + 209))).at s.g).con [1, 2],
  fun s => ((popL zp ts a).at s.g).con [3, 4],
  fun s => ((pushL zf tsf u v x).at s.g).con [6, 7]]
noncomputable def MvTurn (E : Sol.Env) : Prop := ∀ (z : Mv) (b : Bool) (zp zf : Pl) (ts tsf : List Nat) (a u v x : Nat) (g : OL), z.fp = zf.p → RunN (E.cfg (conL (mvCon { z with b := b, fp := zf.p } zp zf ts tsf a u v x)) cutF) 260
  (mvQ E { z with b := b, fp := zf.p } zp zf ts tsf a u v x g) (fun _ => mvC E z)
  [2, 1, 1, 1, 1, 4, 0, 0, 0, 4, 0, 0, 0, 4, 0, 0, 0, 0, 4, 5, 0, 2, 6, 6, 6, 0, 6, 9, 9, 0, 9, 9, 9, 6, 9, 9, 9, 0, 9, 9, 9, 6, 9, 9, 9, 0, 9, 9, 9, 6, 9, 9, 11, 1, 1, 1, 1, 1, 7, 0, 0, 0, 7, 0, 0, 0, 7, 0, 0, 0, 0, 7, 8, 1, 1, 0, 3] fX [11]
noncomputable def mvEQ (E : Sol.Env) (z : Mv) (c : Code) (r : Result) (itp : Obj) (g : OL) (post : (Nat → Nat) → List Obj) (gp : (Nat → Nat) → OL) : Raw OL where
  code := c
  ads := [z.f + 209, z.it + 209, z.l + 209]
  pre := z.pre E.w itp
  g := g
  res := fun _ => r
  post := post
  news := fun _ => []
  gpost := gp
noncomputable def MvEnd (E : Sol.Env) : Prop := ∀ (z : Mv) (b : Bool) (g : OL), RunQ (E.cfg (conL [fun s => ((nextE z.it z.l z.lep z.vs z.i).at s.g).con [1, 2]]) cutF) 40
  (mvEQ E { z with b := b } (mvC E z) nextR (itO z.l z.i) g (fun y => { z with b := b, ep := y 3, k := fun i => y (4 + i) }.pre E.w (itE z.i)) fun _ => g) [2, 1, 4] fX []
noncomputable def mcC (E : Sol.Env) (z : Rc) : Code := compLC (fdOf E 203) (exprS (nthSt (bodyOf (fdOf E 203)) 2)) z.lc z.it z.acc z.fr
noncomputable def mcS (E : Sol.Env) (z : Rc) : Code := compSC (fdOf E 203) (exprS (nthSt (bodyOf (fdOf E 203)) 2)) z.lc z.it z.acc z.fr
noncomputable def Rc.tm (z : Rc) (y : Nat → Nat) (p : Nat) (r : Bool) : Rc := { z with dep := y 3, k := y 4, b := true, pv := p, av := (match r with | true => z.av ++ [.ref (p + 209)] | false => z.av), aep := (match r with | true => z.aep + 1 | false => z.aep), i := z.i + 1 }
noncomputable def mcQ (E : Sol.Env) (z : Rc) (zp : Pl) (ts : List Nat) (r : Bool) (g : OL) : Raw OL where
  code := mcC E z
  ads := [z.lc + 209, z.acc + 209, z.it + 209, z.l + 209, zp.p + 209, zp.d + 209]
  pre := z.pre E.w (itO z.l z.i) ++ zp.pre (ts.map (· + 209))
  g := g
  res := fun _ => agR
  post := fun y => (z.tm y zp.p r).pre E.w (itO z.l (z.i + 1)) ++ zp.pre (ts.map (· + 209))
  news := fun _ => []
  gpost := fun _ => g
noncomputable def mcCon (z : Rc) (zp : Pl) (ts : List Nat) (r : Bool) : List (Seen OL → Con OL) := [
  fun s => ((nextQ z.it z.l z.lep z.vs z.i (.ref (zp.p + 209))).at s.g).con [2, 3],
  fun s => ((countL zp ts).at s.g).con [4, 5],
  fun s => ((cmpQ "int.__gt__" ts.length 0 (tkA s.c 0) (tkA s.c 1) r).at s.g).con [],
  fun s => ((appQ z.acc z.aep z.av (.ref (zp.p + 209))).at s.g).con [1]]
noncomputable def McTurn (E : Sol.Env) : Prop := ∀ (z : Rc) (b : Bool) (zp : Pl) (ts : List Nat) (r : Bool) (g : OL), RunN (E.cfg (conL (mcCon { z with b := b } zp ts r)) cutC) 120
  (mcQ E { z with b := b } zp ts r g) (fun _ => mcC E z) (match r with | true => [3, 1, 1, 1, 1, 5, 0, 0, 0, 5, 0, 0, 0, 5, 0, 0, 0, 0, 5, 6, 0, 2, 3, 1, 4] | false => [3, 1, 1, 1, 1, 5, 0, 0, 0, 5, 0, 0, 0, 5, 0, 0, 0, 0, 5, 6, 0, 2, 3]) fX []
noncomputable def McEnd (E : Sol.Env) : Prop := ∀ (z : Rc) (b : Bool) (g : OL), RunQ (E.cfg (conL [fun s => ((nextE z.it z.l z.lep z.vs z.i).at s.g).con [2, 3]]) cutC) 40
  (rcQ E { z with b := b } (mcC E z) nextR g (fun y => { z with b := b, dep := y 3, k := y 4 }.pre E.w (itE z.i)) fun _ => g) [3, 1, 5] fX []
noncomputable def McStart (E : Sol.Env) : Prop := ∀ (z : Rc) (g : OL), RunT (E.cfg noCon cutC) 40
  (rcQ E { z with b := false } (mcS E z) agR g (fun y => { z with b := false }.pre E.w (itO z.l z.i)) fun _ => g) (fun _ => mcC E z) (match E.b2 with | true => [] | false => [3, 3, 0, 3, 3]) fX
noncomputable def laddQ (l lep : Nat) (vs : List Value) (m mep : Nat) (v : Value) : Raw Unit where
  code := .call (.builtin "list.__add__") ⟨[.ref (l + 209), .ref (m + 209)], []⟩
  ads := [l + 209, m + 209]
  pre := [lsO vs lep, lsO [v] mep]
  g := ()
  res := fun y => ok (.ref (y 3 + 209))
  post := fun _ => [lsO vs lep, lsO [v] mep]
  news := fun y => [(y 3 + 209, lsO (vs ++ [v]) 0)]
  gpost := fun _ => ()
noncomputable def nX {Γ : Type} (_ : Out Γ) (_ : XS) (N _ _ : Nat) (_ : Nat) : Nat := N
section
variable {E : Env}
noncomputable def ladd_runP (E : Sol.Env) (n : Nat) : Prop := ∀ l lep (f : Nat → Value) m mep v, RunQ (E.cfg noCon noCut) 30 (laddQ l lep ((upto n 0).map f) m mep v) [1, 2, 1, 2] nX [2]
theorem ladd_run (n : Nat) (hn : n < 11) : ∀ l lep (f : Nat → Value) m mep v, RunQ (E.cfg noCon noCut) 30 (laddQ l lep ((upto n 0).map f) m mep v) [1, 2, 1, 2] nX [2] := by
  refine lts11 (P := ladd_runP E) ?_ ?_ ?_ ?_ ?_ ?_ ?_ ?_ ?_ ?_ ?_ n hn <;> (intro l lep f m mep v; exact RunQ.of (by kernel_rfl))
end
section
variable {K : Gd Unit} (hE : K.E.Ok) (hF : K.Fine) (hdm : K.Lim)
include hE hF hdm
theorem ladd_ok {l lep m mep : Nat} {vs : List Value} {v : Value} (h : vs.length < 11) : RawOk K (laddQ l lep vs m mep v) := by
  have := RunQ.ok0 hE hF hdm (ladd_run vs.length h l lep (fun j => vs.getD j .none) m mep v)
  rw [list_upto] at this
  exact this
end
end Sol
namespace Sol
open PySem PySem.Spec PySem.Calls PyProof.Rows PySem.W PySem.W.X
noncomputable def lastC (q : PileG) : Card := q.cs.getLastD default
noncomputable def popP (q : PileG) : PileG := ⟨{ q.z with ep := q.z.ep + 1 }, q.cs.dropLast⟩
noncomputable def newCs : List PileG → (Nat → Nat) → Nat → List Card
  | [], _, _ => []
  | q :: B, y, j => { lastC q with a := y j } :: newCs B y (j + 1)
theorem newCs_congr : ∀ (B : List PileG) {y y' : Nat → Nat} {j j' : Nat}, (∀ i, y (j + i) = y' (j' + i)) → newCs B y j = newCs B y' j'
  | [], _, _, _, _, _ => rfl
  | q :: B, y, y', j, j', h => by
    have h0 : y j = y' j' := h 0
    rw [newCs, newCs, h0, newCs_congr B (y := y) (y' := y') (j := j + 1) (j' := j' + 1) (fun i => by rw [Nat.add_assoc, Nat.add_comm 1 i, h (i + 1)]; congr 1; omega)]
theorem newCs_len : ∀ (B : List PileG) (y : Nat → Nat) (j : Nat), (newCs B y j).length = B.length
  | [], _, _ => rfl
  | q :: B, y, j => by rw [newCs, List.length_cons, newCs_len B, List.length_cons]
noncomputable def aC (cs : List Card) : List Nat := cs.map fun c => c.a
theorem aC_len (cs : List Card) : (aC cs).length = cs.length := List.length_map ..
theorem adC_eq (cs : List Card) : adC cs = (aC cs).map (· + 209) := by unfold adC aC; rw [List.map_map]; rfl
theorem adC_snoc (cs : List Card) (c : Card) : adC (cs ++ [c]) = (aC cs).map (· + 209) ++ [c.a + 209] := by rw [adC_eq]; unfold aC; rw [List.map_append, List.map_append]; rfl
theorem zip2_map (cs : List Card) : cards cs = cs.map fun c => (c.a + 209, cardO (c.u + 1) (c.v + 1) c.x) := by
  unfold cards adC obC
  induction cs with
  | nil => rfl
  | cons c cs ih => simp only [List.map_cons, zip2, ih]
theorem cards_snoc (cs : List Card) (c : Card) : cards (cs ++ [c]) = cards cs ++ [(c.a + 209, cardO (c.u + 1) (c.v + 1) c.x)] := by rw [zip2_map, zip2_map, List.map_append]; rfl
noncomputable def mvN (fr : PileG) (B : List PileG) (y : Nat → Nat) : PileG := ⟨{ fr.z with ep := fr.z.ep + B.length }, fr.cs ++ newCs B y 0⟩
section
variable {E : Sol.Env} {os : OsState} {dm um : Nat} (hE : E.Ok) (hdm : (gK E os dm um).up.up.Lim)
include hE hdm
theorem mv_loop (R : ClsRuns E) (r1 : MvTurn E) (r2 : MvEnd E) {ps : List PileG} {t80 t87 : Option Nat} (hps : ∀ q ∈ ps, q.cs.length < 11 ∧ q.cs ≠ []) (hl : ps.length < 11) :
    ∀ (B A : List PileG) (z : Mv) (fr : PileG), ps = A ++ B → z.vs = ps.map refP → z.i = A.length → z.fp = fr.z.p → fr.cs.length + B.length < 11 →
    RawR (gK E os dm um) (mvC E z) [z.f + 209, z.it + 209, z.l + 209] (z.pre E.w (itO z.l z.i)) (gA (A.map popP ++ (B ++ [fr])) t80 t87)
      (fun r ob nw g' => r = nextR ∧ nw = [] ∧ ∃ z' : Mv, ∃ y, g' = gA (ps.map popP ++ [mvN fr B y]) t80 t87 ∧ ob = z'.pre E.w (itE ps.length) ∧ z'.vs = z.vs ∧ z'.lep = z.lep ∧ z'.l = z.l ∧ z'.fp = z.fp ∧ z'.b = (z.b || !B.isEmpty)) := by
  have hU := Gd.unit_fine (gK E os dm um).up
  have hF := gK_fine E os dm um
  have hFU := gK_fine E os (dm + 95) (um + 270)
  have hdU : (gK E os dm um).up.unit.Lim := ⟨(Gd.up_lim hdm).dep, (Gd.up_lim hdm).uni⟩
  intro B
  induction B with
  | nil =>
    intro A z fr hA hvs hi hfp hlen
    have hn : z.vs.length < 12 := by rw [hvs, List.length_map]; omega
    have e : z.i = z.vs.length := by rw [hvs, List.length_map, hi, hA, List.append_nil]
    have ok := RunQ.okC (K := gK E os dm um) hE hF (Gd.up_lim (Gd.up_lim hdm)) (r2 z z.b (gA (A.map popP ++ ([] ++ [fr])) t80 t87)) ⟨fun s => lift_cg hFU (nextE_ok hE hU hdU e hn) s.g [1, 2], trivial⟩ rfl rfl rfl
    refine ok.toR.mono ?_
    rintro r ob nw g' ⟨y, rfl, rfl, rfl, rfl⟩
    rw [List.append_nil] at hA
    subst hA
    refine ⟨rfl, rfl, { z with ep := y 3, k := fun i => y (4 + i) }, y, ?_, ?_, rfl, rfl, rfl, rfl, by simp⟩
    · show gA (ps.map popP ++ [fr]) t80 t87 = gA (ps.map popP ++ [⟨{ fr.z with ep := fr.z.ep + 0 }, fr.cs ++ []⟩]) t80 t87
      rw [List.append_nil, Nat.add_zero]
    · show Mv.pre E.w _ (itE z.i) = _
      rw [hi]
  | cons q B ih =>
    intro A z fr hA hvs hi hfp hlen
    have hq : q ∈ ps := by rw [hA]; exact List.mem_append_right _ (.head _)
    obtain ⟨hq1, hq2⟩ := hps q hq
    obtain ⟨cs, c, hcs⟩ : ∃ cs c, q.cs = cs ++ [c] := ⟨q.cs.dropLast, q.cs.getLast hq2, (List.dropLast_concat_getLast hq2).symm⟩
    obtain ⟨zp, qcs⟩ := q
    simp only at hcs hq1
    subst hcs
    obtain ⟨zf, fcs⟩ := fr
    have hcl : cs.length < 10 := by rw [List.length_append, List.length_singleton] at hq1; omega
    have hfl : fcs.length < 11 := by simp only [List.length_cons] at hlen; omega
    have hn : z.vs.length < 12 := by rw [hvs, List.length_map]; omega
    have hget : z.vs[z.i]? = some (.ref (zp.p + 209)) := by
      rw [hvs, hi, hA, List.map_append, List.map_cons, List.getElem?_append_right (by rw [List.length_map]; exact Nat.le_refl _), List.length_map, Nat.sub_self]; rfl
    have hz : ({ z with b := z.b, fp := zf.p } : Mv) = z := by
      have : z.fp = zf.p := hfp
      rw [← this]
    have r := r1 z z.b zp zf (aC cs) (aC fcs) c.a c.u c.v c.x ((80, tab80 t80) :: (87, tab87 t87) :: ((A.map popP).flatMap obP ++ (cards cs ++ (B.flatMap obP ++ cards fcs)))) hfp
    rw [hz] at r
    have F : Framed (mvQ E z zp zf (aC cs) (aC fcs) c.a c.u c.v c.x ((80, tab80 t80) :: (87, tab87 t87) :: ((A.map popP).flatMap obP ++ (cards cs ++ (B.flatMap obP ++ cards fcs)))))
        (mvEQ E z (mvC E z) agR (itO z.l z.i) (gA (A.map popP ++ (((⟨zp, cs ++ [c]⟩ : PileG) :: B) ++ [(⟨zf, fcs⟩ : PileG)])) t80 t87) (fun y => (z.to y zp.p c.u c.v c.x).pre E.w (itO z.l (z.i + 1)))
          (fun y => gA ((A ++ [(⟨zp, cs ++ [c]⟩ : PileG)]).map popP ++ (B ++ [(⟨{ zf with ep := zf.ep + 1 }, fcs ++ [{ c with a := y 67 }]⟩ : PileG)])) t80 t87))
        [zp.p + 209, zp.d + 209, c.a + 209, zf.p + 209, zf.d + 209] (zp.pre ((aC cs).map (· + 209) ++ [c.a + 209]) ++ (cardO (c.u + 1) (c.v + 1) c.x :: zf.pre ((aC fcs).map (· + 209)))) []
        (fun y => { zp with ep := zp.ep + 1 }.pre ((aC cs).map (· + 209)) ++ (cardO (c.u + 1) (c.v + 1) c.x :: { zf with ep := zf.ep + 1 }.pre ((aC fcs).map (· + 209) ++ [y 67 + 209]))) := by
      refine ⟨rfl, rfl, rfl, rfl, rfl, rfl, ?_, fun y => rfl, fun y => rfl, fun y => ?_, fun y p hp => nomatch hp⟩
      · refine perm_sum fun f => ?_
        show ((gA _ _ _).map f).sum = _
        simp only [mvQ, gA, obP, Pl.pre, zip2, adC_snoc, ← adC_eq, cards_snoc, List.map_cons, List.map_append, List.sum_cons, List.sum_append, List.flatMap_append, List.flatMap_cons, List.flatMap_nil, List.cons_append, List.nil_append, List.append_nil, List.map_nil, List.sum_nil]
        omega
      · refine ⟨[(zp.p + 209, accO (zp.d + 209) ((aC cs).map (· + 209)) (zp.ep + 1)), (zp.d + 209, iniO zp.hh (zp.u1 + 1) (zp.u2 + 1)), (zf.p + 209, accO (zf.d + 209) ((aC fcs).map (· + 209) ++ [y 67 + 209]) (zf.ep + 1)), (zf.d + 209, iniO zf.hh (zf.u1 + 1) (zf.u2 + 1))] ++
          (((80, tab80 t80) :: (87, tab87 t87) :: ((A.map popP).flatMap obP ++ (cards cs ++ (B.flatMap obP ++ cards fcs)))) ++ []) ++ [(y 67 + 209, cardO (c.u + 1) (c.v + 1) c.x)], perm_sum fun f => ?_, ?_⟩
        · show (([] ++ gA _ _ _).map f).sum = _
          have e1 : popP ⟨zp, cs ++ [c]⟩ = ⟨{ zp with ep := zp.ep + 1 }, cs⟩ := by unfold popP; rw [List.dropLast_concat]
          simp only [e1, gA, obP, adC_snoc, ← adC_eq, cards_snoc, List.map_cons, List.map_append, List.sum_cons, List.sum_append, List.flatMap_append, List.flatMap_cons, List.flatMap_nil, List.cons_append, List.nil_append, List.append_nil, List.map_nil, List.sum_nil]
          omega
        · refine List.Sublist.append_right (List.Sublist.append_right ?_ _) _
          exact .cons_cons _ (.cons_cons _ (.cons _ (.refl _)))
    refine turnF F hE (Gd.up_lim (Gd.up_lim hdm)) r ⟨fun s => lift_cg hFU (next_ok hE hU hdU hget hn) s.g [1, 2], fun s => lift_cg hFU (popL_ok hE hU hdU R (by rw [aC_len]; exact hcl)) s.g [3, 4], fun s => lift_cg hFU (pushL_ok hE hU hdU R (by rw [aC_len]; exact hfl)) s.g [6, 7], trivial⟩ (fun x => ?_)
    have z' := ih (A ++ [⟨zp, cs ++ [c]⟩]) (z.to x zp.p c.u c.v c.x) ⟨{ zf with ep := zf.ep + 1 }, fcs ++ [{ c with a := x 67 }]⟩ (by rw [hA, List.append_assoc]; rfl) hvs (by show z.i + 1 = _; rw [hi, List.length_append]; rfl) hfp
      (by simp only [List.length_append, List.length_cons, List.length_nil] at hlen ⊢; omega)
    refine z'.mono ?_
    rintro r ob nw g' ⟨h1, h2, z2, y, h3, h4, h5, h6, h7, h8, h9⟩
    refine ⟨h1, h2, z2, fun j => match j with | 0 => x 67 | j + 1 => y j, ?_, h4, h5, h6, h7, h8, ?_⟩
    · rw [h3]
      have e : mvN ⟨zf, fcs⟩ (⟨zp, cs ++ [c]⟩ :: B) (fun j => match j with | 0 => x 67 | j + 1 => y j) = mvN ⟨{ zf with ep := zf.ep + 1 }, fcs ++ [{ c with a := x 67 }]⟩ B y := by
        unfold mvN
        simp only [newCs, List.length_cons, List.append_assoc, List.singleton_append]
        have e1 : lastC ⟨zp, cs ++ [c]⟩ = c := by unfold lastC; rw [List.getLastD_concat]
        rw [e1, newCs_congr B (y := fun j => match j with | 0 => x 67 | j + 1 => y j) (y' := y) (j := 0 + 1) (j' := 0) (fun i => by rw [Nat.zero_add, Nat.zero_add, Nat.add_comm 1 i])]
        congr 2
        omega
      rw [e]
    · rw [h9]
      show (true || _) = _
      simp
end
end Sol
namespace Sol
open PySem PySem.Spec PySem.Calls PyProof.Rows PySem.W PySem.W.X
noncomputable def neP (q : PileG) : Bool := !q.cs.isEmpty
section
variable {E : Sol.Env} {os : OsState} {dm um : Nat} (hE : E.Ok) (hdm : (gK E os dm um).up.up.Lim)
include hE hdm
theorem mc_loop (R : ClsRuns E) (r1 : McTurn E) (r2 : McEnd E) {ps : List PileG} {t80 t87 : Option Nat} (hps : ∀ q ∈ ps, q.cs.length < 11) (hl : ps.length < 12) :
    ∀ (B A : List PileG) (z : Rc), ps = A ++ B → z.vs = ps.map refP → z.i = A.length → z.av.length ≤ A.length →
    RawR (gK E os dm um) (mcC E z) [z.lc + 209, z.acc + 209, z.it + 209, z.l + 209] (z.pre E.w (itO z.l z.i)) (gA ps t80 t87)
      (fun r ob nw g' => r = nextR ∧ nw = [] ∧ ∃ z' : Rc, g' = gA ps t80 t87 ∧ ob = z'.pre E.w (itE ps.length) ∧ z'.av = z.av ++ (B.filter neP).map refP ∧ z'.vs = z.vs ∧ z'.lep = z.lep ∧ z'.b = (z.b || !B.isEmpty)) := by
  intro B
  have hU := Gd.unit_fine (gK E os dm um).up
  have hF := gK_fine E os dm um
  have hFU := gK_fine E os (dm + 95) (um + 270)
  have hdU : (gK E os dm um).up.unit.Lim := ⟨(Gd.up_lim hdm).dep, (Gd.up_lim hdm).uni⟩
  induction B with
  | nil =>
    intro A z hA hvs hi hav
    have hn : z.vs.length < 12 := by rw [hvs, List.length_map]; exact hl
    have e : z.i = z.vs.length := by rw [hvs, List.length_map, hi, hA, List.append_nil]
    have ok := RunQ.okC (K := gK E os dm um) hE hF (Gd.up_lim (Gd.up_lim hdm)) (r2 z z.b (gA ps t80 t87)) ⟨fun s => lift_cg hFU (nextE_ok hE hU hdU e hn) s.g [2, 3], trivial⟩ rfl rfl rfl
    refine ok.toR.mono ?_
    rintro r ob nw g' ⟨y, rfl, rfl, rfl, rfl⟩
    refine ⟨rfl, rfl, { z with dep := y 3, k := y 4 }, rfl, ?_, by simp, rfl, rfl, by simp⟩
    show Rc.pre E.w _ (itE z.i) = _
    rw [hA, List.append_nil, ← hi]
  | cons q B ih =>
    intro A z hA hvs hi hav
    have hn : z.vs.length < 12 := by rw [hvs, List.length_map]; exact hl
    have hget : z.vs[z.i]? = some (.ref (q.z.p + 209)) := by
      rw [hvs, hi, hA, List.map_append, List.map_cons, List.getElem?_append_right (by rw [List.length_map]; exact Nat.le_refl _), List.length_map, Nat.sub_self]; rfl
    have hlA : A.length < 11 := by rw [hA, List.length_append, List.length_cons] at hl; omega
    have hq := hps q (by rw [hA]; exact List.mem_append_right _ (.head _))
    obtain ⟨zp, cs⟩ := q
    simp only at hq hget
    have key : ∀ b : Bool, decide ((0 : Int) < ((aC cs).length : Nat)) = b → RawR (gK E os dm um) (mcC E z) [z.lc + 209, z.acc + 209, z.it + 209, z.l + 209] (z.pre E.w (itO z.l z.i)) (gA ps t80 t87)
        (fun r ob nw g' => r = nextR ∧ nw = [] ∧ ∃ z' : Rc, g' = gA ps t80 t87 ∧ ob = z'.pre E.w (itE ps.length) ∧ z'.av = (match b with | true => z.av ++ [.ref (zp.p + 209)] | false => z.av) ++ (B.filter neP).map refP ∧ z'.vs = z.vs ∧ z'.lep = z.lep ∧ z'.b = true) := by
      intro b hb
      have F : Framed (mcQ E z zp (aC cs) b ((80, tab80 t80) :: (87, tab87 t87) :: (A.flatMap obP ++ (cards cs ++ B.flatMap obP))))
          (rcQ E z (mcC E z) agR (gA ps t80 t87) (fun y => (z.tm y zp.p b).pre E.w (itO z.l (z.i + 1))) fun _ => gA ps t80 t87)
          [zp.p + 209, zp.d + 209] (zp.pre ((aC cs).map (· + 209))) [] (fun y => zp.pre ((aC cs).map (· + 209))) := by
        have hp : (gA ps t80 t87).Perm (zip2 [zp.p + 209, zp.d + 209] (zp.pre ((aC cs).map (· + 209))) ++ ((80, tab80 t80) :: (87, tab87 t87) :: (A.flatMap obP ++ (cards cs ++ B.flatMap obP)) ++ [])) := by
          refine perm_sum fun f => ?_
          rw [hA]
          simp only [gA, obP, Pl.pre, zip2, ← adC_eq, List.map_cons, List.map_append, List.sum_cons, List.sum_append, List.flatMap_append, List.flatMap_cons, List.cons_append, List.nil_append, List.append_nil, List.map_nil, List.sum_nil]
          omega
        exact ⟨rfl, rfl, rfl, rfl, rfl, rfl, hp, fun y => rfl, fun y => rfl, fun y => ⟨_, by show ([] ++ gA ps t80 t87).Perm _; exact hp, List.sublist_append_left ..⟩, fun y p hp => nomatch hp⟩
      refine turnF F hE (Gd.up_lim (Gd.up_lim hdm)) (r1 z z.b zp (aC cs) b ((80, tab80 t80) :: (87, tab87 t87) :: (A.flatMap obP ++ (cards cs ++ B.flatMap obP))))
        ⟨fun s => lift_cg hFU (next_ok hE hU hdU hget hn) s.g [2, 3], fun s => lift_cg hFU (countL_ok hE hU hdU R (by rw [aC_len]; exact hq)) s.g [4, 5], fun s => lift_cg hFU (gt_ok2 hE hU hdU hb) s.g [], fun s => lift_cg hFU (app_ok hE hU hdU (by show z.av.length < 12; omega)) s.g [1], trivial⟩ (fun x => ?_)
      have z' := ih (A ++ [⟨zp, cs⟩]) (z.tm x zp.p b) (by rw [hA, List.append_assoc]; rfl) hvs (by show z.i + 1 = _; rw [hi, List.length_append]; rfl)
        (by
          rw [List.length_append, List.length_singleton]
          cases b with
          | true => show (z.av ++ [_]).length ≤ _; rw [List.length_append, List.length_singleton]; omega
          | false => show z.av.length ≤ _; omega)
      refine z'.mono ?_
      rintro r ob nw g' ⟨h1, h2, z2, h3, h4, h5, h6, h7, h8⟩
      exact ⟨h1, h2, z2, h3, h4, h5, h6, h7, by rw [h8]; rfl⟩
    refine (key _ rfl).mono ?_
    rintro r ob nw g' ⟨h1, h2, z2, h3, h4, h5, h6, h7, h8⟩
    refine ⟨h1, h2, z2, h3, h4, ?_, h6, h7, by rw [h8]; simp⟩
    rw [h5]
    cases cs with
    | nil =>
      have e : neP ⟨zp, []⟩ = false := rfl
      have e2 : decide ((0 : Int) < ((aC ([] : List Card)).length : Nat)) = false := rfl
      rw [e2, List.filter_cons, e]
      rfl
    | cons c cs =>
      have e : neP ⟨zp, c :: cs⟩ = true := rfl
      have e2 : decide ((0 : Int) < ((aC (c :: cs)).length : Nat)) = true := by rw [decide_eq_true_iff, aC_len, List.length_cons]; omega
      rw [e2, List.filter_cons, e]
      simp only [if_true, List.map_cons, List.append_assoc, List.singleton_append]
      rfl
theorem weaken {q q' : Raw OL} (H : RawOk (gK E os dm um) q) (e1 : q.code = q'.code) (e2 : q.ads = q'.ads) (e3 : q.pre = q'.pre) (e4 : q.g = q'.g) (e5 : q.res = q'.res) (e6 : q.post = q'.post) (e7 : q.news = q'.news) (hl : ∀ x, (q'.post x).length = q'.ads.length)
    (h : ∀ x, ∃ l, (q'.gpost x).Perm l ∧ l.Sublist (q.gpost x)) : RawOk (gK E os dm um) q' := by
  refine frame H (ga := []) (gp := []) (fr := []) (fun _ => []) e1 (by rw [List.append_nil, e2]) (by rw [List.append_nil, e3]) (by rw [← e2, ← e3]; exact H.1) e5 rfl (by rw [← e4]; show q.g.Perm ([] ++ (q.g ++ [])); rw [List.append_nil]; exact .refl _) (fun x => by rw [List.append_nil, e6]) hl (fun x => ?_) (fun x p hp => by rw [e7]; exact hp)
  obtain ⟨l, p, s⟩ := h x
  refine ⟨l ++ q'.news x, (List.perm_append_comm.trans (p.append_right _)), ?_⟩
  show (l ++ q'.news x).Sublist ([] ++ (q.gpost x ++ []) ++ q.news x)
  rw [List.nil_append, List.append_nil, e7]
  exact List.Sublist.append_right s _
end
theorem filter_sub (p : PileG → Bool) : ∀ ps : List PileG, ((ps.filter p).flatMap obP).Sublist (ps.flatMap obP)
  | [] => .slnil
  | q :: ps => by
    rw [List.filter_cons, List.flatMap_cons]
    split
    · rw [List.flatMap_cons]; exact List.Sublist.append_left (filter_sub p ps) _
    · exact (filter_sub p ps).trans (List.sublist_append_right ..)
noncomputable def mcSQ (E : Sol.Env) (z : Rc) (av : List Value) (n : Nat) (g g' : OL) : Raw OL :=
  rcQ E { z with b := false, av := [], i := 0 } (mcS E z) nextR g (fun y => { z with dep := y 5, k := y 6, b := true, pv := y 7, av := av, aep := y 8 }.pre E.w (itE n)) fun _ => g'
section
variable {E : Sol.Env} {os : OsState} {dm um : Nat} (hE : E.Ok) (hdm : (gK E os dm um).up.up.Lim)
include hE hdm
theorem mcS_ok (R : ClsRuns E) (r0 : McStart E) (r1 : McTurn E) (r2 : McEnd E) {ps : List PileG} {t80 t87 : Option Nat} (hps : ∀ q ∈ ps, q.cs.length < 11) (hl : ps.length < 12) (hne : ps ≠ []) {z : Rc} (hvs : z.vs = ps.map refP) :
    RawOk (gK E os dm um) (mcSQ E z ((ps.filter neP).map refP) ps.length (gA ps t80 t87) (gA (ps.filter neP) t80 t87)) := by
  have L := mc_loop (os := os) (dm := dm) (um := um) hE hdm R r1 r2 (t80 := t80) (t87 := t87) hps hl ps [] { z with b := false, av := [], i := 0 } rfl hvs rfl (Nat.le_refl _)
  have T := RunT.turn (K := gK E os dm um) hE (gK_fine ..) (Gd.up_lim (Gd.up_lim hdm)) (con := noCon) (fun _ _ _ _ _ _ h => noCon_ok h) (r0 { z with b := false, av := [], i := 0 } (gA ps t80 t87)) rfl rfl (fun _ => rfl) (fun x => L)
  have H : RawOk (gK E os dm um) (mcSQ E z ((ps.filter neP).map refP) ps.length (gA ps t80 t87) (gA ps t80 t87)) := by
    refine RawR.toOk (q := mcSQ E z ((ps.filter neP).map refP) ps.length (gA ps t80 t87) (gA ps t80 t87)) T ?_
    rintro r ob nw g' ⟨rfl, rfl, z', rfl, rfl, h1, h2, h3, h4⟩
    refine ⟨fR 0 z'.dep z'.k z'.pv z'.aep (fun _ => 0), fun y hy => ⟨rfl, ?_, rfl, rfl⟩⟩
    show Rc.pre E.w z' _ = Rc.pre E.w { z with dep := y 5, k := y 6, b := true, pv := y 7, av := (ps.filter neP).map refP, aep := y 8 } _
    have e5 : y 5 = z'.dep := hy 2
    have e6 : y 6 = z'.k := hy 3
    have e7 : y 7 = z'.pv := hy 4
    have e8 : y 8 = z'.aep := hy 5
    have hb : z'.b = true := by
      rw [h4]
      cases ps with
      | nil => exact absurd rfl hne
      | cons _ _ => rfl
    have h1' : z'.av = (ps.filter neP).map refP := h1
    have h2' : z'.vs = z.vs := h2
    have h3' : z'.lep = z.lep := h3
    unfold Rc.pre
    rw [e5, e6, e7, e8, hb, h1', h2', h3']
  refine weaken hE hdm H rfl rfl rfl rfl rfl rfl rfl (fun x => rfl) (fun x => ⟨_, .refl _, ?_⟩)
  exact .cons_cons _ (.cons_cons _ (filter_sub _ _))
end
end Sol
namespace Sol
open PySem PySem.Spec PySem.Calls PyProof.Rows PySem.W PySem.W.X
noncomputable def newGQ (g : OL) (gf : (Nat → Nat) → OL) : Raw OL where
  code := .call (.ref 118) ⟨[], []⟩
  ads := []
  pre := []
  g := g
  res := fun y => ok (.ref (y 3 + 209))
  post := fun _ => []
  news := fun _ => []
  gpost := gf
noncomputable def freshP (hh : Int) (y : Nat → Nat) : PileG := ⟨⟨y 3, y 4, 0, y 5, 304, hh⟩, []⟩
noncomputable def cItF (c : Code) : Nat := match c with
  | .forLoop _ it _ _ _ => refV it - 209
  | _ => 0
noncomputable def mvForQ (E : Sol.Env) (z : Mv) (n : Nat) (g : OL) (gf : (Nat → Nat) → OL) : Raw OL :=
  mvEQ E { z with b := false, i := 0 } (mvC E z) nextR (itO z.l 0) g (fun y => { z with ep := y 3, k := fun i => y (4 + i), b := true, pv := y 20, u := y 21, v := y 22, x := y 23 }.pre E.w (itE n)) gf
noncomputable def moveZ (l lep : Nat) (vs : List Value) (s : Seen OL) : Mv := { f := fA s.c, it := cItF s.c, l := l, fp := hd1 s.l 3, ep := epO (s.T.get 1), lep := lep, k := ktO (s.T.get 1), b := false, pv := 0, u := 0, v := 0, x := 0, vs := vs, i := 0 }
noncomputable def moveZc (vs : List Value) (s : Seen OL) : Rc := { lc := fA s.c, it := cIt s.c, acc := cAcc s.c, l := hd1 s.l 3, fr := cFr s.c, dep := epO (s.T.get 7), aep := epO (s.T.get 6), lep := epO (s.T.get 4), k := 0, b := false, pv := 0, av := [], vs := vs, i := 0 }
noncomputable def moveCon (E : Sol.Env) (l lep : Nat) (vs : List Value) (n : Nat) (g0 : OL) (g1 : (Nat → Nat) → OL) (g2 g3 : (Nat → Nat) → (Nat → Nat) → OL) (av : (Nat → Nat) → List Value) : List (Seen OL → Con OL) := [
  fun s => (newGQ g0 g1).con [],
  fun s => (mvForQ E (moveZ l lep vs s) n (g1 (hd1 s.l)) (g2 (hd1 s.l))).con [1, 2, 0],
  fun s => ((laddQ l lep vs (rfA s.c 1) (epO (s.T.get 3)) (.ref (hd1 s.l.tail 3 + 209))).at s.g).con [0, 3],
  fun s => (mcSQ E (moveZc (vs ++ [.ref (hd1 s.l.tail.tail 3 + 209)]) s) (av (hd1 s.l.tail.tail)) (n + 1) (g2 (hd1 s.l.tail.tail) (hd1 s.l.tail)) (g3 (hd1 s.l.tail.tail) (hd1 s.l.tail))).con [7, 6, 5, 4]]
noncomputable def refR (r : Result) : Nat := match r with
  | .ok f => match f with
    | .ret v => refV v - 209
    | _ => 0
  | .error _ => 0
noncomputable def MoveRun (E : Sol.Env) : Prop := ∀ (l lep : Nat) (vs : List Value) (n : Nat) (g0 : OL) (g1 : (Nat → Nat) → OL) (g2 g3 : (Nat → Nat) → (Nat → Nat) → OL) (av : (Nat → Nat) → List Value),
  RunX (E.cfg (conL (moveCon E l lep vs n g0 g1 g2 g3 av)) noCut) 300 (.call (.ref 203) ⟨[.ref (l + 209)], []⟩) [l + 209] [lsO vs lep] g0
    [0, 0, 2, 2, 0, 0, 0, 0, 1, 2, 2, 2, 1, 1, 0, 1, 3, 2, 2, 2, 1, 4, 1, 3, 5, 5, 0, 5, 6, 4, 8, 8, 8]
    (fun o X => (ok (.ref (refR o.r + 209)), [lsO vs lep], [(refR o.r + 209, lsO (av (X 0)) (epO (o.T.get 6)))], g3 (X 0) (X 1))) [6]
end Sol
namespace Sol
open PySem PySem.Spec PySem.Calls PyProof.Rows PySem.W PySem.W.X
structure MoveRuns (E : Sol.Env) : Prop where
  cls : ClsRuns E
  t : MvTurn E
  e : MvEnd E
  c0 : McStart E
  c1 : McTurn E
  c2 : McEnd E
  move : MoveRun E
noncomputable def mvAll (hh : Int) (ps : List PileG) (x1 x2 : Nat → Nat) : List PileG := ps.map popP ++ [mvN (freshP hh x1) ps fun i => x2 (60 + i)]
noncomputable def mvPs (hh : Int) (ps : List PileG) (x1 x2 : Nat → Nat) : List PileG := (mvAll hh ps x1 x2).filter neP
theorem mvPs_eq {hh : Int} {ps : List PileG} (hne : ps ≠ []) (x1 x2 : Nat → Nat) : mvPs hh ps x1 x2 = (ps.map popP).filter neP ++ [mvN (freshP hh x1) ps fun i => x2 (60 + i)] := by
  unfold mvPs mvAll
  rw [List.filter_append]
  congr 1
  cases ps with
  | nil => exact absurd rfl hne
  | cons q ps => rfl
theorem mvPs_ref {hh : Int} {ps : List PileG} (hne : ps ≠ []) (x1 x2 x2' : Nat → Nat) : (mvPs hh ps x1 x2).map refP = (mvPs hh ps x1 x2').map refP := by
  rw [mvPs_eq hne, mvPs_eq hne, List.map_append, List.map_append]; rfl
noncomputable def moveQ (l lep : Nat) (vs : List Value) (g : OL) (av : (Nat → Nat) → List Value) (gf : (Nat → Nat) → OL) : Raw OL where
  code := .call (.ref 203) ⟨[.ref (l + 209)], []⟩
  ads := [l + 209]
  pre := [lsO vs lep]
  g := g
  res := fun y => ok (.ref (y 3 + 209))
  post := fun _ => [lsO vs lep]
  news := fun y => [(y 3 + 209, lsO (av y) (y 4))]
  gpost := gf
noncomputable def fM (a b c d e : Nat) (k : Nat → Nat) (h : Nat → Nat) (j : Nat) : Nat := if j < 57 then (match j with | 0 => a | 1 => k 0 | 2 => k 1 | 3 => k 2 | 4 => k 3 | 5 => k 4 | 17 => b | 18 => c | 19 => d | 20 => e | _ => 0) else h (j - 57)
noncomputable def fN (a b c d e : Nat) (h : Nat → Nat) (j : Nat) : Nat := if j < 57 then (match j with | 0 => a | 1 => b | 2 => c | 3 => d | 4 => e | _ => 0) else h (j - 57)
section
variable {E : Sol.Env} {os : OsState} {dm um : Nat} (hE : E.Ok)
include hE
theorem newG_ok (hd : (gK E os dm um).Lim) (R : ClsRuns E) {ps : List PileG} {t80 t87 : Option Nat} : RawOk (gK E os dm um) (newGQ (gA ps t80 t87) fun y => gA (ps ++ [freshP (iniHash E.w) y]) t80 t87) := by
  have H := (new_ok (K := (gK E os dm um).unit) hE (Gd.unit_fine _) ⟨hd.dep, hd.uni⟩ R.new).lift (gK_fine E os dm um) []
  refine frame H (ga := []) (gp := []) (fr := gA ps t80 t87) (fun _ => []) rfl rfl rfl rfl rfl rfl (.refl _) (fun x => rfl) (fun x => rfl) (fun x => ?_) (fun x p hp => nomatch hp)
  refine ⟨gA ps t80 t87 ++ [(x 3 + 209, accO (x 4 + 209) [] 0), (x 4 + 209, iniO (iniHash E.w) (x 5 + 1) 305)], perm_sum fun f => ?_, .refl _⟩
  show (([] ++ gA _ _ _).map f).sum = _
  have e : obP (freshP (iniHash E.w) x) = [(x 3 + 209, accO (x 4 + 209) [] 0), (x 4 + 209, iniO (iniHash E.w) (x 5 + 1) 305)] := rfl
  simp only [gA, e, List.map_cons, List.map_append, List.sum_cons, List.sum_append, List.flatMap_append, List.flatMap_cons, List.flatMap_nil, List.cons_append, List.nil_append, List.append_nil, List.map_nil, List.sum_nil]
theorem mvFor_ok (hdm : (gK E os dm um).up.up.Lim) (R : MoveRuns E) {ps : List PileG} {t80 t87 : Option Nat} (hps : ∀ q ∈ ps, q.cs.length < 11 ∧ q.cs ≠ []) (hl : ps.length < 11) (hne : ps ≠ []) {hh : Int} {y1 : Nat → Nat} {z : Mv} (hvs : z.vs = ps.map refP) (hfp : z.fp = y1 3) :
    RawOk (gK E os dm um) (mvForQ E z ps.length (gA (ps ++ [freshP hh y1]) t80 t87) fun y => gA (mvAll hh ps y1 y) t80 t87) := by
  have L := mv_loop (os := os) (dm := dm) (um := um) hE hdm R.cls R.t R.e (t80 := t80) (t87 := t87) hps hl ps [] { z with b := false, i := 0 } (freshP hh y1) rfl hvs rfl hfp (by show 0 + ps.length < 11; omega)
  refine RawR.toOk (q := mvForQ E z ps.length (gA (ps ++ [freshP hh y1]) t80 t87) fun y => gA (mvAll hh ps y1 y) t80 t87) L ?_
  rintro r ob nw g' ⟨rfl, rfl, z', y, rfl, rfl, h1, h2, h3, h4, h5⟩
  refine ⟨fM z'.ep z'.pv z'.u z'.v z'.x z'.k y, fun y' hy => ⟨rfl, ?_, rfl, ?_⟩⟩
  · show Mv.pre E.w z' _ = Mv.pre E.w { z with ep := y' 3, k := fun i => y' (4 + i), b := true, pv := y' 20, u := y' 21, v := y' 22, x := y' 23 } _
    have hb : z'.b = true := by
      rw [h5]
      cases ps with
      | nil => exact absurd rfl hne
      | cons _ _ => rfl
    have h1' : z'.vs = z.vs := h1
    have h2' : z'.lep = z.lep := h2
    have h3' : z'.l = z.l := h3
    have h4' : z'.fp = z.fp := h4
    unfold Mv.pre
    simp only [show y' 3 = z'.ep from hy 0, show y' (4 + 0) = z'.k 0 from hy 1, show y' (4 + 1) = z'.k 1 from hy 2, show y' (4 + 2) = z'.k 2 from hy 3, show y' (4 + 3) = z'.k 3 from hy 4, show y' (4 + 4) = z'.k 4 from hy 5, show y' 20 = z'.pv from hy 17, show y' 21 = z'.u from hy 18, show y' 22 = z'.v from hy 19, show y' 23 = z'.x from hy 20, hb, h1', h2', h3', h4']
  · show gA (ps.map popP ++ [mvN (freshP hh y1) ps y]) t80 t87 = gA (mvAll hh ps y1 y') t80 t87
    have e : mvN (freshP hh y1) ps y = mvN (freshP hh y1) ps fun i => y' (60 + i) := by
      unfold mvN
      rw [newCs_congr ps (y := y) (y' := fun i => y' (60 + i)) (j := 0) (j' := 0) fun i => by
        have := hy (57 + (0 + i))
        rw [show 57 + (0 + i) + 3 = 60 + (0 + i) by omega] at this
        show y (0 + i) = y' (60 + (0 + i))
        rw [this]
        unfold fM
        rw [if_neg (by omega), Nat.add_sub_cancel_left]]
    rw [e]; rfl
theorem move_ok (hdm : (gK E os dm um).up.up.up.Lim) (R : MoveRuns E) {ps : List PileG} {t80 t87 : Option Nat} (hps : ∀ q ∈ ps, q.cs.length < 11 ∧ q.cs ≠ []) (hl : ps.length < 11) (hne : ps ≠ []) {l lep : Nat} :
    RawOk (gK E os dm um) (moveQ l lep (ps.map refP) (gA ps t80 t87) (fun y => (mvPs (iniHash E.w) ps (fun i => y (i + 2)) y).map refP) fun y => gA (mvPs (iniHash E.w) ps (fun i => y (i + 2)) y) t80 t87) := by
  have hF := gK_fine E os (dm + 95) (um + 270)
  have hU := Gd.unit_fine (gK E os dm um).up
  have hd2 := Gd.up_lim hdm
  have hdA := Gd.up_lim hd2
  have hdU : (gK E os dm um).up.unit.Lim := ⟨hdA.dep, hdA.uni⟩
  generalize hhh : iniHash E.w = hh
  have r := R.move l lep (ps.map refP) ps.length (gA ps t80 t87) (fun x1 => gA (ps ++ [freshP hh x1]) t80 t87) (fun x1 x2 => gA (mvAll hh ps x1 x2) t80 t87) (fun x1 x2 => gA (mvPs hh ps x1 x2) t80 t87) (fun x1 => (mvPs hh ps x1 fun _ => 0).map refP)
  have all : ∀ x1 x2, (mvAll hh ps x1 x2).map refP = ps.map refP ++ [.ref (x1 3 + 209)] := fun x1 x2 => by
    unfold mvAll
    rw [List.map_append, List.map_map]; rfl
  have alen : ∀ x1 x2, (mvAll hh ps x1 x2).length = ps.length + 1 := fun x1 x2 => by unfold mvAll; rw [List.length_append, List.length_map]; rfl
  have asz : ∀ x1 x2, ∀ q ∈ mvAll hh ps x1 x2, q.cs.length < 11 := fun x1 x2 q hq => by
    rcases List.mem_append.mp hq with hq | hq
    · obtain ⟨q', hq', rfl⟩ := List.mem_map.mp hq
      have := (hps q' hq').1
      show q'.cs.dropLast.length < 11
      rw [List.length_dropLast]; omega
    · rw [List.mem_singleton.mp hq]
      show ([] ++ newCs ps _ 0).length < 11
      rw [List.nil_append, newCs_len]; exact hl
  have T := RunX.toR (K := gK E os dm um) hE (gK_fine ..) (Gd.up_lim hdA) r ⟨fun s => ?_, fun s => ?_, fun s => ?_, fun s => ?_, trivial⟩
  · refine RawR.toOk (q := moveQ l lep (ps.map refP) (gA ps t80 t87) (fun y => (mvPs hh ps (fun i => y (i + 2)) y).map refP) fun y => gA (mvPs hh ps (fun i => y (i + 2)) y) t80 t87) T ?_
    rintro r ob nw g' ⟨o, X, rfl, rfl, rfl, rfl⟩
    refine ⟨fN (refR o.r) (epO (o.T.get 6)) (X 0 3) (X 0 4) (X 0 5) (fun i => X 1 (60 + i)), fun y hy => ?_⟩
    have e3 : y 3 = refR o.r := hy 0
    have e4 : y 4 = epO (o.T.get 6) := hy 1
    have e5 : y (3 + 2) = X 0 3 := hy 2
    have e6 : y (4 + 2) = X 0 4 := hy 3
    have e7 : y (5 + 2) = X 0 5 := hy 4
    have eP : mvPs hh ps (X 0) (X 1) = mvPs hh ps (fun i => y (i + 2)) y := by
      unfold mvPs mvAll
      have f1 : freshP hh (X 0) = freshP hh fun i => y (i + 2) := by unfold freshP; rw [← e5, ← e6, ← e7]
      have f2 : mvN (freshP hh (X 0)) ps (fun i => X 1 (60 + i)) = mvN (freshP hh fun i => y (i + 2)) ps fun i => y (60 + i) := by
        rw [f1]
        unfold mvN
        rw [newCs_congr ps (y := fun i => X 1 (60 + i)) (y' := fun i => y (60 + i)) (j := 0) (j' := 0) fun i => by
          have := hy (57 + (0 + i))
          rw [show 57 + (0 + i) + 3 = 60 + (0 + i) by omega] at this
          show X 1 (60 + (0 + i)) = y (60 + (0 + i))
          rw [this]
          unfold fN
          rw [if_neg (by omega), Nat.add_sub_cancel_left]]
      rw [f2]
    refine ⟨?_, rfl, ?_, ?_⟩
    · show ok (.ref (refR o.r + 209)) = ok (.ref (y 3 + 209)); rw [e3]
    · show [(refR o.r + 209, lsO ((mvPs hh ps (X 0) fun _ => 0).map refP) (epO (o.T.get 6)))] = [(y 3 + 209, lsO ((mvPs hh ps (fun i => y (i + 2)) y).map refP) (y 4))]
      rw [e3, e4, ← eP, mvPs_ref hne (X 0) (X 1) fun _ => 0]
    · show gA (mvPs hh ps (X 0) (X 1)) t80 t87 = gA (mvPs hh ps (fun i => y (i + 2)) y) t80 t87
      rw [eP]
  · have := newG_ok (os := os) (dm := dm + 95) (um := um + 270) hE hdA R.cls (ps := ps) (t80 := t80) (t87 := t87)
    rw [hhh] at this
    exact this.cg []
  · exact (mvFor_ok (os := os) (dm := dm + 95) (um := um + 270) hE hdm R hps hl hne (hh := hh) (y1 := hd1 s.l) (z := moveZ l lep (ps.map refP) s) rfl rfl).cg [1, 2, 0]
  · exact lift_cg hF (ladd_ok hE hU hdU (by rw [List.length_map]; exact hl)) s.g [0, 3]
  · have := mcS_ok (os := os) (dm := dm + 95) (um := um + 270) hE hdm R.cls R.c0 R.c1 R.c2 (ps := mvAll hh ps (hd1 s.l.tail.tail) (hd1 s.l.tail)) (t80 := t80) (t87 := t87) (asz _ _) (by rw [alen]; omega) (by unfold mvAll; simp) (z := moveZc (ps.map refP ++ [Value.ref (hd1 s.l.tail.tail 3 + 209)]) s) (by show ps.map refP ++ [Value.ref (hd1 s.l.tail.tail 3 + 209)] = _; exact (all (hd1 s.l.tail.tail) (hd1 s.l.tail)).symm)
    rw [alen] at this
    have e : ((mvAll hh ps (hd1 s.l.tail.tail) (hd1 s.l.tail)).filter neP).map refP = (mvPs hh ps (hd1 s.l.tail.tail) fun _ => 0).map refP := mvPs_ref hne _ _ _
    rw [e] at this
    exact this.cg [7, 6, 5, 4]
end
end Sol
namespace Sol
open PySem PySem.Spec PySem.Calls PyProof.Rows PySem.W PySem.W.X
noncomputable def trT : Nat → List Nat
  | 1 => [91, 98, 99, 93, 91, 97, 98, 93]
  | 2 => [91, 99, 100, 93, 91, 98, 99, 93, 91, 97, 98, 93]
  | 3 => [91, 100, 101, 93, 91, 99, 100, 93, 91, 98, 99, 93, 91, 97, 98, 93]
  | 4 => [91, 101, 102, 93, 91, 100, 101, 93, 91, 99, 100, 93, 91, 98, 99, 93, 91, 97, 98, 93]
  | _ => []
noncomputable def trR (t : List Nat) : List Nat := [40, 63, 115, 58] ++ t ++ [41, 92, 90]
noncomputable def trS1 : List Nat := [0, 0, 2, 2, 0, 0, 0, 0, 0, 3, 3, 0, 3, 2, 2, 0, 2, 2, 0, 0, 0, 0, 4, 4, 4, 4, 4, 4, 0, 4, 4, 4, 5, 0, 5, 5, 5, 5, 0, 5, 4, 4, 0, 0, 4, 0, 0, 7, 7, 7, 0, 7, 8, 8, 0, 8, 8, 8, 7, 8, 8, 8, 0, 8, 8, 8, 7, 8, 8, 8, 0, 8, 8, 8, 7, 8, 8, 10, 4, 4, 4, 4, 0, 4, 4, 0, 4, 4, 0, 4, 4, 4, 0, 4, 4, 4, 0, 4, 0, 4, 0, 4, 4, 4, 4, 4, 0, 4, 4, 0, 0, 4, 4, 0, 4, 4, 0, 0, 0, 4, 4, 0, 4, 4, 0, 0, 4, 0, 4, 4, 4, 4, 0, 4, 4, 0, 0, 4, 0, 4, 4, 4, 4, 0, 4, 4, 0, 0, 4, 4, 0, 4, 4, 4, 0, 11, 11, 11, 11, 4, 4, 4, 0, 4, 0, 4, 4, 0, 0, 0, 0, 0, 0, 1, 1, 1, 1, 0, 0, 0, 4, 0, 0, 18, 0, 0, 0, 0, 19, 19, 19, 19, 0, 19, 19, 4, 4, 4, 0, 4, 4, 4, 0, 0, 4, 0, 4, 0, 0, 4, 0, 20, 20, 0, 20, 20, 0, 0, 4, 4, 6, 0, 6, 6, 5, 5, 5, 5, 5, 5, 4, 4, 0, 4, 4, 0, 4, 4, 4, 0, 4, 4, 4, 0, 4, 0, 4, 0, 4, 4, 4, 4, 4, 0, 4, 4, 0, 0, 4, 4, 0, 4, 4, 0, 0, 0, 4, 4, 0, 4, 4, 0, 0, 4, 0, 4, 4, 4, 4, 0, 4, 4, 0, 0, 4, 0, 4, 4, 4, 4, 0, 4, 4, 0, 0, 4, 4, 0, 4, 4, 4, 0, 21, 21, 21, 21, 4, 4, 4, 0, 4, 0, 4, 4, 0, 0, 0, 0, 0, 0, 1, 0, 0, 0, 4, 0, 0, 22, 0, 0, 0, 0, 23, 23, 23, 23, 0, 23, 23, 4, 4, 4, 0, 4, 4, 4, 0, 0, 4, 0, 4, 0, 0, 4, 0, 24, 24, 0, 24, 24, 0, 0, 4, 4, 6, 0, 6, 6, 5, 5, 5, 5, 5, 5, 4, 4, 0, 4, 4, 0, 4, 2, 2, 0, 2, 2, 0, 0, 0, 0, 25, 25, 25, 25, 0, 25, 25, 25, 26, 0, 26, 26, 26, 26, 0, 26, 25, 25, 0, 0, 25, 0, 5, 0, 5, 5, 28, 28, 28, 0, 28, 29, 29, 0, 29, 29, 29, 28, 29, 29, 29, 0, 29, 29, 29, 28, 29, 29, 29, 0, 29, 29, 29, 28, 29, 29, 31, 25, 25, 25, 25, 0, 25, 25, 0, 25, 25, 5, 5, 5, 0, 5, 5, 25, 25, 25, 25, 5, 5, 5, 0, 5, 5, 27, 0, 27, 27, 26, 26, 26, 26, 26, 26, 25, 0, 25, 25, 25, 25, 0, 25, 25, 5, 5, 5, 0, 5, 5, 25, 25, 25, 25, 5, 5, 5, 0, 5, 5, 27, 0, 27, 27, 26, 26, 26, 26, 26, 26, 25, 0, 25, 25, 25, 25, 0, 0, 25, 25, 0, 25, 25, 0, 25, 0, 26, 26, 25, 25, 25]
noncomputable def trS2 : List Nat := [0, 0, 2, 2, 0, 0, 0, 0, 0, 3, 3, 0, 3, 2, 2, 0, 2, 2, 0, 0, 0, 0, 4, 4, 4, 4, 4, 4, 0, 4, 4, 4, 5, 0, 5, 5, 5, 5, 0, 5, 4, 4, 0, 0, 4, 0, 0, 7, 7, 7, 0, 7, 8, 8, 0, 8, 8, 8, 7, 8, 8, 8, 0, 8, 8, 8, 7, 8, 8, 8, 0, 8, 8, 8, 7, 8, 8, 10, 4, 4, 4, 4, 0, 4, 4, 0, 4, 4, 0, 4, 4, 4, 0, 4, 4, 4, 0, 4, 0, 4, 0, 4, 4, 4, 4, 4, 0, 4, 4, 0, 0, 4, 4, 0, 4, 4, 0, 0, 0, 4, 4, 0, 4, 4, 0, 0, 4, 0, 4, 4, 4, 4, 0, 4, 4, 0, 0, 4, 0, 4, 4, 4, 4, 0, 4, 4, 0, 0, 4, 4, 0, 4, 4, 4, 0, 11, 11, 11, 11, 4, 4, 4, 0, 4, 0, 4, 4, 0, 0, 0, 0, 0, 0, 1, 1, 1, 1, 0, 0, 0, 4, 0, 0, 18, 0, 0, 0, 0, 19, 19, 19, 19, 0, 19, 19, 4, 4, 4, 0, 4, 4, 4, 0, 0, 4, 0, 4, 0, 0, 4, 0, 20, 20, 0, 20, 20, 0, 0, 4, 4, 6, 0, 6, 6, 5, 5, 5, 5, 5, 5, 4, 4, 0, 4, 4, 0, 4, 4, 4, 0, 4, 4, 4, 0, 4, 0, 4, 0, 4, 4, 4, 4, 4, 0, 4, 4, 0, 0, 4, 4, 0, 4, 4, 0, 0, 0, 4, 4, 0, 4, 4, 0, 0, 4, 0, 4, 4, 4, 4, 0, 4, 4, 0, 0, 4, 0, 4, 4, 4, 4, 0, 4, 4, 0, 0, 4, 4, 0, 4, 4, 4, 0, 21, 21, 21, 21, 4, 4, 4, 0, 4, 0, 4, 4, 0, 0, 0, 0, 0, 0, 1, 0, 0, 0, 4, 0, 0, 22, 0, 0, 0, 0, 23, 23, 23, 23, 0, 23, 23, 4, 4, 4, 0, 4, 4, 4, 0, 0, 4, 0, 4, 0, 0, 4, 0, 24, 24, 0, 24, 24, 0, 0, 4, 4, 6, 0, 6, 6, 5, 5, 5, 5, 5, 5, 4, 4, 0, 4, 4, 0, 4, 4, 4, 0, 4, 4, 4, 0, 4, 0, 4, 0, 4, 4, 4, 4, 4, 0, 4, 4, 0, 0, 4, 4, 0, 4, 4, 0, 0, 0, 4, 4, 0, 4, 4, 0, 0, 4, 0, 4, 4, 4, 4, 0, 4, 4, 0, 0, 4, 0, 4, 4, 4, 4, 0, 4, 4, 0, 0, 4, 4, 0, 4, 4, 4, 0, 25, 25, 25, 25, 4, 4, 4, 0, 4, 0, 4, 4, 0, 0, 0, 0, 0, 0, 1, 0, 0, 0, 4, 0, 0, 26, 0, 0, 0, 0, 27, 27, 27, 27, 0, 27, 27, 4, 4, 4, 0, 4, 4, 4, 0, 0, 4, 0, 4, 0, 0, 4, 0, 28, 28, 0, 28, 28, 0, 0, 4, 4, 6, 0, 6, 6, 5, 5, 5, 5, 5, 5, 4, 4, 0, 4, 4, 0, 4, 2, 2, 0, 2, 2, 0, 0, 0, 0, 29, 29, 29, 29, 0, 29, 29, 29, 30, 0, 30, 30, 30, 30, 0, 30, 29, 29, 0, 0, 29, 0, 5, 0, 5, 5, 32, 32, 32, 0, 32, 33, 33, 0, 33, 33, 33, 32, 33, 33, 33, 0, 33, 33, 33, 32, 33, 33, 33, 0, 33, 33, 33, 32, 33, 33, 35, 29, 29, 29, 29, 0, 29, 29, 0, 29, 29, 5, 5, 5, 0, 5, 5, 29, 29, 29, 29, 5, 5, 5, 0, 5, 5, 31, 0, 31, 31, 30, 30, 30, 30, 30, 30, 29, 0, 29, 29, 29, 29, 0, 29, 29, 5, 5, 5, 0, 5, 5, 29, 29, 29, 29, 5, 5, 5, 0, 5, 5, 31, 0, 31, 31, 30, 30, 30, 30, 30, 30, 29, 0, 29, 29, 29, 29, 0, 29, 29, 5, 5, 5, 0, 5, 5, 29, 29, 29, 29, 5, 5, 5, 0, 5, 5, 31, 0, 31, 31, 30, 30, 30, 30, 30, 30, 29, 0, 29, 29, 29, 29, 0, 0, 29, 29, 0, 29, 29, 0, 29, 0, 30, 30, 29, 29, 29]
noncomputable def trS3 : List Nat := [0, 0, 2, 2, 0, 0, 0, 0, 0, 3, 3, 0, 3, 2, 2, 0, 2, 2, 0, 0, 0, 0, 4, 4, 4, 4, 4, 4, 0, 4, 4, 4, 5, 0, 5, 5, 5, 5, 0, 5, 4, 4, 0, 0, 4, 0, 0, 7, 7, 7, 0, 7, 8, 8, 0, 8, 8, 8, 7, 8, 8, 8, 0, 8, 8, 8, 7, 8, 8, 8, 0, 8, 8, 8, 7, 8, 8, 10, 4, 4, 4, 4, 0, 4, 4, 0, 4, 4, 0, 4, 4, 4, 0, 4, 4, 4, 0, 4, 0, 4, 0, 4, 4, 4, 4, 4, 0, 4, 4, 0, 0, 4, 4, 0, 4, 4, 0, 0, 0, 4, 4, 0, 4, 4, 0, 0, 4, 0, 4, 4, 4, 4, 0, 4, 4, 0, 0, 4, 0, 4, 4, 4, 4, 0, 4, 4, 0, 0, 4, 4, 0, 4, 4, 4, 0, 11, 11, 11, 11, 4, 4, 4, 0, 4, 0, 4, 4, 0, 0, 0, 0, 0, 0, 1, 1, 1, 1, 0, 0, 0, 4, 0, 0, 18, 0, 0, 0, 0, 19, 19, 19, 19, 0, 19, 19, 4, 4, 4, 0, 4, 4, 4, 0, 0, 4, 0, 4, 0, 0, 4, 0, 20, 20, 0, 20, 20, 0, 0, 4, 4, 6, 0, 6, 6, 5, 5, 5, 5, 5, 5, 4, 4, 0, 4, 4, 0, 4, 4, 4, 0, 4, 4, 4, 0, 4, 0, 4, 0, 4, 4, 4, 4, 4, 0, 4, 4, 0, 0, 4, 4, 0, 4, 4, 0, 0, 0, 4, 4, 0, 4, 4, 0, 0, 4, 0, 4, 4, 4, 4, 0, 4, 4, 0, 0, 4, 0, 4, 4, 4, 4, 0, 4, 4, 0, 0, 4, 4, 0, 4, 4, 4, 0, 21, 21, 21, 21, 4, 4, 4, 0, 4, 0, 4, 4, 0, 0, 0, 0, 0, 0, 1, 0, 0, 0, 4, 0, 0, 22, 0, 0, 0, 0, 23, 23, 23, 23, 0, 23, 23, 4, 4, 4, 0, 4, 4, 4, 0, 0, 4, 0, 4, 0, 0, 4, 0, 24, 24, 0, 24, 24, 0, 0, 4, 4, 6, 0, 6, 6, 5, 5, 5, 5, 5, 5, 4, 4, 0, 4, 4, 0, 4, 4, 4, 0, 4, 4, 4, 0, 4, 0, 4, 0, 4, 4, 4, 4, 4, 0, 4, 4, 0, 0, 4, 4, 0, 4, 4, 0, 0, 0, 4, 4, 0, 4, 4, 0, 0, 4, 0, 4, 4, 4, 4, 0, 4, 4, 0, 0, 4, 0, 4, 4, 4, 4, 0, 4, 4, 0, 0, 4, 4, 0, 4, 4, 4, 0, 25, 25, 25, 25, 4, 4, 4, 0, 4, 0, 4, 4, 0, 0, 0, 0, 0, 0, 1, 0, 0, 0, 4, 0, 0, 26, 0, 0, 0, 0, 27, 27, 27, 27, 0, 27, 27, 4, 4, 4, 0, 4, 4, 4, 0, 0, 4, 0, 4, 0, 0, 4, 0, 28, 28, 0, 28, 28, 0, 0, 4, 4, 6, 0, 6, 6, 5, 5, 5, 5, 5, 5, 4, 4, 0, 4, 4, 0, 4, 4, 4, 0, 4, 4, 4, 0, 4, 0, 4, 0, 4, 4, 4, 4, 4, 0, 4, 4, 0, 0, 4, 4, 0, 4, 4, 0, 0, 0, 4, 4, 0, 4, 4, 0, 0, 4, 0, 4, 4, 4, 4, 0, 4, 4, 0, 0, 4, 0, 4, 4, 4, 4, 0, 4, 4, 0, 0, 4, 4, 0, 4, 4, 4, 0, 29, 29, 29, 29, 4, 4, 4, 0, 4, 0, 4, 4, 0, 0, 0, 0, 0, 0, 1, 0, 0, 0, 4, 0, 0, 30, 0, 0, 0, 0, 31, 31, 31, 31, 0, 31, 31, 4, 4, 4, 0, 4, 4, 4, 0, 0, 4, 0, 4, 0, 0, 4, 0, 32, 32, 0, 32, 32, 0, 0, 4, 4, 6, 0, 6, 6, 5, 5, 5, 5, 5, 5, 4, 4, 0, 4, 4, 0, 4, 2, 2, 0, 2, 2, 0, 0, 0, 0, 33, 33, 33, 33, 0, 33, 33, 33, 34, 0, 34, 34, 34, 34, 0, 34, 33, 33, 0, 0, 33, 0, 5, 0, 5, 5, 36, 36, 36, 0, 36, 37, 37, 0, 37, 37, 37, 36, 37, 37, 37, 0, 37, 37, 37, 36, 37, 37, 37, 0, 37, 37, 37, 36, 37, 37, 39, 33, 33, 33, 33, 0, 33, 33, 0, 33, 33, 5, 5, 5, 0, 5, 5, 33, 33, 33, 33, 5, 5, 5, 0, 5, 5, 35, 0, 35, 35, 34, 34, 34, 34, 34, 34, 33, 0, 33, 33, 33, 33, 0, 33, 33, 5, 5, 5, 0, 5, 5, 33, 33, 33, 33, 5, 5, 5, 0, 5, 5, 35, 0, 35, 35, 34, 34, 34, 34, 34, 34, 33, 0, 33, 33, 33, 33, 0, 33, 33, 5, 5, 5, 0, 5, 5, 33, 33, 33, 33, 5, 5, 5, 0, 5, 5, 35, 0, 35, 35, 34, 34, 34, 34, 34, 34, 33, 0, 33, 33, 33, 33, 0, 33, 33, 5, 5, 5, 0, 5, 5, 33, 33, 33, 33, 5, 5, 5, 0, 5, 5, 35, 0, 35, 35, 34, 34, 34, 34, 34, 34, 33, 0, 33, 33, 33, 33, 0, 0, 33, 33, 0, 33, 33, 0, 33, 0, 34, 34, 33, 33, 33]
noncomputable def trS4 : List Nat := [0, 0, 2, 2, 0, 0, 0, 0, 0, 3, 3, 0, 3, 2, 2, 0, 2, 2, 0, 0, 0, 0, 4, 4, 4, 4, 4, 4, 0, 4, 4, 4, 5, 0, 5, 5, 5, 5, 0, 5, 4, 4, 0, 0, 4, 0, 0, 7, 7, 7, 0, 7, 8, 8, 0, 8, 8, 8, 7, 8, 8, 8, 0, 8, 8, 8, 7, 8, 8, 8, 0, 8, 8, 8, 7, 8, 8, 10, 4, 4, 4, 4, 0, 4, 4, 0, 4, 4, 0, 4, 4, 4, 0, 4, 4, 4, 0, 4, 0, 4, 0, 4, 4, 4, 4, 4, 0, 4, 4, 0, 0, 4, 4, 0, 4, 4, 0, 0, 0, 4, 4, 0, 4, 4, 0, 0, 4, 0, 4, 4, 4, 4, 0, 4, 4, 0, 0, 4, 0, 4, 4, 4, 4, 0, 4, 4, 0, 0, 4, 4, 0, 4, 4, 4, 0, 11, 11, 11, 11, 4, 4, 4, 0, 4, 0, 4, 4, 0, 0, 0, 0, 0, 0, 1, 1, 1, 1, 0, 0, 0, 4, 0, 0, 18, 0, 0, 0, 0, 19, 19, 19, 19, 0, 19, 19, 4, 4, 4, 0, 4, 4, 4, 0, 0, 4, 0, 4, 0, 0, 4, 0, 20, 20, 0, 20, 20, 0, 0, 4, 4, 6, 0, 6, 6, 5, 5, 5, 5, 5, 5, 4, 4, 0, 4, 4, 0, 4, 4, 4, 0, 4, 4, 4, 0, 4, 0, 4, 0, 4, 4, 4, 4, 4, 0, 4, 4, 0, 0, 4, 4, 0, 4, 4, 0, 0, 0, 4, 4, 0, 4, 4, 0, 0, 4, 0, 4, 4, 4, 4, 0, 4, 4, 0, 0, 4, 0, 4, 4, 4, 4, 0, 4, 4, 0, 0, 4, 4, 0, 4, 4, 4, 0, 21, 21, 21, 21, 4, 4, 4, 0, 4, 0, 4, 4, 0, 0, 0, 0, 0, 0, 1, 0, 0, 0, 4, 0, 0, 22, 0, 0, 0, 0, 23, 23, 23, 23, 0, 23, 23, 4, 4, 4, 0, 4, 4, 4, 0, 0, 4, 0, 4, 0, 0, 4, 0, 24, 24, 0, 24, 24, 0, 0, 4, 4, 6, 0, 6, 6, 5, 5, 5, 5, 5, 5, 4, 4, 0, 4, 4, 0, 4, 4, 4, 0, 4, 4, 4, 0, 4, 0, 4, 0, 4, 4, 4, 4, 4, 0, 4, 4, 0, 0, 4, 4, 0, 4, 4, 0, 0, 0, 4, 4, 0, 4, 4, 0, 0, 4, 0, 4, 4, 4, 4, 0, 4, 4, 0, 0, 4, 0, 4, 4, 4, 4, 0, 4, 4, 0, 0, 4, 4, 0, 4, 4, 4, 0, 25, 25, 25, 25, 4, 4, 4, 0, 4, 0, 4, 4, 0, 0, 0, 0, 0, 0, 1, 0, 0, 0, 4, 0, 0, 26, 0, 0, 0, 0, 27, 27, 27, 27, 0, 27, 27, 4, 4, 4, 0, 4, 4, 4, 0, 0, 4, 0, 4, 0, 0, 4, 0, 28, 28, 0, 28, 28, 0, 0, 4, 4, 6, 0, 6, 6, 5, 5, 5, 5, 5, 5, 4, 4, 0, 4, 4, 0, 4, 4, 4, 0, 4, 4, 4, 0, 4, 0, 4, 0, 4, 4, 4, 4, 4, 0, 4, 4, 0, 0, 4, 4, 0, 4, 4, 0, 0, 0, 4, 4, 0, 4, 4, 0, 0, 4, 0, 4, 4, 4, 4, 0, 4, 4, 0, 0, 4, 0, 4, 4, 4, 4, 0, 4, 4, 0, 0, 4, 4, 0, 4, 4, 4, 0, 29, 29, 29, 29, 4, 4, 4, 0, 4, 0, 4, 4, 0, 0, 0, 0, 0, 0, 1, 0, 0, 0, 4, 0, 0, 30, 0, 0, 0, 0, 31, 31, 31, 31, 0, 31, 31, 4, 4, 4, 0, 4, 4, 4, 0, 0, 4, 0, 4, 0, 0, 4, 0, 32, 32, 0, 32, 32, 0, 0, 4, 4, 6, 0, 6, 6, 5, 5, 5, 5, 5, 5, 4, 4, 0, 4, 4, 0, 4, 4, 4, 0, 4, 4, 4, 0, 4, 0, 4, 0, 4, 4, 4, 4, 4, 0, 4, 4, 0, 0, 4, 4, 0, 4, 4, 0, 0, 0, 4, 4, 0, 4, 4, 0, 0, 4, 0, 4, 4, 4, 4, 0, 4, 4, 0, 0, 4, 0, 4, 4, 4, 4, 0, 4, 4, 0, 0, 4, 4, 0, 4, 4, 4, 0, 33, 33, 33, 33, 4, 4, 4, 0, 4, 0, 4, 4, 0, 0, 0, 0, 0, 0, 1, 0, 0, 0, 4, 0, 0, 34, 0, 0, 0, 0, 35, 35, 35, 35, 0, 35, 35, 4, 4, 4, 0, 4, 4, 4, 0, 0, 4, 0, 4, 0, 0, 4, 0, 36, 36, 0, 36, 36, 0, 0, 4, 4, 6, 0, 6, 6, 5, 5, 5, 5, 5, 5, 4, 4, 0, 4, 4, 0, 4, 2, 2, 0, 2, 2, 0, 0, 0, 0, 37, 37, 37, 37, 0, 37, 37, 37, 38, 0, 38, 38, 38, 38, 0, 38, 37, 37, 0, 0, 37, 0, 5, 0, 5, 5, 40, 40, 40, 0, 40, 41, 41, 0, 41, 41, 41, 40, 41, 41, 41, 0, 41, 41, 41, 40, 41, 41, 41, 0, 41, 41, 41, 40, 41, 41, 43, 37, 37, 37, 37, 0, 37, 37, 0, 37, 37, 5, 5, 5, 0, 5, 5, 37, 37, 37, 37, 5, 5, 5, 0, 5, 5, 39, 0, 39, 39, 38, 38, 38, 38, 38, 38, 37, 0, 37, 37, 37, 37, 0, 37, 37, 5, 5, 5, 0, 5, 5, 37, 37, 37, 37, 5, 5, 5, 0, 5, 5, 39, 0, 39, 39, 38, 38, 38, 38, 38, 38, 37, 0, 37, 37, 37, 37, 0, 37, 37, 5, 5, 5, 0, 5, 5, 37, 37, 37, 37, 5, 5, 5, 0, 5, 5, 39, 0, 39, 39, 38, 38, 38, 38, 38, 38, 37, 0, 37, 37, 37, 37, 0, 37, 37, 5, 5, 5, 0, 5, 5, 37, 37, 37, 37, 5, 5, 5, 0, 5, 5, 39, 0, 39, 39, 38, 38, 38, 38, 38, 38, 37, 0, 37, 37, 37, 37, 0, 37, 37, 5, 5, 5, 0, 5, 5, 37, 37, 37, 37, 5, 5, 5, 0, 5, 5, 39, 0, 39, 39, 38, 38, 38, 38, 38, 38, 37, 0, 37, 37, 37, 37, 0, 0, 37, 37, 0, 37, 37, 0, 37, 0, 38, 38, 37, 37, 37]
noncomputable def trS : Nat → List Nat
  | 1 => trS1
  | 2 => trS2
  | 3 => trS3
  | 4 => trS4
  | _ => []
noncomputable def trQ (txt : List Nat) (t : Nat) : Raw Unit where
  code := .call (.ref 134) ⟨[stV txt t], []⟩
  ads := [148]
  pre := [tabO []]
  g := ()
  res := fun y => ok (stV (trR txt) (y 3))
  post := fun y => [tabO [.int 99 0, .int 39 0, .ref (y 4 + 209)]]
  news := fun _ => []
  gpost := fun _ => ()
noncomputable def fldR (o : Option Obj) (i : Nat) : Nat := match o with
  | none => 0
  | some o => match o.data with
    | .fields vs => refV (nthV vs.toList i) - 209
    | _ => 0
noncomputable def trX {Γ : Type} (o : Out Γ) (_ : XS) (_ _ _ : Nat) (j : Nat) : Nat := match j with
  | 0 => tokR o.r
  | _ => fldR (o.T.get 0) 2
noncomputable def TrRun (E : Sol.Env) (s : Nat) : Prop := ∀ t, RunQ (E.cfg noCon noCut) 4000 (trQ (trT s) t) (trS s) trX []
end Sol
namespace Sol
open PySem PySem.Spec PySem.Calls PyProof.Rows PySem.W PySem.W.X
noncomputable def siO (nm : List Nat) (nt i : Nat) : Obj := { cls := .type "str_ascii_iterator", data := .fields #[stV nm nt, .int i 0] }
noncomputable def siE (i : Nat) : Obj := { cls := .type "str_ascii_iterator", data := .fields #[.none, .int i 0] }
noncomputable def snextQ (si : Nat) (nm : List Nat) (nt i x : Nat) : Raw Unit where
  code := .call (.builtin "str_ascii_iterator.__next__") ⟨[.ref (si + 209)], []⟩
  ads := [si + 209]
  pre := [siO nm nt i]
  g := ()
  res := fun y => ok (stV [x] (y 3))
  post := fun _ => [siO nm nt (i + 1)]
  news := fun _ => []
  gpost := fun _ => ()
noncomputable def snextE (si : Nat) (nm : List Nat) (nt i : Nat) : Raw Unit where
  code := .call (.builtin "str_ascii_iterator.__next__") ⟨[.ref (si + 209)], []⟩
  ads := [si + 209]
  pre := [siO nm nt i]
  g := ()
  res := fun y => .error (.ref (y 3 + 209))
  post := fun _ => [siE i]
  news := fun y => [(y 3 + 209, stopO (y 4))]
  gpost := fun _ => ()
noncomputable def findQ (c1 c2 x : Nat) (t u : Nat) (r : Int) : Raw Unit where
  code := .call (.builtin "str.find") ⟨[stV [c1, c2] t, stV [x] u], []⟩
  ads := []
  pre := []
  g := ()
  res := fun y => ok (.int r (y 3 + 1))
  post := fun _ => []
  news := fun _ => []
  gpost := fun _ => ()
noncomputable def findI (c1 c2 x : Nat) : Int := match Nat.beq x c1 with
  | true => 0
  | false => match Nat.beq x c2 with
    | true => 1
    | false => -1
section
variable {E : Env}
noncomputable def snext_runP (E : Sol.Env) (n i : Nat) : Prop := ∀ si (f : Nat → Nat) nt, RunQ (E.cfg noCon noCut) 30 (snextQ si ((upto n 0).map f) nt i (f i)) [1, 1, 1, 1, 1] rX []
theorem snext_run (n i : Nat) (hn : n < 12) (hi : i < n) : ∀ si (f : Nat → Nat) nt, RunQ (E.cfg noCon noCut) 30 (snextQ si ((upto n 0).map f) nt i (f i)) [1, 1, 1, 1, 1] rX [] := by
  refine lts12 (P := fun n => ∀ i, i < n → snext_runP E n i) lts0 (lts1 ?_) (lts2 ?_ ?_) (lts3 ?_ ?_ ?_) (lts4 ?_ ?_ ?_ ?_) (lts5 ?_ ?_ ?_ ?_ ?_) (lts6 ?_ ?_ ?_ ?_ ?_ ?_) (lts7 ?_ ?_ ?_ ?_ ?_ ?_ ?_) (lts8 ?_ ?_ ?_ ?_ ?_ ?_ ?_ ?_) (lts9 ?_ ?_ ?_ ?_ ?_ ?_ ?_ ?_ ?_) (lts10 ?_ ?_ ?_ ?_ ?_ ?_ ?_ ?_ ?_ ?_) (lts11 ?_ ?_ ?_ ?_ ?_ ?_ ?_ ?_ ?_ ?_ ?_) n hn i hi <;> (intro si f nt; exact RunQ.of (by kernel_rfl))
noncomputable def snextE_runP (E : Sol.Env) (n : Nat) : Prop := ∀ si (f : Nat → Nat) nt, RunQ (E.cfg noCon noCut) 30 (snextE si ((upto n 0).map f) nt n) [1, 1, 1, 1, 1] seX [2]
theorem snextE_run (n : Nat) (hn : n < 12) : ∀ si (f : Nat → Nat) nt, RunQ (E.cfg noCon noCut) 30 (snextE si ((upto n 0).map f) nt n) [1, 1, 1, 1, 1] seX [2] := by
  refine lts12 (P := snextE_runP E) ?_ ?_ ?_ ?_ ?_ ?_ ?_ ?_ ?_ ?_ ?_ ?_ n hn <;> (intro si f nt; exact RunQ.of (by kernel_rfl))
noncomputable def find_runP (E : Sol.Env) (c x : Nat) : Prop := ∀ t u, RunQ (E.cfg noCon noCut) 30 (findQ (97 + c) (98 + c) (97 + x) t u (findI (97 + c) (98 + c) (97 + x))) [] rX []
theorem find_run (c x : Nat) (hc : c < 5) (hx : x < 11) : ∀ t u, RunQ (E.cfg noCon noCut) 30 (findQ (97 + c) (98 + c) (97 + x) t u (findI (97 + c) (98 + c) (97 + x))) [] rX [] := by
  refine lts5 (P := fun c => ∀ x, x < 11 → find_runP E c x) (lts11 ?_ ?_ ?_ ?_ ?_ ?_ ?_ ?_ ?_ ?_ ?_) (lts11 ?_ ?_ ?_ ?_ ?_ ?_ ?_ ?_ ?_ ?_ ?_) (lts11 ?_ ?_ ?_ ?_ ?_ ?_ ?_ ?_ ?_ ?_ ?_) (lts11 ?_ ?_ ?_ ?_ ?_ ?_ ?_ ?_ ?_ ?_ ?_) (lts11 ?_ ?_ ?_ ?_ ?_ ?_ ?_ ?_ ?_ ?_ ?_) c hc x hx <;> (intro t u; exact RunQ.of (by kernel_rfl))
end
section
variable {K : Gd Unit} (hE : K.E.Ok) (hF : K.Fine) (hdm : K.Lim)
include hE hF hdm
theorem snext_ok {si nt i x : Nat} {nm : List Nat} (h : nm[i]? = some x) (hL : nm.length < 12) : RawOk K (snextQ si nm nt i x) := by
  obtain ⟨hi, rfl⟩ := List.getElem?_eq_some_iff.mp h
  have := RunQ.ok0 hE hF hdm (snext_run nm.length i hL hi si (fun j => nm.getD j 0) nt)
  rw [list_upto] at this
  have e : nm.getD i 0 = nm[i] := by simp [List.getD, List.getElem?_eq_getElem hi]
  rw [e] at this
  exact this
theorem snextE_ok {si nt i : Nat} {nm : List Nat} (h : i = nm.length) (hL : nm.length < 12) : RawOk K (snextE si nm nt i) := by
  subst h
  have := RunQ.ok0 hE hF hdm (snextE_run nm.length hL si (fun j => nm.getD j 0) nt)
  rw [list_upto] at this
  exact this
theorem find_ok {c x t u : Nat} (hc : c < 5) (hx : x < 11) : RawOk K (findQ (97 + c) (98 + c) (97 + x) t u (findI (97 + c) (98 + c) (97 + x))) := RunQ.ok0 hE hF hdm (find_run c x hc hx t u)
end
noncomputable def n_one : List Nat := [111, 110, 101]
noncomputable def n_sign : List Nat := [115, 105, 103, 110]
structure Mk where
  lc : Nat
  acc : Nat
  z : Nat
  its : Nat
  ow : Nat
  li : Nat
  si : Nat
  pl : Nat
  fr : Nat
  dep : Nat
  aep : Nat
  pep : Nat
  k0 : Nat
  k1 : Nat
  b : Bool
  on : List Nat
  ot : Nat
  sx : Nat
  st : Nat
  v1 : Value
  v2 : Value
  av : List Value
  ps : List Value
  nm : List Nat
  nt : Nat
  i : Nat
noncomputable def zipA (its ow a : Nat) : Obj := { cls := .type "zip", data := .fields (zipGo a #[.int a 0, .bool false, .bool false, .ref (its + 209), .ref (ow + 209)]) }
noncomputable def zipO (its ow : Nat) : Obj := { cls := .type "zip", data := .fields #[.none, .bool false, .bool false, .ref (its + 209), .ref (ow + 209)] }
noncomputable def tupO (vs : List Value) : Obj := { cls := .type "tuple", data := .seq vs.toArray }
noncomputable def Mk.pre' (W : World) (z : Mk) (zo li si : Obj) : List Obj :=
  [dcO (match z.b with | true => [ky W n_one z.k0 (stV z.on z.ot), ky W n_sign z.k1 (stV [z.sx] z.st)] | false => []) z.dep, lsO z.av z.aep, zo, tupO [.ref (z.li + 209), .ref (z.si + 209)], tupO [z.v1, z.v2], li, si, lsO z.ps z.pep]
noncomputable def Mk.pre (W : World) (z : Mk) (li si : Obj) : List Obj := z.pre' W (zipO z.its z.ow) li si
theorem zipA_eq (its ow a : Nat) : zipA its ow a = zipO its ow := by
  unfold zipA zipO zipGo
  simp [rawInt]
noncomputable def mkC (E : Sol.Env) (z : Mk) : Code := compLC (fdOf E 193) (exprS (nthSt (bodyOf (fdOf E 193)) 1)) z.lc z.z z.acc z.fr
noncomputable def mkS (E : Sol.Env) (z : Mk) : Code := compSC (fdOf E 193) (exprS (nthSt (bodyOf (fdOf E 193)) 1)) z.lc z.z z.acc z.fr
noncomputable def Mk.ads (z : Mk) : List Nat := [z.lc + 209, z.acc + 209, z.z + 209, z.its + 209, z.ow + 209, z.li + 209, z.si + 209, z.pl + 209]
noncomputable def mkQ (E : Sol.Env) (z : Mk) (c : Code) (r : Result) (post : (Nat → Nat) → List Obj) : Raw Unit where
  code := c
  ads := z.ads
  pre := z.pre E.w (itO z.pl z.i) (siO z.nm z.nt z.i)
  g := ()
  res := fun _ => r
  post := post
  news := fun _ => []
  gpost := fun _ => ()
noncomputable def Mk.to (z : Mk) (y : Nat → Nat) (p : List Nat) (pt x : Nat) (r : Int) (j : Nat) : Mk := { z with dep := y 3, k0 := y 4, k1 := y 5, b := true, on := p, ot := pt, sx := x, st := y 57, v1 := stV p pt, v2 := stV [x] (y 57), av := z.av ++ [.int r (y j + 1)], aep := z.aep + 1, i := z.i + 1 }
noncomputable def mkNx (z : Mk) (p : List Nat) (pt x : Nat) : List (Seen Unit → Con Unit) := [
  fun s => (nextQ z.li z.pl z.pep z.ps z.i (stV p pt)).con [5, 7],
  fun s => (snextQ z.si z.nm z.nt z.i x).con [6]]
noncomputable def mkConA (z : Mk) (c1 c2 pt x : Nat) (r : Int) : List (Seen Unit → Con Unit) := mkNx z [91, c1, c2] pt x ++ [
  fun s => (findQ c1 c2 x (tkA s.c 0 - 1) (tkA s.c 1 - 1) r).con [],
  fun s => (appQ z.acc z.aep z.av (.int r (tkA s.c 1))).con [1]]
noncomputable def mkConB (z : Mk) (pt x : Nat) : List (Seen Unit → Con Unit) := mkNx z [] pt x ++ [
  fun s => (appQ z.acc z.aep z.av (.int (-1) (tkA s.c 1))).con [1]]
noncomputable def mkPre : List Nat := [3, 0, 3, 3, 3, 4, 3, 3, 3, 3, 6, 1, 5, 5, 5, 5, 7, 2, 5, 5, 5, 5, 5, 3, 3, 3, 3, 3, 3, 9, 9, 9, 0, 9, 10, 10, 0, 10, 10, 10, 9, 10, 10, 10, 0, 10, 10, 10, 9, 10, 10, 10, 0, 10, 10, 10, 9, 10, 10, 12, 1, 1, 1, 1, 1, 0, 13, 13, 13, 13]
noncomputable def MkA (E : Sol.Env) : Prop := ∀ (z : Mk) (b : Bool) (c1 c2 pt x : Nat) (r : Int), RunT (E.cfg (conL (mkConA { z with b := b } c1 c2 pt x r)) cutC) 300
  (mkQ E { z with b := b } (mkC E z) agR fun y => (Mk.to { z with b := b } y [91, c1, c2] pt x r 67).pre' E.w (zipA z.its z.ow (y 54 + 209)) (itO z.pl (z.i + 1)) (siO z.nm z.nt (z.i + 1))) (fun _ => mkC E z) (mkPre ++ [0, 1, 0, 14, 14, 14, 14, 1, 3, 4]) fX
noncomputable def mX {Γ : Type} (o : Out Γ) (X : XS) (N t G : Nat) (j : Nat) : Nat := match j with
  | 61 => X 1 1 + 5
  | j => fX o X N t G j
noncomputable def MkB (E : Sol.Env) : Prop := ∀ (z : Mk) (b : Bool) (pt x : Nat), RunT (E.cfg (conL (mkConB { z with b := b } pt x)) cutC) 300
  (mkQ E { z with b := b } (mkC E z) agR fun y => (Mk.to { z with b := b } y [] pt x (-1) 64).pre' E.w (zipA z.its z.ow (y 54 + 209)) (itO z.pl (z.i + 1)) (siO z.nm z.nt (z.i + 1))) (fun _ => mkC E z) (mkPre ++ [0, 0, 3]) mX
noncomputable def MkE1 (E : Sol.Env) : Prop := ∀ (z : Mk) (b : Bool) (p : List Nat) (pt : Nat), RunQ (E.cfg (conL [fun s => (nextQ z.li z.pl z.pep z.ps z.i (stV p pt)).con [5, 7], fun s => (snextE z.si z.nm z.nt z.i).con [6]]) cutC) 100
  (mkQ E { z with b := b } (mkC E z) nextR fun y => { z with b := b, v1 := stV p pt }.pre E.w (itO z.pl (z.i + 1)) (siE z.i)) [3, 0, 3, 3, 3, 4, 3, 3, 3, 3, 6, 1, 5, 5, 5, 5, 7, 2, 3, 3, 9] x0 []
noncomputable def MkE2 (E : Sol.Env) : Prop := ∀ (z : Mk) (b : Bool), RunQ (E.cfg (conL [fun s => (nextE z.li z.pl z.pep z.ps z.i).con [5, 7]]) cutC) 100
  (mkQ E { z with b := b } (mkC E z) nextR fun y => { z with b := b }.pre E.w (itE z.i) (siO z.nm z.nt z.i)) [3, 0, 3, 3, 3, 4, 3, 3, 3, 3, 6, 1, 3, 3, 9] x0 []
noncomputable def MkS (E : Sol.Env) : Prop := ∀ (z : Mk), RunT (E.cfg noCon cutC) 40
  (mkQ E { z with b := false } (mkS E z) agR fun y => { z with b := false }.pre E.w (itO z.pl z.i) (siO z.nm z.nt z.i)) (fun _ => mkC E z) (match E.b2 with | true => [] | false => [3, 3, 0, 3, 3]) x0
end Sol
namespace Sol
open PySem PySem.Spec PySem.Calls PyProof.Rows PySem.W PySem.W.X
section
variable {Γ : Type} {K : Gd Γ}
theorem RawIn.same {q : Raw Γ} {A h gb x} (R : RawIn K q A h gb) (h1 : q.post x = q.pre) (h2 : q.news x = []) (h3 : q.gpost x = q.g) (h4 : x 0 + 209 = h.objs.size) (h5 : x 2 = gb.length) (hl : q.ads.length = q.pre.length) : RawLeft K q h x h gb where
  size := h4
  gens := h5
  bare := R.bare
  post := fun i a o e1 e2 => R.rd i a o e1 (h1 ▸ e2)
  len := by rw [h1, hl]
  news := fun p hp => by rw [h2] at hp; cases hp
  newN := by rw [h2]; exact List.nodup_nil
  gh := h3 ▸ R.gh
  foot := fun b f => .inl (h3 ▸ f)
  keep := fun b o e _ _ => e
  le := Nat.le_refl _
theorem RawIn.pushed {K : Gd Unit} {q : Raw Unit} {A h gb x} {o : Obj} (R : RawIn K q A h gb) (F : K.Fine) (hf : o.isFreed = false) (h1 : q.post x = q.pre) (h3 : q.gpost x = q.g) (h2 : q.news x = [(h.objs.size, o)]) (h5 : x 2 = gb.length) (hl : q.ads.length = q.pre.length) (h4 : x 0 + 209 = h.objs.size + 1) : RawLeft K q h x (h.push o) gb where
  size := by rw [h4]; cases h; simp [Heap.push]
  gens := h5
  bare := R.bare
  post := fun i a ob e1 e2 => Heap.get?_push_of_some o (R.rd i a ob e1 (h1 ▸ e2))
  len := by rw [h1, hl]
  news := fun p hp => by
    rw [h2] at hp
    rw [List.mem_singleton.mp hp]
    refine ⟨Heap.get?_push_size _ hf, Nat.le_refl _, fun f => ?_⟩
    rw [h3] at f
    obtain ⟨ob, e⟩ := F.footIn _ _ _ R.gh f
    exact absurd (Heap.lt_size e) (Nat.lt_irrefl _)
  newN := by rw [h2]; simp
  gh := h3 ▸ F.stable _ _ _ (fun b ob _ e => Heap.get?_push_of_some o e) R.gh
  foot := fun b f => .inl (h3 ▸ f)
  keep := fun b ob e _ _ => Heap.get?_push_of_some o e
  le := by cases h; simp [Heap.push]
theorem call_m {prog : Program} {w : World} {T id : String} {name : Str} {b : Builtin} {self : Value} {rest : List Value} {S : PySem.Spec} (sl : Slot T name id) (he : entryFor table id = some b) (ha : argsOk id ⟨self :: rest, []⟩) (M : Meets (b ⟨self :: rest, []⟩) S)
    {A : Around} {R : Result → Shared → Prop} {s : Shared} (hT : s.TypeIs self T) (h : S A R s) : codeAny (model prog w) A (.call (.builtin id) ⟨self :: rest, []⟩) R s :=
  codeAny_call_builtin sl.plain he (sl.check _ _ _ _ _ _ _ _ hT ha (M prog w A R s h))
end
noncomputable def containsQ (l ep : Nat) (vs : List Value) (x : Value) (r : Bool) : Raw Unit where
  code := .call (.builtin "list.__contains__") ⟨[.ref (l + 209), x], []⟩
  ads := [l + 209]
  pre := [lsO vs ep]
  g := ()
  res := fun _ => ok (.bool r)
  post := fun _ => [lsO vs ep]
  news := fun _ => []
  gpost := fun _ => ()
noncomputable def indexQ (l ep : Nat) (vs : List Value) (x : Value) (j : Nat) : Raw Unit where
  code := .call (.builtin "list.index") ⟨[.ref (l + 209), x], []⟩
  ads := [l + 209]
  pre := [lsO vs ep]
  g := ()
  res := fun y => ok (.int j (y 3 + 1))
  post := fun _ => [lsO vs ep]
  news := fun _ => []
  gpost := fun _ => ()
noncomputable def leqQ (id : String) (l ep : Nat) (vs : List Value) (m mep : Nat) (us : List Value) (r : Bool) : Raw Unit where
  code := .call (.builtin id) ⟨[.ref (l + 209), .ref (m + 209)], []⟩
  ads := [l + 209, m + 209]
  pre := [lsO vs ep, lsO us mep]
  g := ()
  res := fun _ => ok (.bool r)
  post := fun _ => [lsO vs ep, lsO us mep]
  news := fun _ => []
  gpost := fun _ => ()
noncomputable def siterQ (nm : List Nat) (nt : Nat) : Raw Unit where
  code := .call (.builtin "str.__iter__") ⟨[stV nm nt], []⟩
  ads := []
  pre := []
  g := ()
  res := fun y => ok (.ref (y 3 + 209))
  post := fun _ => []
  news := fun y => [(y 3 + 209, siO nm nt 0)]
  gpost := fun _ => ()
noncomputable def xsame (N t G : Nat) (f : Nat → Nat) : Nat → Nat
  | 0 => N
  | 1 => t
  | 2 => G
  | j + 3 => f j
section
variable {K : Gd Unit}
theorem contains_ok {l ep : Nat} {vs : List Value} {x : Value} {e : Value → Bool} {r : Bool} (he : ∀ y ∈ vs, PySem.MeetsSeq.EqGives y x (e y)) (hr : vs.any e = r) : RawOk K (containsQ l ep vs x r) := by
  subst hr
  refine ⟨rfl, fun A h gb d t R => ?_⟩
  have h0 : h.get? (l + 209) = some (lsO vs ep) := R.rd 0 _ _ rfl rfl
  have hs : h.objs.size - 209 + 209 = h.objs.size := by have := R.big; omega
  refine call_m PySem.F.slot_list_contains PySem.F.entry_list_contains (PySem.F.args_list_contains_2 _ _) (PySem.MeetsSeq.list_contains (l + 209) vs.toArray ep x e (fun y hy => he y (by simpa using hy))) ⟨_, h0, rfl⟩ ⟨h0, ?_⟩
  refine ⟨xsame (h.objs.size - 209) t gb.length fun _ => 0, h, gb, d, rfl, ?_, R.same rfl rfl rfl hs rfl rfl⟩
  show ok (.bool (vs.toArray.any e)) = ok (.bool (vs.any e))
  simp
theorem index_ok {l ep : Nat} {vs : List Value} {x : Value} {e : Value → Bool} {j : Nat} (he : ∀ y ∈ vs, PySem.MeetsSeq.EqGives y x (e y)) (hj : j < vs.length) (hs : vs.length < 1000) (hit : e (vs[j]'hj) = true) (hno : ∀ m (hm : m < vs.length), m < j → e vs[m] = false) : RawOk K (indexQ l ep vs x j) := by
  refine ⟨rfl, fun A h gb d t R => ?_⟩
  have h0 : h.get? (l + 209) = some (lsO vs ep) := R.rd 0 _ _ rfl rfl
  have hs : h.objs.size - 209 + 209 = h.objs.size := by have := R.big; omega
  refine call_m PySem.F.slot_list_index PySem.F.entry_list_index (PySem.F.args_list_index_2 _ _) (PySem.SeqAt.list_indexAt (l + 209) vs.toArray ep none #[] x e j (by simpa using hj) (by omega) (by simpa using hit) (fun m hm h => by simpa using hno m (by simpa using hm) h)) ⟨_, h0, rfl⟩ ⟨h0, fun y hy => (he y (by simpa using hy)).at _ _, ?_⟩
  exact ⟨xsame (h.objs.size - 209) (t + 1) gb.length fun _ => t, h, gb, d, rfl, rfl, R.same rfl rfl rfl hs rfl rfl⟩
theorem leq_ok {l ep m mep : Nat} {vs us : List Value} {e : Nat → Bool} {r : Bool} (hl : vs.length = us.length) (he : ∀ j (h1 : j < vs.length) (h2 : j < us.length), PySem.MeetsSeq.EqGives vs[j] us[j] (e j)) (hr : (List.range vs.length).all e = r) : RawOk K (leqQ "list.__eq__" l ep vs m mep us r) := by
  subst hr
  refine ⟨rfl, fun A h gb d t R => ?_⟩
  have h0 : h.get? (l + 209) = some (lsO vs ep) := R.rd 0 _ _ rfl rfl
  have h1 : h.get? (m + 209) = some (lsO us mep) := R.rd 1 _ _ rfl rfl
  have hs : h.objs.size - 209 + 209 = h.objs.size := by have := R.big; omega
  refine call_m PySem.F.slot_list_eq PySem.F.entry_list_eq (PySem.F.args_list_eq_2 _ _) (PySem.SeqAt.list_eqAt (l + 209) (m + 209) vs.toArray us.toArray ep mep none none #[] #[] (by simpa using hl) e) ⟨_, h0, rfl⟩ ⟨h0, h1, fun j a b => by have := (he j (by simpa using a) (by simpa using b)).at A.in1 ⟨h, ⟨gb⟩, d, t + 1, K.os⟩; simpa using this, ?_⟩
  exact ⟨xsame (h.objs.size - 209) t gb.length fun _ => 0, h, gb, d, rfl, by simp [leqQ]; rfl, R.same rfl rfl rfl hs rfl rfl⟩
theorem leq_ok' {l ep m mep : Nat} {vs us : List Value} (hl : vs.length ≠ us.length) : RawOk K (leqQ "list.__eq__" l ep vs m mep us false) := by
  refine ⟨rfl, fun A h gb d t R => ?_⟩
  have h0 : h.get? (l + 209) = some (lsO vs ep) := R.rd 0 _ _ rfl rfl
  have h1 : h.get? (m + 209) = some (lsO us mep) := R.rd 1 _ _ rfl rfl
  have hs : h.objs.size - 209 + 209 = h.objs.size := by have := R.big; omega
  refine call_m PySem.F.slot_list_eq PySem.F.entry_list_eq (PySem.F.args_list_eq_2 _ _) (PySem.SeqAt.list_eq_lengthsAt (l + 209) (m + 209) vs.toArray us.toArray ep mep none none #[] #[] (by simpa using hl)) ⟨_, h0, rfl⟩ ⟨h0, h1, ?_⟩
  exact ⟨xsame (h.objs.size - 209) t gb.length fun _ => 0, h, gb, d, rfl, rfl, R.same rfl rfl rfl hs rfl rfl⟩
theorem lne_ok {l ep m mep : Nat} {vs us : List Value} {e : Nat → Bool} {r : Bool} (hl : vs.length = us.length) (he : ∀ j (h1 : j < vs.length) (h2 : j < us.length), PySem.MeetsSeq.EqGives vs[j] us[j] (e j)) (hr : (!(List.range vs.length).all e) = r) : RawOk K (leqQ "list.__ne__" l ep vs m mep us r) := by
  subst hr
  refine ⟨rfl, fun A h gb d t R => ?_⟩
  have h0 : h.get? (l + 209) = some (lsO vs ep) := R.rd 0 _ _ rfl rfl
  have h1 : h.get? (m + 209) = some (lsO us mep) := R.rd 1 _ _ rfl rfl
  have hs : h.objs.size - 209 + 209 = h.objs.size := by have := R.big; omega
  refine call_m PySem.F.slot_list_ne PySem.F.entry_list_ne (PySem.F.args_list_ne_2 _ _) (PySem.SeqAt.list_neAt (l + 209) (m + 209) vs.toArray us.toArray ep mep none none #[] #[] (by simpa using hl) e) ⟨_, h0, rfl⟩ ⟨h0, h1, fun j a b => by have := (he j (by simpa using a) (by simpa using b)).at A.in1 ⟨h, ⟨gb⟩, d, t + 1, K.os⟩; simpa using this, ?_⟩
  exact ⟨xsame (h.objs.size - 209) t gb.length fun _ => 0, h, gb, d, rfl, by simp [leqQ]; rfl, R.same rfl rfl rfl hs rfl rfl⟩
theorem EqStr (a b : PySem.Str) (t u : Nat) : PySem.MeetsSeq.EqGives (.str a t) (.str b u) (a == b) := fun _ _ _ _ _ _ h => PyProof.Rows.eqBool_str h
theorem siter_ok (F : K.Fine) {nm : List Nat} {nt : Nat} (hn : ∀ x ∈ nm, x < 128) : RawOk K (siterQ nm nt) := by
  refine ⟨rfl, fun A h gb d t R => ?_⟩
  have hs : h.objs.size - 209 + 209 = h.objs.size := by have := R.big; omega
  refine codeAny_call_builtin (by decide +kernel) PySem.F.entry_str_iter (PySem.F.slot_str_iter.check _ _ _ _ _ _ _ _ rfl (PySem.F.args_str_iter_1 _) ?_)
  have hall : (⟨nm.toArray⟩ : PySem.Str).cps.all (· < 128) = true := by
    rw [Array.all_eq_true']; intro x hx; simpa using hn x (by simpa using hx)
  show wpAny _ _ (Builtin.«str.__iter__» ⟨[.str ⟨nm.toArray⟩ (nt + 1)], []⟩) _ _ _
  unfold Builtin.«str.__iter__»
  wp_walk
  have ex : Builtin.Str.isExactStr (.str ⟨nm.toArray⟩ (nt + 1)) = true := rfl
  rw [ex, hall]
  refine ⟨xsame (h.objs.size - 209 + 1) t gb.length fun _ => h.objs.size - 209, _, gb, d, rfl, ?_, R.pushed F rfl rfl rfl ?_ rfl rfl ?_⟩
  · show ok (.ref h.objs.size) = ok (.ref (h.objs.size - 209 + 209)); rw [hs]
  · show [(h.objs.size - 209 + 209, siO nm nt 0)] = [(h.objs.size, _)]; rw [hs]; rfl
  · show h.objs.size - 209 + 1 + 209 = h.objs.size + 1; omega
end
end Sol
namespace Sol
open PySem PySem.Spec PySem.Calls PyProof.Rows PySem.W PySem.W.X
noncomputable abbrev Pc := List Nat × Nat
noncomputable def pcV (q : Pc) : Value := stV q.1 q.2
noncomputable def okPc (p : List Nat) : Prop := p = [] ∨ ∃ c, c < 5 ∧ p = [91, 97 + c, 98 + c]
noncomputable def okCh (x : Nat) : Prop := ∃ i, i < 11 ∧ x = 97 + i
noncomputable def mk1 (p : List Nat) (x : Nat) : Int := match p with
  | [_, c1, c2] => findI c1 c2 x
  | _ => -1
noncomputable def mkF : List (List Nat) → List Nat → List Int
  | p :: ps, x :: xs => mk1 p x :: mkF ps xs
  | [], _ => []
  | _ :: _, [] => []
theorem mkF_app : ∀ (A : List (List Nat)) (X : List Nat) (p : List Nat) (x : Nat), A.length = X.length → mkF (A ++ [p]) (X ++ [x]) = mkF A X ++ [mk1 p x]
  | [], [], _, _, _ => rfl
  | a :: A, b :: X, p, x, h => by
    show mk1 a b :: mkF (A ++ [p]) (X ++ [x]) = _
    rw [mkF_app A X p x (by simpa using h)]; rfl
  | [], _ :: _, _, _, h => nomatch h
  | _ :: _, [], _, _, h => nomatch h
theorem mkF_nil_r : ∀ (A : List (List Nat)) (X : List Nat) (B : List (List Nat)), A.length = X.length → mkF (A ++ B) X = mkF A X
  | [], [], B, _ => by cases B <;> rfl
  | a :: A, b :: X, B, h => by
    show mk1 a b :: mkF (A ++ B) X = _
    rw [mkF_nil_r A X B (by simpa using h)]; rfl
  | [], _ :: _, _, h => nomatch h
  | _ :: _, [], _, h => nomatch h
theorem mkF_nil_l : ∀ (A : List (List Nat)) (X Y : List Nat), A.length = X.length → mkF A (X ++ Y) = mkF A X
  | [], [], Y, _ => by cases Y <;> rfl
  | a :: A, b :: X, Y, h => by
    show mk1 a b :: mkF A (X ++ Y) = _
    rw [mkF_nil_l A X Y (by simpa using h)]; rfl
  | [], _ :: _, _, h => nomatch h
  | _ :: _, [], _, h => nomatch h
structure MkInv (z : Mk) (pcs : List Pc) (i : Nat) : Prop where
  b : z.b = !(Nat.beq i 0)
  on : 0 < i → z.on = (pcs.getD (i - 1) ([], 0)).1
  ot : 0 < i → z.ot = (pcs.getD (i - 1) ([], 0)).2
  sx : 0 < i → z.sx = z.nm.getD (i - 1) 0
  v1 : 0 < i → z.v1 = stV z.on z.ot
  v2 : 0 < i → z.v2 = stV [z.sx] z.st
structure MkRuns (E : Sol.Env) : Prop where
  s : MkS E
  a : MkA E
  b : MkB E
  e1 : MkE1 E
  e2 : MkE2 E
section
variable {K : Gd Unit} (hE : K.E.Ok) (hF : K.Fine) (hdm : K.up.Lim)
include hE hF hdm
theorem mk_loop (H : MkRuns K.E) {pcs : List Pc} {nm : List Nat} (hp : ∀ q ∈ pcs, okPc q.1) (hn : ∀ x ∈ nm, okCh x) (hpl : pcs.length < 12) (hnl : nm.length < 12) :
    ∀ (B : List Pc) (A : List Pc) (NA NB : List Nat) (z : Mk), pcs = A ++ B → nm = NA ++ NB → NA.length = A.length → z.i = A.length → z.ps = pcs.map pcV → z.nm = nm → IntsAre z.av (mkF (A.map (·.1)) NA) → z.av.length = A.length → MkInv z pcs A.length →
    RawR K (mkC K.E z) z.ads (z.pre K.E.w (itO z.pl z.i) (siO z.nm z.nt z.i)) () (fun r ob nw _ => r = nextR ∧ nw = [] ∧ ∃ z' : Mk, z'.ads = z.ads ∧ z'.fr = z.fr ∧ z'.pep = z.pep ∧ z'.nt = z.nt ∧ z'.nm = nm ∧ z'.ps = z.ps ∧ IntsAre z'.av (mkF (pcs.map (·.1)) nm) ∧
      (nm.length < pcs.length → MkInv z' pcs nm.length ∧ ob = { z' with v1 := pcV (pcs.getD nm.length ([], 0)) }.pre K.E.w (itO z.pl (nm.length + 1)) (siE nm.length)) ∧
      (pcs.length ≤ nm.length → MkInv z' pcs pcs.length ∧ ob = z'.pre K.E.w (itE pcs.length) (siO nm z.nt pcs.length))) := by
  have hU := Gd.up_fine hF
  intro B
  induction B with
  | nil =>
    intro A NA NB z hA hN hl hi hps hnm hav hal inv
    rw [List.append_nil] at hA
    subst hA
    have hlen : z.ps.length = pcs.length := by rw [hps, List.length_map]
    have ok := RunQ.okC hE hF (Gd.up_lim hdm) (H.e2 z z.b) ⟨fun s => (nextE_ok (K := K.up) hE hU hdm (by rw [hi, hlen]) (by rw [hlen]; exact hpl)).cg [5, 7], trivial⟩
    refine ok.toR.mono ?_
    rintro r ps nw g ⟨y, rfl, rfl, rfl, -⟩
    refine ⟨rfl, rfl, z, rfl, rfl, rfl, rfl, hnm, rfl, ?_, fun h => ?_, fun h => ⟨inv, ?_⟩⟩
    · rw [hN, mkF_nil_l _ _ _ (by rw [List.length_map, hl])]; exact hav
    · exfalso; rw [hN, List.length_append, hl] at h; omega
    · show z.pre K.E.w (itE z.i) (siO z.nm z.nt z.i) = _
      rw [hi, hnm]
  | cons q B ih =>
    intro A NA NB z hA hN hl hi hps hnm hav hal inv
    have hq : q ∈ pcs := by rw [hA]; exact List.mem_append_right _ (.head _)
    have hlen : z.ps.length = pcs.length := by rw [hps, List.length_map]
    have hgq : pcs[A.length]? = some q := by rw [hA, List.getElem?_append_right (Nat.le_refl _), Nat.sub_self]; rfl
    have hget : z.ps[z.i]? = some (pcV q) := by rw [hps, hi, List.getElem?_map, hgq]; rfl
    have hgd : pcs.getD A.length ([], 0) = q := by simp [List.getD, hgq]
    have c1 : ∀ s : Seen Unit, CG K.up ((nextQ z.li z.pl z.pep z.ps z.i (stV q.1 q.2)).con [5, 7]) := fun s => (next_ok (K := K.up) hE hU hdm hget (by rw [hlen]; exact hpl)).cg [5, 7]
    cases NB with
    | nil =>
      rw [List.append_nil] at hN
      subst hN
      have ok := RunQ.okC hE hF (Gd.up_lim hdm) (H.e1 z z.b q.1 q.2) ⟨c1, fun s => (snextE_ok (K := K.up) hE hU hdm (by rw [hi, hnm, hl]) (by rw [hnm]; exact hnl)).cg [6], trivial⟩
      refine ok.toR.mono ?_
      rintro r ps nw g ⟨y, rfl, rfl, rfl, -⟩
      refine ⟨rfl, rfl, z, rfl, rfl, rfl, rfl, hnm, rfl, ?_, fun h => ⟨by rw [hl]; exact inv, ?_⟩, fun h => ?_⟩
      · rw [hA, List.map_append, mkF_nil_r _ _ _ (by rw [List.length_map, hl])]; exact hav
      · show ({ z with v1 := stV q.1 q.2 } : Mk).pre K.E.w (itO z.pl (z.i + 1)) (siE z.i) = _
        rw [hl, hgd, hi]; rfl
      · exfalso; rw [hA, List.length_append, List.length_cons, hl] at h; omega
    | cons x NB =>
      have hgx : nm[A.length]? = some x := by rw [hN, List.getElem?_append_right (by omega), hl, Nat.sub_self]; rfl
      have hgxd : nm.getD A.length 0 = x := by simp [List.getD, hgx]
      have c2 : ∀ s : Seen Unit, CG K.up ((snextQ z.si z.nm z.nt z.i x).con [6]) := fun s => (snext_ok (K := K.up) hE hU hdm (by rw [hnm, hi]; exact hgx) (by rw [hnm]; exact hnl)).cg [6]
      have hxc : okCh x := hn x (by rw [hN]; exact List.mem_append_right _ (.head _))
      have hAl : A.length < 12 := by rw [hA, List.length_append, List.length_cons] at hpl; omega
      have go : ∀ (x' : Nat → Nat) (j : Nat), RawR K (mkC K.E z) z.ads ((Mk.to z x' q.1 q.2 x (mk1 q.1 x) j).pre' K.E.w (zipA z.its z.ow (x' 54 + 209)) (itO z.pl (z.i + 1)) (siO z.nm z.nt (z.i + 1))) () (fun r ob nw _ => r = nextR ∧ nw = [] ∧ ∃ z' : Mk, z'.ads = z.ads ∧ z'.fr = z.fr ∧ z'.pep = z.pep ∧ z'.nt = z.nt ∧ z'.nm = nm ∧ z'.ps = z.ps ∧ IntsAre z'.av (mkF (pcs.map (·.1)) nm) ∧
          (nm.length < pcs.length → MkInv z' pcs nm.length ∧ ob = { z' with v1 := pcV (pcs.getD nm.length ([], 0)) }.pre K.E.w (itO z.pl (nm.length + 1)) (siE nm.length)) ∧
          (pcs.length ≤ nm.length → MkInv z' pcs pcs.length ∧ ob = z'.pre K.E.w (itE pcs.length) (siO nm z.nt pcs.length))) := fun x' j => by
        rw [zipA_eq]
        refine ih (A ++ [q]) (NA ++ [x]) NB (Mk.to z x' q.1 q.2 x (mk1 q.1 x) j) (by rw [hA, List.append_assoc]; rfl) (by rw [hN, List.append_assoc]; rfl) (by rw [List.length_append, List.length_append, hl]; rfl) (by show z.i + 1 = _; rw [hi, List.length_append]; rfl) hps hnm ?_ (by show (z.av ++ [_]).length = _; rw [List.length_append, List.length_append, hal]; rfl) ?_
        · rw [List.map_append]
          show IntsAre (z.av ++ [_]) (mkF (A.map (·.1) ++ [q.1]) (NA ++ [x]))
          rw [mkF_app _ _ _ _ (by rw [List.length_map, hl])]
          exact hav.snoc
        · have e : (A ++ [q]).length = A.length + 1 := by rw [List.length_append]; rfl
          rw [e]
          exact ⟨rfl, fun _ => by rw [Nat.add_sub_cancel, hgd]; rfl, fun _ => by rw [Nat.add_sub_cancel, hgd]; rfl, fun _ => by rw [Nat.add_sub_cancel]; show x = z.nm.getD A.length 0; rw [hnm, hgxd], fun _ => rfl, fun _ => rfl⟩
      rcases hp q hq with e | ⟨c, hc, e⟩
      · have hm : mk1 q.1 x = -1 := by rw [e]; rfl
        refine RunT.turnC hE hF (Gd.up_lim hdm) (H.b z z.b q.2 x) ⟨fun s => by have := c1 s; rw [e] at this; exact this, c2, fun s => (app_ok (K := K.up) hE hU hdm (by show z.av.length < 12; rw [hal]; exact hAl)).cg [1], trivial⟩ fun x' => ?_
        have := go x' 64
        rw [hm, e] at this
        exact this
      · obtain ⟨i, hi', ex⟩ := hxc
        have hm : mk1 q.1 x = findI (97 + c) (98 + c) (97 + i) := by rw [e, ex]; rfl
        refine RunT.turnC hE hF (Gd.up_lim hdm) (H.a z z.b (97 + c) (98 + c) q.2 x (findI (97 + c) (98 + c) (97 + i))) ⟨fun s => by have := c1 s; rw [e] at this; exact this, c2, fun s => by rw [ex]; exact (find_ok (K := K.up) hE hU hdm hc hi').cg [], fun s => (app_ok (K := K.up) hE hU hdm (by show z.av.length < 12; rw [hal]; exact hAl)).cg [1], trivial⟩ fun x' => ?_
        have := go x' 67
        rw [hm, e] at this
        exact this
end
end Sol
namespace Sol
open PySem PySem.Spec PySem.Calls PyProof.Rows PySem.W PySem.W.X
section
variable {E : Env}
theorem ne_run (a b : Int) (t u : Nat) : RunEq (E.cfg noCon noCut) 30 (cmpQ "int.__ne__" a b t u (!(@decide (a = b) (PySem.W.Z.eqZ a b)))) [] idX [] := by
  intro N t G sk X; kernel_rfl
variable {K : Gd Unit} (hE : K.E.Ok) (hF : K.Fine) (hdm : K.Lim)
include hE hF hdm
theorem ne_ok2 {a b : Int} {t u : Nat} {r : Bool} (h : (!decide (a = b)) = r) : RawOk K (cmpQ "int.__ne__" a b t u r) := by
  have e : (!(@decide (a = b) (PySem.W.Z.eqZ a b))) = r := by rw [← h]; congr
  subst e
  exact (ne_run a b t u).ok hE hF hdm (con := noCon) (cut := noCut) (fun _ _ _ _ _ _ h => noCon_ok h) rfl rfl rfl
end
noncomputable def PT : Nat → List (List Nat)
  | 1 => [[91, 98, 99], [91, 97, 98], []]
  | 2 => [[91, 99, 100], [91, 98, 99], [91, 97, 98], []]
  | 3 => [[91, 100, 101], [91, 99, 100], [91, 98, 99], [91, 97, 98], []]
  | 4 => [[91, 101, 102], [91, 100, 101], [91, 99, 100], [91, 98, 99], [91, 97, 98], []]
  | _ => []
noncomputable def pcL : List (List Nat) → (Nat → Nat) → Nat → List Pc
  | [], _, _ => []
  | p :: ps, f, j => (p, f j) :: pcL ps f (j + 1)
noncomputable def etO (o : Option Obj) (i : Nat) : Nat := match o with
  | none => 0
  | some o => match o.data with
    | .seq vs _ => tokV (nthV vs.toList i) - 1
    | _ => 0
noncomputable def erO (o : Option Obj) (i : Nat) : Nat := match o with
  | none => 0
  | some o => match o.data with
    | .seq vs _ => refV (nthV vs.toList i) - 209
    | _ => 0
noncomputable def mkSQ (E : Sol.Env) (z : Mk) (on : List Nat) (ot sx : Nat) (v1 : Value) (ns : List Int) (li si : Obj) : Raw Unit :=
  mkQ E { z with b := false, av := [], i := 0 } (mkS E z) nextR fun y => { z with dep := y 5, k0 := y 6, k1 := y 7, b := true, on := on, ot := ot, sx := sx, st := y 8, v1 := v1, v2 := stV [sx] (y 8), av := (LY ns y 60).map iv, aep := y 9 }.pre E.w li si
noncomputable def marksZ (ps : List (List Nat)) (nm : List Nat) (nt : Nat) (s : Seen Unit) : Mk :=
  { lc := fA s.c, acc := cAcc s.c, z := cIt s.c, its := fldR (s.T.get 7) 3, ow := fldR (s.T.get 7) 4, li := erO (s.T.get 5) 0, si := erO (s.T.get 5) 1, pl := fldR (s.T.get 3) 0, fr := cFr s.c, dep := epO (s.T.get 9), aep := epO (s.T.get 8), pep := epO (s.T.get 2), k0 := 0, k1 := 0, b := false, on := [], ot := 0, sx := 0, st := 0, v1 := .none, v2 := .none, av := [], ps := (pcL ps (etO (s.T.get 2)) 0).map pcV, nm := nm, nt := nt, i := 0 }
noncomputable def nthU (l : List (Nat → Nat)) (i : Nat) : Nat → Nat := match l with
  | [] => fun _ => 0
  | x :: l => match i with
    | 0 => x
    | i + 1 => nthU l i
noncomputable def mkLi (k : Bool) (n pl : Nat) : Obj := match k with
  | true => itO pl (n + 1)
  | false => itE n
noncomputable def mkSi (k : Bool) (n : Nat) (nm : List Nat) (nt : Nat) : Obj := match k with
  | true => siE n
  | false => siO nm nt n
noncomputable def mkV1 (k : Bool) (n : Nat) (pcs : List Pc) : Value := match k with
  | true => pcV (pcs.getD n ([], 0))
  | false => pcV (pcs.getD (n - 1) ([], 0))
noncomputable def marksCon (E : Sol.Env) (ps : List (List Nat)) (nm : List Nat) (nt : Nat) (k : Bool) (n sx : Nat) (ns : List Int) (m : Int) (b r : Bool) : List (Seen Unit → Con Unit) := [
  fun s => (siterQ nm nt).con [],
  fun s => (mkSQ E (marksZ ps nm nt s) ((pcL ps (etO (s.T.get 2)) 0).getD (n - 1) ([], 0)).1 ((pcL ps (etO (s.T.get 2)) 0).getD (n - 1) ([], 0)).2 sx (mkV1 k n (pcL ps (etO (s.T.get 2)) 0)) ns (mkLi k n (marksZ ps nm nt s).pl) (mkSi k n nm nt)).con [9, 8, 7, 5, 6, 3, 4, 2],
  fun s => (slenQ nm (tkA s.c 0 - 1)).con [],
  fun s => (cmpQ "int.__ne__" nm.length m (tkA s.c 0) (tkA s.c 1) b).con [],
  fun s => (containsQ (rfA s.c 0) (epO (s.T.get 8)) ((LY ns (nthU s.l 2) 60).map iv) (.int (-1) (tkA s.c 1)) r).con [8]]
noncomputable def mkScr : List Nat := [0, 0, 1, 1, 1, 1, 0, 1, 0, 0, 2, 2, 2, 2, 0, 1, 1, 0, 0, 1, 1, 0, 0, 3, 3, 0, 3, 4, 1, 5, 8, 8, 0, 8, 8, 8, 8, 0, 8, 8, 2, 1, 1, 10, 10, 10, 10, 10, 10, 1, 0, 11, 11, 11, 11, 1, 0, 0, 12, 12, 12, 12, 0, 0, 1, 0, 3, 3, 3, 0, 3, 3, 0, 0, 0, 1, 3, 0, 0, 1, 0, 3, 0, 3, 3, 0, 4]
noncomputable def marksC (txt : List Nat) (tt : Nat) (nm : List Nat) (nt : Nat) : Code := .call (.ref 193) ⟨[stV txt tt, stV nm nt], []⟩
noncomputable def MarksR1 (E : Sol.Env) (s : Nat) : Prop := ∀ (tt nt : Nat) (nm : List Nat) (n sx : Nat) (ns : List Int),
  RunX (E.cfg (conL ((marksCon E (PT s) nm nt false n sx ns (s + 1 : Nat) true false).take 4)) noCut) 500 (marksC (trR (trT s)) tt nm nt) [] [] () mkScr
    (fun o X => (ok (.ref (refR o.r + 209)), [], [(refR o.r + 209, lsO [] 0)], ())) [12]
noncomputable def MarksR2 (E : Sol.Env) (s : Nat) : Prop := ∀ (tt nt : Nat) (nm : List Nat) (n sx : Nat) (ns : List Int),
  RunX (E.cfg (conL (marksCon E (PT s) nm nt true n sx ns (s + 1 : Nat) false true)) noCut) 500 (marksC (trR (trT s)) tt nm nt) [] [] () (mkScr ++ [0, 1, 9, 9, 5])
    (fun o X => (ok (.ref (refR o.r + 209)), [], [(refR o.r + 209, lsO [] 0)], ())) [12]
noncomputable def MarksR3 (E : Sol.Env) (s : Nat) : Prop := ∀ (tt nt : Nat) (nm : List Nat) (n sx : Nat) (ns : List Int),
  RunX (E.cfg (conL (marksCon E (PT s) nm nt true n sx ns (s + 1 : Nat) false false)) noCut) 500 (marksC (trR (trT s)) tt nm nt) [] [] () (mkScr ++ [0, 1, 9, 9, 5, 1])
    (fun o X => (ok (.ref (refR o.r + 209)), [], [(refR o.r + 209, lsO ((LY ns (X 1) 60).map iv) (epO (o.T.get 8)))], ())) [8]
end Sol
namespace Sol
open PySem PySem.Spec PySem.Calls PyProof.Rows PySem.W PySem.W.X
noncomputable def fQ (a b c d e f g : Nat) (h : Nat → Nat) (j : Nat) : Nat := if j < 57 then (match j with | 0 => a | 1 => b | 2 => c | 3 => d | 4 => e | 5 => f | 6 => g | _ => 0) else h (j - 57)
theorem fQ_hi {a b c d e f g : Nat} {h y : Nat → Nat} (hy : ∀ j, y (j + 3) = fQ a b c d e f g h j) (i : Nat) : y (60 + i) = h i := by
  have := hy (57 + i)
  rw [show 57 + i + 3 = 60 + i by omega] at this
  rw [this]
  unfold fQ
  rw [if_neg (by omega), Nat.add_sub_cancel_left]
theorem pcL_fst : ∀ (ps : List (List Nat)) (f : Nat → Nat) (j : Nat), (pcL ps f j).map (·.1) = ps
  | [], _, _ => rfl
  | p :: ps, f, j => by rw [pcL, List.map_cons, pcL_fst ps]
theorem pcL_len (ps : List (List Nat)) (f : Nat → Nat) (j : Nat) : (pcL ps f j).length = ps.length := by
  have := congrArg List.length (pcL_fst ps f j)
  rwa [List.length_map] at this
theorem pcL_ok {ps : List (List Nat)} (h : ∀ p ∈ ps, okPc p) (f : Nat → Nat) (j : Nat) : ∀ q ∈ pcL ps f j, okPc q.1 := fun q hq => h q.1 (by rw [← pcL_fst ps f j]; exact List.mem_map_of_mem hq)
section
variable {K : Gd Unit} (hE : K.E.Ok) (hF : K.Fine) (hdm : K.up.Lim)
include hE hF hdm
theorem mkS_ok (H : MkRuns K.E) {pcs : List Pc} {z : Mk} (hp : ∀ q ∈ pcs, okPc q.1) (hn : ∀ x ∈ z.nm, okCh x) (hpl : pcs.length < 12) (hnl : z.nm.length < 12) (hps : z.ps = pcs.map pcV) {k : Bool} {n : Nat} (h0 : 0 < n)
    (hk : match k with | true => n = z.nm.length ∧ n < pcs.length | false => n = pcs.length ∧ n ≤ z.nm.length) :
    RawOk K (mkSQ K.E z (pcs.getD (n - 1) ([], 0)).1 (pcs.getD (n - 1) ([], 0)).2 (z.nm.getD (n - 1) 0) (mkV1 k n pcs) (mkF (pcs.map (·.1)) z.nm) (mkLi k n z.pl) (mkSi k n z.nm z.nt)) := by
  have L := mk_loop hE hF hdm H hp hn hpl hnl pcs [] [] z.nm { z with b := false, av := [], i := 0 } rfl rfl rfl rfl hps rfl trivial rfl
    ⟨rfl, fun h => absurd h (Nat.lt_irrefl 0), fun h => absurd h (Nat.lt_irrefl 0), fun h => absurd h (Nat.lt_irrefl 0), fun h => absurd h (Nat.lt_irrefl 0), fun h => absurd h (Nat.lt_irrefl 0)⟩
  have T := RunT.turn hE hF (Gd.up_lim hdm) (con := noCon) (fun _ _ _ _ _ _ h => noCon_ok h) (H.s { z with b := false, av := [], i := 0 }) rfl rfl (fun _ => rfl) (fun x => L)
  refine RawR.toOk (q := mkSQ K.E z _ _ _ _ _ _ _) T ?_
  rintro r ob nw g' ⟨rfl, rfl, z', ha, hfr, hpep, hnt, hnm, hps', hav, h1, h2⟩
  obtain ⟨fv, hfv⟩ := hav.ly
  have ha' : z'.lc = z.lc ∧ z'.acc = z.acc ∧ z'.z = z.z ∧ z'.its = z.its ∧ z'.ow = z.ow ∧ z'.li = z.li ∧ z'.si = z.si ∧ z'.pl = z.pl := by
    have : [z'.lc + 209, z'.acc + 209, z'.z + 209, z'.its + 209, z'.ow + 209, z'.li + 209, z'.si + 209, z'.pl + 209] = [z.lc + 209, z.acc + 209, z.z + 209, z.its + 209, z.ow + 209, z.li + 209, z.si + 209, z.pl + 209] := ha
    simpa using this
  obtain ⟨_, _, _, a4, a5, a6, a7, a8⟩ := ha'
  have hpep' : z'.pep = z.pep := hpep
  have hps2 : z'.ps = z.ps := hps'
  refine ⟨fQ 0 0 z'.dep z'.k0 z'.k1 z'.st z'.aep fv, fun y hy => ⟨rfl, ?_, rfl, rfl⟩⟩
  have e5 : y 5 = z'.dep := hy 2
  have e6 : y 6 = z'.k0 := hy 3
  have e7 : y 7 = z'.k1 := hy 4
  have e8 : y 8 = z'.st := hy 5
  have e9 : y 9 = z'.aep := hy 6
  have ea : z'.av = (LY (mkF (pcs.map (·.1)) z.nm) y 60).map iv := hfv y 60 (fQ_hi hy)
  show _ = Mk.pre K.E.w { z with dep := y 5, k0 := y 6, k1 := y 7, b := true, on := _, ot := _, sx := _, st := y 8, v1 := _, v2 := stV [_] (y 8), av := _, aep := y 9 } _ _
  rw [← ea, e5, e6, e7, e8, e9]
  have nz : (!(Nat.beq n 0)) = true := by
    cases n with
    | zero => exact absurd h0 (Nat.lt_irrefl 0)
    | succ n => rfl
  cases k with
  | true =>
    obtain ⟨hk1, hk2⟩ := hk
    obtain ⟨I, hob⟩ := h1 (hk1 ▸ hk2)
    rw [hob]
    have ib := I.b
    have ion := I.on (hk1 ▸ h0)
    have iot := I.ot (hk1 ▸ h0)
    have isx := I.sx (hk1 ▸ h0)
    have iv2 := I.v2 (hk1 ▸ h0)
    have ib' : z'.b = true := by rw [ib]; rw [hk1] at nz; exact nz
    have hnm' : z'.nm = z.nm := hnm
    rw [hnm'] at isx
    unfold Mk.pre Mk.pre'
    simp only [mkV1, mkLi, mkSi]
    rw [ib', a4, a5, a6, a7, hpep', hps2, iv2, isx, ion, iot, hk1]
  | false =>
    obtain ⟨hk1, hk2⟩ := hk
    obtain ⟨I, hob⟩ := h2 (hk1 ▸ hk2)
    rw [hob]
    have ib := I.b
    have ion := I.on (hk1 ▸ h0)
    have iot := I.ot (hk1 ▸ h0)
    have isx := I.sx (hk1 ▸ h0)
    have iv1 := I.v1 (hk1 ▸ h0)
    have iv2 := I.v2 (hk1 ▸ h0)
    have ib' : z'.b = true := by rw [ib]; rw [hk1] at nz; exact nz
    have hnm' : z'.nm = z.nm := hnm
    rw [hnm'] at isx
    unfold Mk.pre Mk.pre'
    simp only [mkV1, mkLi, mkSi, pcV]
    rw [ib', a4, a5, a6, a7, hpep', hps2, iv1, iv2, isx, ion, iot, hk1]
end
end Sol
namespace Sol
open PySem PySem.Spec PySem.Calls PyProof.Rows PySem.W PySem.W.X
noncomputable def marksF (s : Nat) (nm : List Nat) : List Int := match Nat.beq nm.length (s + 1) with
  | false => []
  | true => match (mkF (PT s) nm).any (· == -1) with
    | true => []
    | false => mkF (PT s) nm
noncomputable def marksQ (s tt : Nat) (nm : List Nat) (nt : Nat) : Raw Unit where
  code := marksC (trR (trT s)) tt nm nt
  ads := []
  pre := []
  g := ()
  res := fun y => ok (.ref (y 3 + 209))
  post := fun _ => []
  news := fun y => [(y 3 + 209, lsI (LY (marksF s nm) y 60) (y 4))]
  gpost := fun _ => ()
theorem PT_ok {s : Nat} (hs : 1 ≤ s ∧ s ≤ 4) : (∀ p ∈ PT s, okPc p) ∧ (PT s).length = s + 2 := by
  have : s = 1 ∨ s = 2 ∨ s = 3 ∨ s = 4 := by omega
  rcases this with rfl | rfl | rfl | rfl
  all_goals
    refine ⟨?_, rfl⟩
    intro p hp
    simp only [PT, List.mem_cons, List.not_mem_nil, or_false] at hp
    rcases hp with rfl | rfl | rfl | rfl | rfl | rfl <;> first
      | exact .inl rfl
      | exact .inr ⟨0, by decide, rfl⟩
      | exact .inr ⟨1, by decide, rfl⟩
      | exact .inr ⟨2, by decide, rfl⟩
      | exact .inr ⟨3, by decide, rfl⟩
      | exact .inr ⟨4, by decide, rfl⟩
noncomputable def eqI (a : Int) (v : Value) : Bool := match v with
  | .int b _ => b == a
  | _ => false
theorem LY_any (a : Int) : ∀ (ns : List Int) (y : Nat → Nat) (j : Nat), ((LY ns y j).map iv).any (eqI a) = ns.any (· == a)
  | [], _, _ => rfl
  | n :: ns, y, j => by rw [LY, List.map_cons, List.any_cons, List.any_cons, LY_any a ns]; rfl
theorem LY_gives (a : Int) (u : Nat) {ns : List Int} {y : Nat → Nat} {j : Nat} : ∀ v ∈ (LY ns y j).map iv, PySem.MeetsSeq.EqGives v (.int a u) (eqI a v) := fun v hv => by
  obtain ⟨p, _, rfl⟩ := List.mem_map.mp hv
  exact PySem.MeetsSeq.EqGives.int p.1 a (p.2 + 1) u
structure MarksRuns (E : Sol.Env) : Prop where
  rm : MkRuns E
  r1 : ∀ s, 1 ≤ s ∧ s ≤ 4 → MarksR1 E s
  r2 : ∀ s, 1 ≤ s ∧ s ≤ 4 → MarksR2 E s
  r3 : ∀ s, 1 ≤ s ∧ s ≤ 4 → MarksR3 E s
section
variable {K : Gd Unit} (hE : K.E.Ok) (hF : K.Fine) (hdm : K.up.up.Lim)
include hE hF hdm
theorem marksCon_ok (H : MarksRuns K.E) {s : Nat} (hs : 1 ≤ s ∧ s ≤ 4) {nm : List Nat} {nt : Nat} (hn : ∀ x ∈ nm, okCh x) (hnl : nm.length < 12) {k : Bool} {n : Nat} (h0 : 0 < n)
    (hk : match k with | true => n = nm.length ∧ n < s + 2 | false => n = s + 2 ∧ n ≤ nm.length) {b r : Bool} (hb : (!decide ((nm.length : Int) = ((s + 1 : Nat) : Int))) = b) (hr : (mkF (PT s) nm).any (· == -1) = r) :
    AllCon K.up (marksCon K.E (PT s) nm nt k n (nm.getD (n - 1) 0) (mkF (PT s) nm) (s + 1 : Nat) b r) := by
  have hU := Gd.up_fine hF
  have hd1 := Gd.up_lim hdm
  obtain ⟨hP, hPl⟩ := PT_ok hs
  refine ⟨fun u => (siter_ok (K := K.up) hU fun x hx => by obtain ⟨i, hi, e⟩ := hn x hx; omega).cg [], fun u => ?_, fun u => (slen_ok (K := K.up) hE hU hd1 hnl).cg [], fun u => (ne_ok2 (K := K.up) hE hU hd1 hb).cg [], fun u => ?_, trivial⟩
  · have := mkS_ok (K := K.up) hE hU hdm H.rm (pcs := pcL (PT s) (etO (u.T.get 2)) 0) (z := marksZ (PT s) nm nt u) (pcL_ok hP _ _) hn (by rw [pcL_len, hPl]; omega) hnl rfl (k := k) (n := n) h0 (by
      rw [pcL_len, hPl]
      cases k with
      | true => exact hk
      | false => exact hk)
    rw [pcL_fst] at this
    exact this.cg [9, 8, 7, 5, 6, 3, 4, 2]
  · have := contains_ok (K := K.up) (l := rfA u.c 0) (ep := epO (u.T.get 8)) (vs := (LY (mkF (PT s) nm) (nthU u.l 2) 60).map iv) (x := .int (-1) (tkA u.c 1)) (e := eqI (-1)) (r := r) (LY_gives (-1) _) (by rw [LY_any]; exact hr)
    exact this.cg [8]
theorem marks_ok (H : MarksRuns K.E) {s : Nat} (hs : 1 ≤ s ∧ s ≤ 4) {tt nt : Nat} {nm : List Nat} (hn : ∀ x ∈ nm, okCh x) (hnl : nm.length < 12) (hge : s + 1 ≤ nm.length) : RawOk K (marksQ s tt nm nt) := by
  have hd2 := Gd.up_lim (Gd.up_lim hdm)
  cases hb : Nat.beq nm.length (s + 1) with
  | false =>
    have hne : nm.length ≠ s + 1 := fun e => by rw [e, Nat.beq_refl] at hb; cases hb
    have hm : marksF s nm = [] := by unfold marksF; rw [hb]
    have C := marksCon_ok hE hF hdm H hs (nt := nt) hn hnl (k := false) (n := s + 2) (by omega) ⟨rfl, by omega⟩ (b := true) (r := (mkF (PT s) nm).any (· == -1)) (by simp; omega) rfl
    have T := RunX.toR hE hF hd2 (H.r1 s hs tt nt nm (s + 2) (nm.getD (s + 2 - 1) 0) (mkF (PT s) nm)) ⟨C.1, C.2.1, C.2.2.1, C.2.2.2.1, trivial⟩
    refine RawR.toOk (q := marksQ s tt nm nt) T ?_
    rintro r ps nw g' ⟨o, X, rfl, rfl, rfl, -⟩
    refine ⟨fQ (refR o.r) 0 0 0 0 0 0 (fun _ => 0), fun y hy => ⟨?_, rfl, ?_, rfl⟩⟩
    · show ok (.ref (refR o.r + 209)) = ok (.ref (y 3 + 209)); rw [show y 3 = refR o.r from hy 0]
    · show [(refR o.r + 209, lsO [] 0)] = [(y 3 + 209, lsI (LY (marksF s nm) y 60) (y 4))]
      rw [show y 3 = refR o.r from hy 0, show y 4 = 0 from hy 1, hm]; rfl
  | true =>
    have he : nm.length = s + 1 := Nat.eq_of_beq_eq_true hb
    cases hr : (mkF (PT s) nm).any (· == -1) with
    | true =>
      have hm : marksF s nm = [] := by unfold marksF; rw [hb]; simp only [hr]
      have C := marksCon_ok hE hF hdm H hs (nt := nt) hn hnl (k := true) (n := s + 1) (by omega) ⟨he.symm, by omega⟩ (b := false) (r := true) (by rw [he]; simp) hr
      have T := RunX.toR hE hF hd2 (H.r2 s hs tt nt nm (s + 1) (nm.getD (s + 1 - 1) 0) (mkF (PT s) nm)) C
      refine RawR.toOk (q := marksQ s tt nm nt) T ?_
      rintro r ps nw g' ⟨o, X, rfl, rfl, rfl, -⟩
      refine ⟨fQ (refR o.r) 0 0 0 0 0 0 (fun _ => 0), fun y hy => ⟨?_, rfl, ?_, rfl⟩⟩
      · show ok (.ref (refR o.r + 209)) = ok (.ref (y 3 + 209)); rw [show y 3 = refR o.r from hy 0]
      · show [(refR o.r + 209, lsO [] 0)] = [(y 3 + 209, lsI (LY (marksF s nm) y 60) (y 4))]
        rw [show y 3 = refR o.r from hy 0, show y 4 = 0 from hy 1, hm]; rfl
    | false =>
      have hm : marksF s nm = mkF (PT s) nm := by unfold marksF; rw [hb]; simp only [hr]
      have C := marksCon_ok hE hF hdm H hs (nt := nt) hn hnl (k := true) (n := s + 1) (by omega) ⟨he.symm, by omega⟩ (b := false) (r := false) (by rw [he]; simp) hr
      have T := RunX.toR hE hF hd2 (H.r3 s hs tt nt nm (s + 1) (nm.getD (s + 1 - 1) 0) (mkF (PT s) nm)) C
      refine RawR.toOk (q := marksQ s tt nm nt) T ?_
      rintro r ps nw g' ⟨o, X, rfl, rfl, rfl, -⟩
      refine ⟨fQ (refR o.r) (epO (o.T.get 8)) 0 0 0 0 0 (fun i => X 1 (60 + i)), fun y hy => ⟨?_, rfl, ?_, rfl⟩⟩
      · show ok (.ref (refR o.r + 209)) = ok (.ref (y 3 + 209)); rw [show y 3 = refR o.r from hy 0]
      · show [(refR o.r + 209, lsO ((LY (mkF (PT s) nm) (X 1) 60).map iv) (epO (o.T.get 8)))] = [(y 3 + 209, lsI (LY (marksF s nm) y 60) (y 4))]
        have eL : ∀ (ns : List Int) (j : Nat), LY ns (X 1) (60 + j) = LY ns y (60 + j) := by
          intro ns
          induction ns with
          | nil => intro j; rfl
          | cons n ns ih =>
            intro j
            rw [LY, LY, fQ_hi hy j, show 60 + j + 1 = 60 + (j + 1) by omega, ih (j + 1)]
        rw [show y 3 = refR o.r from hy 0, show y 4 = epO (o.T.get 8) from hy 1, hm]
        have := eL (mkF (PT s) nm) 0
        rw [Nat.add_zero] at this
        rw [this]; rfl
end
end Sol
namespace Sol
open PySem PySem.Spec PySem.Calls PyProof.Rows PySem.W PySem.W.X
noncomputable def RunNX (C : Cfg OL) (n : Nat) (c : Code) (ads : List Nat) (pre : List Obj) (g : OL) (nxt : Code) (sc : List Nat) (Q : Out OL → XS → List Obj × List (Nat × Obj) × OL) (js : List Nat) : Prop :=
  ∀ N t G sk X, pairL (startR C n (rawK c ads pre g (.error .none) [] [] g) N t G sk X sc) ads.length js =
    pairR (startR C n (rawK c ads pre g (.error .none) [] [] g) N t G sk X sc) (fun o => { (rawK c ads pre g agR (Q o X).1 (Q o X).2.1 (Q o X).2.2).exp (xOf o fun _ => 0) with ag := some nxt })
noncomputable def RunNXL (C : Cfg OL) (n : Nat) (c : Code) (ads : List Nat) (pre : List Obj) (g : OL) (nxt : Code) (sc : List Nat) (Q : Out OL → XS → List Obj × List (Nat × Obj) × OL) (js : List Nat) (N t G : Nat) (sk : SkS) (X : XS) := pairL (startR C n (rawK c ads pre g (.error .none) [] [] g) N t G sk X sc) ads.length js
noncomputable def RunNXR (C : Cfg OL) (n : Nat) (c : Code) (ads : List Nat) (pre : List Obj) (g : OL) (nxt : Code) (sc : List Nat) (Q : Out OL → XS → List Obj × List (Nat × Obj) × OL) (js : List Nat) (N t G : Nat) (sk : SkS) (X : XS) := pairR (startR C n (rawK c ads pre g (.error .none) [] [] g) N t G sk X sc) (fun o => { (rawK c ads pre g agR (Q o X).1 (Q o X).2.1 (Q o X).2.2).exp (xOf o fun _ => 0) with ag := some nxt })
theorem RunNX.of {C : Cfg OL} {n : Nat} {c : Code} {ads : List Nat} {pre : List Obj} {g : OL} {nxt : Code} {sc : List Nat} {Q : Out OL → XS → List Obj × List (Nat × Obj) × OL} {js : List Nat} (h : RunNXL C n c ads pre g nxt sc Q js = RunNXR C n c ads pre g nxt sc Q js) : RunNX C n c ads pre g nxt sc Q js := fun N t G sk X => congrFun (congrFun (congrFun (congrFun (congrFun h N) t) G) sk) X
section
variable {E : Sol.Env} {os : OsState} {dm um : Nat}
theorem RawR.drop2 {c : Code} {ads : List Nat} {pre : List Obj} {g : OL} {Ψ Ψ' : Rel OL} (H : RawR (gK E os dm um) c ads pre g Ψ)
    (h : ∀ r ps nw g', Ψ r ps nw g' → ps.length = ads.length ∧ ∃ nw2 g2, nw2.Sublist nw ∧ g2.Sublist g' ∧ Ψ' r ps nw2 g2) : RawR (gK E os dm um) c ads pre g Ψ' := by
  refine ⟨H.1, fun A hh gb d t R => codeAny_mono (H.2 A hh gb d t R) ?_⟩
  rintro r s' ⟨x, h', gb', d', ps, nw, g', e, p, L⟩
  obtain ⟨hl, nw2, g2, s1, s2, p'⟩ := h r ps nw g' p
  have F : Framed (rawK c ads pre g r ps nw g') (rawK c ads pre g r ps nw2 g2) [] [] [] (fun _ => []) :=
    ⟨rfl, (List.append_nil _).symm, (List.append_nil _).symm, H.1, rfl, rfl, by show g.Perm ([] ++ (g ++ [])); rw [List.append_nil]; exact .refl _, fun _ => (List.append_nil _).symm, fun _ => hl,
      fun _ => ⟨g2 ++ nw2, List.perm_append_comm, by show (g2 ++ nw2).Sublist ([] ++ (g' ++ []) ++ nw); rw [List.nil_append, List.append_nil]; exact s2.append s1⟩, fun _ p hp => s1.subset hp⟩
  exact ⟨x, h', gb', d', ps, nw2, g2, e, p', F.left (R.cast rfl rfl rfl) L⟩
theorem turnSwap (hE : E.Ok) (hdm : (gK E os dm um).Lim) {c : Code} {ads : List Nat} {a0 : Nat} {pre : List Obj} {o0 : Obj} {g : OL} {Q : Out OL → XS → List Obj × List (Nat × Obj) × OL}
    {tp : Out OL → XS → List Obj} {an : Out OL → XS → Nat} {on : Out OL → XS → Obj} {G' : Out OL → XS → OL} (hQ : ∀ o X, Q o X = (tp o X ++ [o0], [(an o X, on o X)], G' o X)) (hlt : ads.length = pre.length) (ltp : ∀ o X, (tp o X).length = ads.length)
    {cut} {l : List (Seen OL → Con OL)} {n : Nat} {nxt : Code} {sc : List Nat} {js : List Nat} (run : RunNX (E.cfg (conL l) cut) n c (ads ++ [a0]) (pre ++ [o0]) g nxt sc Q js) (H : AllCon (gK E os dm um).up l)
    {Ψ2 : Out OL → XS → Rel OL} (rest : ∀ o X, RawR (gK E os dm um) nxt (ads ++ [an o X]) (tp o X ++ [on o X]) (G' o X) (Ψ2 o X))
    (hl : (ads ++ [a0]).length = (pre ++ [o0]).length := by rfl) (hb : btOk (pre ++ [o0]) 0 .nil = true := by rfl) (hj : jsOk (ads ++ [a0]).length js = true := by rfl) :
    RawR (gK E os dm um) c (ads ++ [a0]) (pre ++ [o0]) g (fun r ob nw g' => ∃ o X ob1 ol nw2, ob = ob1 ++ [o0] ∧ nw = (an o X, ol) :: nw2 ∧ Ψ2 o X r (ob1 ++ [ol]) nw2 g') := by
  refine ⟨hl, fun A h gb d t R => ?_⟩
  refine (gK E os dm um).codeRun hE (gK_fine ..) R hl hb hdm (cut := cut) (fun ps j c h => H.con ps j c h) (n := n) (sc := sc) fun sk X => ?_
  obtain ⟨o, e, ok, s⟩ := pair_out (run (h.objs.size - 209) t gb.length sk X)
  refine ⟨o, e, ok, fun h1 gb1 d1 D hg hb => ?_⟩
  have s' := s
  unfold Out.sm Raw.exp at s'
  injection s' with s1 s2 s3 s4 s5 s6 s7 s8 s9 s10 s11
  have hs : ({ o with ag := none } : Out OL).sm (ads ++ [a0]).length js = (rawK c (ads ++ [a0]) (pre ++ [o0]) g agR (Q o X).1 (Q o X).2.1 (Q o X).2.2).exp (xOf o fun _ => 0) := by
    unfold Out.sm Raw.exp
    rw [s1, s3, s4, s5, s6, s7, s8, s9, s10, s11]
  have RX : RawIn (gK E os dm um) (rawK c (ads ++ [a0]) (pre ++ [o0]) g agR (Q o X).1 (Q o X).2.1 (Q o X).2.2) A h gb := R.cast rfl rfl rfl
  have L0 : RawLeft (gK E os dm um) (rawK c (ads ++ [a0]) (pre ++ [o0]) g agR (Q o X).1 (Q o X).2.1 (Q o X).2.2) h (xOf o fun _ => 0) h1 (gb1 ++ o.gl) := Rep.left (q := rawK c (ads ++ [a0]) (pre ++ [o0]) g agR (Q o X).1 (Q o X).2.1 (Q o X).2.2) hs hj D hg hb
  rw [hQ] at L0 RX
  generalize xOf o (fun _ => 0) = x1 at L0
  rw [s2]
  show codeAny (model E.prog E.w) A nxt _ _
  have R1 : RawIn (gK E os dm um) (rawK nxt (ads ++ [a0]) (tp o X ++ [o0]) (G' o X) (.error .none) [] [] (G' o X)) A h1 (gb1 ++ o.gl) := L0.next RX rfl rfl rfl hl
  obtain ⟨nwO, nwS, nwF⟩ := L0.news (an o X, on o X) (.head _)
  have old : ∀ a ∈ ads ++ [a0], a < h.objs.size := fun a ha => by
    obtain ⟨i, hi, e⟩ := List.getElem_of_mem ha
    have hi' : i < (pre ++ [o0]).length := by rw [← hl]; exact hi
    exact Heap.lt_size (R.rd i a _ (by show (ads ++ [a0])[i]? = _; rw [List.getElem?_eq_getElem hi, e]) (List.getElem?_eq_getElem hi'))
  have nd := List.nodup_append.mp R1.nodup
  have R2 : RawIn (gK E os dm um) (rawK nxt (ads ++ [an o X]) (tp o X ++ [on o X]) (G' o X) (.error .none) [] [] (G' o X)) A h1 (gb1 ++ o.gl) := by
    refine ⟨R1.big, R1.hd, R1.dep, R1.uni, R1.kt, R1.ktF, fun i a ob h2 h3 => ?_, fun a ha => ?_, ?_, R1.gh, R1.bare⟩
    · by_cases hi : i < ads.length
      · refine R1.rd i a ob ?_ ?_
        · show (ads ++ [a0])[i]? = _
          rw [List.getElem?_append_left hi]
          have h2' : (ads ++ [an o X])[i]? = some a := h2
          rwa [List.getElem?_append_left hi] at h2'
        · show (tp o X ++ [o0])[i]? = _
          rw [List.getElem?_append_left (by rw [ltp]; exact hi)]
          have h3' : (tp o X ++ [on o X])[i]? = some ob := h3
          rwa [List.getElem?_append_left (by rw [ltp]; exact hi)] at h3'
      · have h2' : (ads ++ [an o X])[i]? = some a := h2
        have h3' : (tp o X ++ [on o X])[i]? = some ob := h3
        rw [List.getElem?_append_right (by omega)] at h2'
        rw [List.getElem?_append_right (by rw [ltp]; omega), ltp] at h3'
        cases hk : i - ads.length with
        | zero =>
          rw [hk] at h2' h3'
          simp at h2' h3'
          subst h2' h3'
          exact nwO
        | succ k => rw [hk] at h2'; simp at h2'
    · rcases List.mem_append.mp ha with ha | ha
      · exact R1.rdF a (List.mem_append_left _ ha)
      · rw [List.mem_singleton.mp ha]
        refine ⟨nwF, ?_⟩
        show E.kt.get (an o X) = none
        cases ek : E.kt.get (an o X) with
        | none => rfl
        | some ob => exact absurd (Heap.lt_size (R.kt _ _ ek)) (Nat.not_lt.mpr nwS)
    · refine List.nodup_append.mpr ⟨nd.1, by simp, fun a ha b hb e => ?_⟩
      rw [List.mem_singleton.mp hb] at e
      have := old a (List.mem_append_left _ ha)
      rw [e] at this
      exact absurd this (Nat.not_lt.mpr nwS)
  have w := (rest o X).2 A h1 (gb1 ++ o.gl) d1 (o.B.t + o.i) R2
  rw [show o.B.t + 1 + o.i = o.B.t + o.i + 1 by omega]
  refine codeAny_mono w ?_
  rintro r s' ⟨x2, h2, gb2, d2, ps, nw2, g', e', p, L2⟩
  have hpl : ps.length = ads.length + 1 := by have := L2.len; rw [show (rawK nxt (ads ++ [an o X]) (tp o X ++ [on o X]) (G' o X) r ps nw2 g').ads = ads ++ [an o X] from rfl, List.length_append] at this; exact this
  obtain ⟨ob1, ol, rfl⟩ : ∃ ob1 ol, ps = ob1 ++ [ol] := by
    have : ps ≠ [] := fun e => by rw [e] at hpl; simp at hpl
    exact ⟨ps.dropLast, ps.getLast this, (List.dropLast_concat_getLast this).symm⟩
  have hol : ob1.length = ads.length := by rw [List.length_append, List.length_singleton] at hpl; omega
  have olO : h2.get? (an o X) = some ol := L2.post ads.length _ _ (by show (ads ++ [an o X])[ads.length]? = _; rw [List.getElem?_append_right (Nat.le_refl _), Nat.sub_self]; rfl) (by show (ob1 ++ [ol])[ads.length]? = _; rw [← hol, List.getElem?_append_right (Nat.le_refl _), Nat.sub_self]; rfl)
  have an1 : an o X < h1.objs.size := Heap.lt_size nwO
  refine ⟨x2, h2, gb2, d2, ob1 ++ [o0], (an o X, ol) :: nw2, g', e', ⟨o, X, ob1, ol, nw2, rfl, rfl, p⟩, ⟨L2.size, L2.gens, L2.bare, fun i a ob h3 h4 => ?_, ?_, fun q hq => ?_, ?_, L2.gh, fun b f => ?_, fun b ob hb nf hn => ?_, Nat.le_trans L0.le L2.le⟩⟩
  · have h3' : (ads ++ [a0])[i]? = some a := h3
    have h4' : (ob1 ++ [o0])[i]? = some ob := h4
    by_cases hi : i < ads.length
    · rw [List.getElem?_append_left hi] at h3'
      rw [List.getElem?_append_left (by omega)] at h4'
      exact L2.post i a ob (by show (ads ++ [an o X])[i]? = _; rw [List.getElem?_append_left hi]; exact h3') (by show (ob1 ++ [ol])[i]? = _; rw [List.getElem?_append_left (by omega)]; exact h4')
    · rw [List.getElem?_append_right (by omega)] at h3'
      rw [List.getElem?_append_right (by omega), hol] at h4'
      cases hk : i - ads.length with
      | zero =>
        rw [hk] at h3' h4'
        simp at h3' h4'
        subst h3' h4'
        have mem0 : a0 ∈ ads ++ [a0] := List.mem_append_right _ (.head _)
        refine L2.keep a0 o0 (L0.post ads.length a0 o0 (by show (ads ++ [a0])[ads.length]? = _; rw [List.getElem?_append_right (Nat.le_refl _), Nat.sub_self]; rfl) (by show (tp o X ++ [o0])[ads.length]? = _; rw [← ltp o X, List.getElem?_append_right (Nat.le_refl _), Nat.sub_self]; rfl)) (R1.rdF a0 mem0).1 fun ha => ?_
        rcases List.mem_append.mp ha with ha | ha
        · exact nd.2.2 a0 ha a0 (.head _) rfl
        · have := old a0 mem0
          rw [List.mem_singleton.mp ha] at this
          exact absurd this (Nat.not_lt.mpr nwS)
      | succ k => rw [hk] at h3'; simp at h3'
  · show (ob1 ++ [o0]).length = (ads ++ [a0]).length
    rw [List.length_append, List.length_append, hol]; rfl
  · rcases List.mem_cons.mp hq with rfl | hq
    · refine ⟨olO, nwS, fun f => ?_⟩
      rcases L2.foot _ f with y | y
      · exact nwF y
      · exact absurd an1 (Nat.not_lt.mpr y)
    · obtain ⟨a, b, c⟩ := L2.news q hq
      exact ⟨a, Nat.le_trans L0.le b, c⟩
  · show (List.map (·.1) ((an o X, ol) :: nw2)).Nodup
    rw [List.map_cons, List.nodup_cons]
    refine ⟨fun hm => ?_, L2.newN⟩
    obtain ⟨q, hq, e⟩ := List.mem_map.mp hm
    have := (L2.news q hq).2.1
    rw [e] at this
    exact absurd an1 (Nat.not_lt.mpr this)
  · rcases L2.foot b f with y | y
    · exact L0.foot b y
    · exact .inr (Nat.le_trans L0.le y)
  · have hbl := Heap.lt_size hb
    refine L2.keep b ob (L0.keep b ob hb nf hn) (fun f => ?_) fun ha => ?_
    · rcases L0.foot b f with y | y
      · exact nf y
      · exact absurd hbl (Nat.not_lt.mpr y)
    · rcases List.mem_append.mp ha with ha | ha
      · exact hn (List.mem_append_left _ ha)
      · rw [List.mem_singleton.mp ha] at hbl
        exact absurd hbl (Nat.not_lt.mpr nwS)
end
end Sol
namespace Sol
open PySem PySem.Spec PySem.Calls PyProof.Rows PySem.W PySem.W.X
noncomputable def n_script : List Nat := [115, 99, 114, 105, 112, 116]
noncomputable def n_names : List Nat := [110, 97, 109, 101, 115]
noncomputable def n_x : List Nat := [120]
noncomputable def n_behind : List Nat := [98, 101, 104, 105, 110, 100]
noncomputable def n_step : List Nat := [115, 116, 101, 112]
noncomputable def n_expression : List Nat := [101, 120, 112, 114, 101, 115, 115, 105, 111, 110]
noncomputable def n_rows : List Nat := [114, 111, 119, 115]
noncomputable def n_letters : List Nat := [108, 101, 116, 116, 101, 114, 115]
noncomputable def n_cards : List Nat := [99, 97, 114, 100, 115]
noncomputable def n_first : List Nat := [102, 105, 114, 115, 116]
noncomputable def n_due : List Nat := [100, 117, 101]
noncomputable def n_k : List Nat := [107]
noncomputable def digits : List Nat := [48, 49, 50, 51, 52, 53, 54, 55, 56, 57]
noncomputable def envLw (fd : FuncData) (fr cl cc : Nat) : PySem.Env := { scope := fd.scope, locals := fr, globals := fd.globals, cells := [(⟨n_letters.toArray⟩, cl), (⟨n_cards.toArray⟩, cc)], qual := fd.qualname ++ a_locals, func := some 208, code := fd.code, frame := some fr, builtins := fd.builtins }
structure Lf where
  f : Nat
  cl : Nat
  cc : Nat
  scr : Nat
  ep : Nat
  k : Nat → Nat
  nt : Nat
  x : Int
  xt : Nat
  be : Int
  bt : Nat
  pv : Nat
  cv : Nat
  ct : Nat
noncomputable def Lf.head (W : World) (z : Lf) (l : Nat) : List DictEntry :=
  [ky W n_script (z.k 0) (.ref (z.scr + 209)), ky W n_piles (z.k 1) (.ref (l + 209)), ky W n_names (z.k 2) (stV digits z.nt), ky W n_x (z.k 3) (.int z.x (z.xt + 1)), ky W n_behind (z.k 4) (.int z.be (z.bt + 1)), ky W n_pile (z.k 5) (.ref (z.pv + 209)), ky W n_card (z.k 6) (stV [z.cv] z.ct)]
structure Lt where
  st : Int
  stt : Nat
  ex : List Nat
  ext : Nat
  row : List Nat
  rt : Nat
  rows : Nat
noncomputable def Lt.tail (W : World) (z : Lf) (u : Lt) : List DictEntry :=
  [ky W n_step (z.k 7) (.int u.st (u.stt + 1)), ky W n_expression (z.k 8) (stV u.ex u.ext), ky W n_row (z.k 9) (stV u.row u.rt), ky W n_rows (z.k 10) (.ref (u.rows + 209))]
noncomputable def lwO (W : World) (z : Lf) (u : Lt) (l : Nat) : Obj := frO (z.head W l ++ u.tail W z) z.ep
noncomputable def lwC (E : Sol.Env) (z : Lf) : Code := whileC (nthSt (bodyOf (fdOf E 208)) 6) (envLw (fdOf E 208) (z.f + 209) (z.cl + 209) (z.cc + 209))
noncomputable def lwCon (u : Lt) (l lep : Nat) (vs : List Value) (rep : Nat) (rv : List Value) (g : OL) (gf : (Nat → Nat) → OL) (gf2 : (Nat → Nat) → Nat → OL) (av : (Nat → Nat) → List Value) (S : List Nat) : List (Seen OL → Con OL) := [
  fun s => ((containsQ u.rows rep rv (stV u.row u.rt) false).at s.g).con [1],
  fun s => ((appQ u.rows rep rv (stV u.row u.rt)).at s.g).con [1],
  fun s => (moveQ l lep vs g av gf).con [2],
  fun s => (rowQ (hd1 s.l 3) (hd1 s.l 4) (av (hd1 s.l)) (u.st + 1) (tkA s.c 1 - 1) (gf (hd1 s.l)) S (gf2 (hd1 s.l))).con [3]]
noncomputable def lwT (E : Sol.Env) (z : Lf) (u : Lt) (rep : Nat) (rv : List Value) (S : List Nat) (o : Out OL) (X : XS) : List Obj :=
  [lwO E.w { z with ep := epO (o.T.get 0), k := ktO (o.T.get 0), nt := vtO (o.T.get 0) 2, xt := vtO (o.T.get 0) 3, bt := vtO (o.T.get 0) 4, ct := vtO (o.T.get 0) 6 } { u with stt := vtO (o.T.get 0) 7, ext := vtO (o.T.get 0) 8, row := S, rt := vtO (o.T.get 0) 9 } (X 2 3), lsO (rv ++ [stV u.row u.rt]) (rep + 1)]
noncomputable def LwTurn (E : Sol.Env) : Prop := ∀ (z : Lf) (u : Lt) (l lep : Nat) (vs : List Value) (rep : Nat) (rv : List Value) (g : OL) (gf : (Nat → Nat) → OL) (gf2 : (Nat → Nat) → Nat → OL) (av : (Nat → Nat) → List Value) (S : List Nat),
  RunNX (E.cfg (conL (lwCon u l lep vs rep rv g gf gf2 av S)) cutW) 120 (lwC E z) ([z.f + 209, u.rows + 209] ++ [l + 209]) ([lwO E.w z u l, lsO rv rep] ++ [lsO vs lep]) g (lwC E z)
    [1, 1, 2, 2, 1, 1, 2, 2, 2, 2, 1, 2, 0, 1, 0, 3, 1, 1, 0, 1, 1, 0, 0, 4, 1, 1]
    (fun o X => (lwT E z u rep rv S o X ++ [lsO vs lep], [(X 2 3 + 209, lsO (av (X 2)) (X 2 4))], gf2 (X 2) (X 3 4))) [3]
noncomputable def LwEnd (E : Sol.Env) : Prop := ∀ (z : Lf) (u : Lt) (l lep : Nat) (vs : List Value) (rep : Nat) (rv : List Value) (g : OL), RunQ (E.cfg (conL [fun s => ((containsQ u.rows rep rv (stV u.row u.rt) true).at s.g).con [1]]) cutW) 60
  { code := lwC E z, ads := [z.f + 209, u.rows + 209, l + 209], pre := [lwO E.w z u l, lsO rv rep, lsO vs lep], g := g, res := fun _ => nextR, post := fun _ => [lwO E.w z u l, lsO rv rep, lsO vs lep], news := fun _ => [], gpost := fun _ => g } [1, 1, 2, 2, 1] x0 []
end Sol
namespace Sol
open PySem PySem.Spec PySem.Calls PyProof.Rows PySem.W PySem.W.X
noncomputable def sz (ps : List PileG) : List Nat := ps.map fun q => q.cs.length
noncomputable def mvS (s : List Nat) : List Nat := (s.map (· - 1) ++ [s.length]).filter fun n => Nat.blt 0 n
noncomputable def rowS (st : Nat) (s : List Nat) : List Nat := rowL (s.map fun n : Nat => -(n : Int)) ++ List.replicate (((st : Int) + 1 - s.length).toNat) 97
noncomputable def chP (ps : List PileG) : List Nat := ps.flatMap fun q => txC q.cs
structure OkSz (s : List Nat) : Prop where
  pos : ∀ n ∈ s, 1 ≤ n
  sum : s.sum ≤ 10
  ne : s ≠ []
theorem le_sum : ∀ {s : List Nat} {n : Nat}, n ∈ s → n ≤ s.sum
  | m :: s, n, h => by
    rw [List.sum_cons]
    rcases List.mem_cons.mp h with rfl | h
    · omega
    · have := le_sum h; omega
theorem OkSz.le {s : List Nat} (h : OkSz s) : ∀ n ∈ s, n ≤ 10 := fun n hn => Nat.le_trans (le_sum hn) h.sum
theorem len_le_sum : ∀ {s : List Nat}, (∀ n ∈ s, 1 ≤ n) → s.length ≤ s.sum
  | [], _ => Nat.le_refl _
  | n :: s, h => by
    rw [List.length_cons, List.sum_cons]
    have := len_le_sum (s := s) fun m hm => h m (.tail _ hm)
    have := h n (.head _)
    omega
theorem OkSz.len {s : List Nat} (h : OkSz s) : s.length ≤ 10 := Nat.le_trans (len_le_sum h.pos) h.sum
theorem negL_sz (ps : List PileG) : negL ps = (sz ps).map fun n : Nat => -(n : Int) := by unfold negL sz; rw [List.map_map]; rfl
theorem sz_len (ps : List PileG) : (sz ps).length = ps.length := List.length_map ..
theorem neP_eq (q : PileG) : neP q = Nat.blt 0 q.cs.length := by
  obtain ⟨z, cs⟩ := q
  cases cs <;> rfl
theorem sz_filter : ∀ ps : List PileG, sz (ps.filter neP) = (sz ps).filter fun n => Nat.blt 0 n
  | [] => rfl
  | q :: ps => by
    show _ = List.filter _ (q.cs.length :: sz ps)
    rw [List.filter_cons, List.filter_cons, ← neP_eq]
    split
    · show q.cs.length :: sz (ps.filter neP) = _
      rw [sz_filter ps]
    · exact sz_filter ps
theorem sz_mvPs (hh : Int) (ps : List PileG) (x1 x2 : Nat → Nat) : sz (mvPs hh ps x1 x2) = mvS (sz ps) := by
  unfold mvPs
  rw [sz_filter]
  unfold mvS mvAll
  congr 1
  show (ps.map popP ++ [mvN (freshP hh x1) ps fun i => x2 (60 + i)]).map (fun q : PileG => q.cs.length) = _
  rw [List.map_append, List.map_map, sz_len]
  unfold sz
  rw [List.map_map]
  congr 1
  · refine List.map_congr_left fun q _ => ?_
    show q.cs.dropLast.length = q.cs.length - 1
    rw [List.length_dropLast]
  · show [([] ++ newCs ps _ 0).length] = _
    rw [List.nil_append, newCs_len]
theorem mvS_pos {s : List Nat} : ∀ n ∈ mvS s, 1 ≤ n := fun n hn => Nat.blt_eq.mp (List.mem_filter.mp hn).2
theorem filter_sum : ∀ s : List Nat, (s.filter fun n => Nat.blt 0 n).sum = s.sum
  | [] => rfl
  | 0 :: s => by rw [List.filter_cons, List.sum_cons]; simpa using filter_sum s
  | (n + 1) :: s => by
    rw [List.filter_cons]
    have : Nat.blt 0 (n + 1) = true := rfl
    simp only [this, if_true, List.sum_cons, filter_sum s]
theorem pred_sum : ∀ {s : List Nat}, (∀ n ∈ s, 1 ≤ n) → (s.map (· - 1)).sum + s.length = s.sum
  | [], _ => rfl
  | n :: s, h => by
    rw [List.map_cons, List.sum_cons, List.length_cons, List.sum_cons]
    have := pred_sum (s := s) fun m hm => h m (.tail _ hm)
    have := h n (.head _)
    omega
theorem mvS_sum {s : List Nat} (h : ∀ n ∈ s, 1 ≤ n) : (mvS s).sum = s.sum := by
  unfold mvS
  rw [filter_sum, List.sum_append, List.sum_singleton, pred_sum h]
theorem mvS_ok {s : List Nat} (h : OkSz s) : OkSz (mvS s) := by
  refine ⟨mvS_pos, by rw [mvS_sum h.pos]; exact h.sum, fun e => ?_⟩
  have h1 := mvS_sum h.pos
  rw [e] at h1
  have h2 := len_le_sum h.pos
  have h3 : s.length = 0 := by have : ([] : List Nat).sum = 0 := rfl; omega
  exact h.ne (List.length_eq_zero_iff.mp h3)
theorem OkSz.piles {ps : List PileG} (h : OkSz (sz ps)) : (∀ q ∈ ps, q.cs.length < 11 ∧ q.cs ≠ []) ∧ ps.length < 11 ∧ ps ≠ [] := by
  refine ⟨fun q hq => ?_, ?_, fun e => ?_⟩
  · have hm : q.cs.length ∈ sz ps := List.mem_map_of_mem hq
    have a := h.le _ hm
    have b := h.pos _ hm
    exact ⟨by omega, fun e => by rw [e] at b; simp at b⟩
  · have := h.len; rw [sz_len] at this; omega
  · exact h.ne (by rw [e]; rfl)
theorem txC_app (a b : List Card) : txC (a ++ b) = txC a ++ txC b := List.map_append
theorem newCs_tx : ∀ (ps : List PileG) (y : Nat → Nat) (j : Nat), txC (newCs ps y j) = ps.map fun q => (lastC q).x
  | [], _, _ => rfl
  | q :: ps, y, j => by
    show (lastC q).x :: txC (newCs ps y (j + 1)) = _
    rw [newCs_tx ps]; rfl
noncomputable def chL (ps : List PileG) : List (List Nat) := ps.map fun q => txC q.cs
noncomputable def mvC' (C : List (List Nat)) : List (List Nat) := (C.map List.dropLast ++ [C.map fun l => l.getLastD 0]).filter fun l => Nat.blt 0 l.length
theorem sz_chL (ps : List PileG) : sz ps = (chL ps).map List.length := by
  unfold sz chL
  rw [List.map_map]
  exact List.map_congr_left fun q _ => (List.length_map ..).symm
theorem chL_filter : ∀ ps : List PileG, chL (ps.filter neP) = (chL ps).filter fun l => Nat.blt 0 l.length
  | [] => rfl
  | q :: ps => by
    show _ = List.filter _ (txC q.cs :: chL ps)
    have e : Nat.blt 0 (txC q.cs).length = neP q := by rw [neP_eq]; unfold txC; rw [List.length_map]
    rw [List.filter_cons, List.filter_cons, e]
    split
    · show txC q.cs :: chL (ps.filter neP) = _
      rw [chL_filter ps]
    · exact chL_filter ps
theorem txC_last {cs : List Card} (h : cs ≠ []) : (txC cs).getLastD 0 = (cs.getLastD default).x := by
  obtain ⟨cs, c, rfl⟩ : ∃ cs' c, cs = cs' ++ [c] := ⟨cs.dropLast, cs.getLast h, (List.dropLast_concat_getLast h).symm⟩
  rw [txC_app, List.getLastD_concat]
  show (txC cs ++ [c.x]).getLastD 0 = c.x
  rw [List.getLastD_concat]
theorem chL_mvPs {hh : Int} {ps : List PileG} (h : ∀ q ∈ ps, q.cs ≠ []) (x1 x2 : Nat → Nat) : chL (mvPs hh ps x1 x2) = mvC' (chL ps) := by
  unfold mvPs
  rw [chL_filter]
  unfold mvC' mvAll
  congr 1
  unfold chL
  rw [List.map_append, List.map_map, List.map_map]
  congr 1
  · refine List.map_congr_left fun q _ => ?_
    show txC q.cs.dropLast = (txC q.cs).dropLast
    unfold txC; rw [List.map_dropLast]
  · show [txC ([] ++ newCs ps _ 0)] = _
    rw [List.nil_append, newCs_tx, List.map_map]
    congr 1
    exact List.map_congr_left fun q hq => (txC_last (h q hq)).symm
noncomputable def StrsAre : List Value → List (List Nat) → Prop
  | [], [] => True
  | v :: l, s :: m => (∃ t, v = stV s t) ∧ StrsAre l m
  | [], _ :: _ => False
  | _ :: _, [] => False
theorem StrsAre.snoc : ∀ {l : List Value} {m : List (List Nat)} {s : List Nat} {t : Nat}, StrsAre l m → StrsAre (l ++ [stV s t]) (m ++ [s])
  | [], [], _, t, _ => ⟨⟨t, rfl⟩, trivial⟩
  | v :: l, n :: m, _, _, h => ⟨h.1, StrsAre.snoc (l := l) (m := m) h.2⟩
  | [], _ :: _, _, _, h => h.elim
  | _ :: _, [], _, _, h => h.elim
theorem StrsAre.len : ∀ {l : List Value} {m : List (List Nat)}, StrsAre l m → l.length = m.length
  | [], [], _ => rfl
  | v :: l, n :: m, h => by rw [List.length_cons, List.length_cons, StrsAre.len (l := l) (m := m) h.2]
  | [], _ :: _, h => h.elim
  | _ :: _, [], h => h.elim
noncomputable def eqS (a : List Nat) (v : Value) : Bool := match v with
  | .str b _ => b == (⟨a.toArray⟩ : PySem.Str)
  | _ => false
theorem str_beq (a b : List Nat) : ((⟨a.toArray⟩ : PySem.Str) == ⟨b.toArray⟩) = decide (a = b) := by
  by_cases h : a = b
  · subst h; simp
  · rw [decide_eq_false h, beq_eq_false_iff_ne]
    intro e
    injection e with e
    exact h (by simpa using e)
theorem StrsAre.any : ∀ {l : List Value} {m : List (List Nat)} {a : List Nat}, StrsAre l m → l.any (eqS a) = m.any (fun b => decide (b = a))
  | [], [], _, _ => rfl
  | v :: l, n :: m, a, h => by
    obtain ⟨⟨t, rfl⟩, h2⟩ := h
    rw [List.any_cons, List.any_cons, StrsAre.any (l := l) (m := m) h2]
    congr 1
    exact str_beq n a
  | [], _ :: _, _, h => h.elim
  | _ :: _, [], _, h => h.elim
theorem StrsAre.gives : ∀ {l : List Value} {m : List (List Nat)} (a : List Nat) (t : Nat), StrsAre l m → ∀ v ∈ l, PySem.MeetsSeq.EqGives v (stV a t) (eqS a v)
  | [], _, _, _, _, v, hv => nomatch hv
  | w :: l, n :: m, a, t, h, v, hv => by
    obtain ⟨⟨t', rfl⟩, h2⟩ := h
    rcases List.mem_cons.mp hv with rfl | hv
    · exact EqStr _ _ _ _
    · exact StrsAre.gives (l := l) (m := m) a t h2 v hv
  | _ :: _, [], _, _, h, _, _ => h.elim
noncomputable def loopF (st : Nat) : Nat → List (List Nat) → List (List Nat) → List (List Nat) × List (List Nat)
  | 0, rows, C => (rows, C)
  | f + 1, rows, C => match rows.any (fun b => decide (b = rowS st (C.map List.length))) with
    | true => (rows, C)
    | false => loopF st f (rows ++ [rowS st (C.map List.length)]) (mvC' C)
noncomputable def loopOk (st : Nat) : Nat → List (List Nat) → List Nat → Bool
  | 0, _, _ => false
  | f + 1, rows, s => match rows.any (fun b => decide (b = rowS st s)) with
    | true => true
    | false => Nat.blt rows.length 13 && loopOk st f (rows ++ [rowS st s]) (mvS s)
structure LwRuns (E : Sol.Env) : Prop where
  row : RowRuns E
  move : MoveRuns E
  t : LwTurn E
  e : LwEnd E
end Sol
namespace Sol
open PySem PySem.Spec PySem.Calls PyProof.Rows PySem.W PySem.W.X
structure LfSame (z z' : Lf) (u u' : Lt) : Prop where
  f : z'.f = z.f
  cl : z'.cl = z.cl
  cc : z'.cc = z.cc
  scr : z'.scr = z.scr
  x : z'.x = z.x
  be : z'.be = z.be
  pv : z'.pv = z.pv
  cv : z'.cv = z.cv
  st : u'.st = u.st
  ex : u'.ex = u.ex
  rows : u'.rows = u.rows
theorem LfSame.refl (z : Lf) (u : Lt) : LfSame z z u u := ⟨rfl, rfl, rfl, rfl, rfl, rfl, rfl, rfl, rfl, rfl, rfl⟩
section
variable {E : Sol.Env} {os : OsState} {dm um : Nat} (hE : E.Ok) (hdm : (gK E os dm um).up.up.up.up.up.Lim)
include hE hdm
theorem lw_loop (R : LwRuns E) {st : Nat} (hst : st < 6) {t87 : Option Nat} : ∀ (fuel : Nat) (ps : List PileG) (rows : List (List Nat)) (rv : List Value) (z : Lf) (u : Lt) (l lep rep : Nat) (t80 : Option Nat),
    loopOk st fuel rows (sz ps) = true → StrsAre rv rows → u.row = rowS st (sz ps) → u.st = st → OkSz (sz ps) →
    RawR (gK E os dm um) (lwC E z) [z.f + 209, u.rows + 209, l + 209] [lwO E.w z u l, lsO rv rep, lsO (ps.map refP) lep] (gA ps t80 t87)
      (fun r ob nw g' => r = nextR ∧ ∃ z' u' l' lep' ps' t80' rv' rep', ob = [lwO E.w z' u' l', lsO rv' rep', lsO (ps.map refP) lep] ∧ g' = gA ps' t80' t87 ∧ ((nw = [] ∧ rows ≠ [] ∧ l' = l ∧ lep' = lep ∧ ps'.map refP = ps.map refP) ∨ nw = [(l' + 209, lsO (ps'.map refP) lep')]) ∧ chL ps' = (loopF st fuel rows (chL ps)).2 ∧ StrsAre rv' (loopF st fuel rows (chL ps)).1 ∧ LfSame z z' u u' ∧ u'.row = rowS st (sz ps') ∧ OkSz (sz ps')) := by
  have hF := gK_fine E os dm um
  have hFU := gK_fine E os (dm + 95) (um + 270)
  have hU := Gd.unit_fine (gK E os dm um).up
  have hd4 := Gd.up_lim hdm
  have hd3 := Gd.up_lim hd4
  have hd2 := Gd.up_lim hd3
  have hdA := Gd.up_lim hd2
  have hdU : (gK E os dm um).up.unit.Lim := ⟨hdA.dep, hdA.uni⟩
  intro fuel
  induction fuel with
  | zero => intro ps rows rv z u l lep rep t80 h; cases h
  | succ f ih =>
    intro ps rows rv z u l lep rep t80 hok hrv hrow hust hsz
    unfold loopOk at hok
    unfold loopF
    rw [← sz_chL]
    cases hc : rows.any (fun b => decide (b = rowS st (sz ps))) with
    | true =>
      have ok := RunQ.okC (K := gK E os dm um) hE hF (Gd.up_lim hdA) (R.e z u l lep (ps.map refP) rep rv (gA ps t80 t87)) ⟨fun s => lift_cg hFU (contains_ok (K := (gK E os dm um).up.unit) (e := eqS u.row) (StrsAre.gives u.row u.rt hrv) (by rw [hrv.any, hrow]; exact hc)) s.g [1], trivial⟩
      refine ok.toR.mono ?_
      rintro r ob nw g' ⟨y, rfl, rfl, rfl, rfl⟩
      refine ⟨rfl, z, u, l, lep, ps, t80, rv, rep, rfl, rfl, .inl ⟨rfl, fun e => ?_, rfl, rfl, rfl⟩, rfl, hrv, .refl _ _, hrow, hsz⟩
      rw [e] at hc
      cases hc
    | false =>
      rw [hc] at hok
      simp only [Bool.and_eq_true] at hok
      have hlen : rv.length < 14 := by rw [hrv.len]; have := Nat.blt_eq.mp hok.1; omega
      have hm : ∀ x1 x2, OkSz (sz (mvPs (iniHash E.w) ps x1 x2)) := fun x1 x2 => by rw [sz_mvPs]; exact mvS_ok hsz
      obtain ⟨hp1, hp2, hp3⟩ := hsz.piles
      have T := turnSwap (os := os) (dm := dm) (um := um) hE (Gd.up_lim hdA) (tp := lwT E z u rep rv (rowS st (mvS (sz ps)))) (an := fun o X => X 2 3 + 209) (on := fun o X => lsO ((mvPs (iniHash E.w) ps (fun i => X 2 (i + 2)) (X 2)).map refP) (X 2 4)) (G' := fun o X => gA (mvPs (iniHash E.w) ps (fun i => X 2 (i + 2)) (X 2)) (oN (X 3 4)) t87) (fun _ _ => rfl) rfl (fun _ _ => rfl)
        (R.t z u l lep (ps.map refP) rep rv (gA ps t80 t87) (fun y => gA (mvPs (iniHash E.w) ps (fun i => y (i + 2)) y) t80 t87) (fun y a => gA (mvPs (iniHash E.w) ps (fun i => y (i + 2)) y) (oN a) t87) (fun y => (mvPs (iniHash E.w) ps (fun i => y (i + 2)) y).map refP) (rowS st (mvS (sz ps))))
        ⟨fun s => lift_cg hFU (contains_ok (K := (gK E os dm um).up.unit) (e := eqS u.row) (StrsAre.gives u.row u.rt hrv) (by rw [hrv.any, hrow]; exact hc)) s.g [1], fun s => lift_cg hFU (app_okW hE hU hdU hlen) s.g [1], fun s => (move_ok (os := os) (dm := dm + 95) (um := um + 270) hE hd4 R.move hp1 hp2 hp3).cg [2], fun s => ?_, trivial⟩ (fun o X => ih (mvPs (iniHash E.w) ps (fun i => X 2 (i + 2)) (X 2)) (rows ++ [rowS st (sz ps)]) (rv ++ [stV u.row u.rt]) { z with ep := epO (o.T.get 0), k := ktO (o.T.get 0), nt := vtO (o.T.get 0) 2, xt := vtO (o.T.get 0) 3, bt := vtO (o.T.get 0) 4, ct := vtO (o.T.get 0) 6 }
          { u with stt := vtO (o.T.get 0) 7, ext := vtO (o.T.get 0) 8, row := rowS st (mvS (sz ps)), rt := vtO (o.T.get 0) 9 } (X 2 3) (X 2 4) (rep + 1) (oN (X 3 4)) (by rw [sz_mvPs]; exact hok.2) (by rw [← hrow]; exact hrv.snoc) (by rw [sz_mvPs]) hust (hm _ _))
      · refine RawR.drop2 T ?_
        rintro r ob nw g' ⟨o, X, ob1, ol, nw2, rfl, rfl, h1, z2, u2, l2, lep2, ps2, t2, rv2, rep2, h3, h4, h2, h5, h6, h8, h9, h10⟩
        rw [chL_mvPs (fun q hq => (hp1 q hq).2)] at h5 h6
        have h3' : ob1 ++ [ol] = [lwO E.w z2 u2 l2, lsO rv2 rep2] ++ [lsO ((mvPs (iniHash E.w) ps (fun i => X 2 (i + 2)) (X 2)).map refP) (X 2 4)] := h3
        obtain ⟨e1, e2⟩ := List.append_inj' h3' rfl
        injection e2 with e2
        subst e1 e2
        have same : LfSame z z2 u u2 := ⟨h8.f, h8.cl, h8.cc, h8.scr, h8.x, h8.be, h8.pv, h8.cv, h8.st, h8.ex, h8.rows⟩
        rcases h2 with ⟨n1, -, n2, n3, n4⟩ | n1
        · refine ⟨rfl, _, g', .refl _, .refl _, h1, z2, u2, l2, lep2, ps2, t2, rv2, rep2, rfl, h4, .inr ?_, h5, h6, same, h9, h10⟩
          rw [n1, n2, n3, n4]
        · exact ⟨rfl, nw2, g', List.sublist_cons_self .., .refl _, h1, z2, u2, l2, lep2, ps2, t2, rv2, rep2, rfl, h4, .inr n1, h5, h6, same, h9, h10⟩
      · have hO := hm (fun i => hd1 s.l (i + 2)) (hd1 s.l)
        obtain ⟨k1, k2, k3⟩ := hO.piles
        have := row_ok (os := os) (dm := dm + 95) (um := um + 270) hE hdm R.row (ps := mvPs (iniHash E.w) ps (fun i => hd1 s.l (i + 2)) (hd1 s.l)) (t80 := t80) (t87 := t87) (fun q hq => (k1 q hq).1) k2 k3 (l := hd1 s.l 3) (lep := hd1 s.l 4) (t := tkA s.c 1 - 1) (size := (st : Int) + 1) (by omega) (by omega)
        have e : rowL (negL (mvPs (iniHash E.w) ps (fun i => hd1 s.l (i + 2)) (hd1 s.l))) ++ List.replicate ((st : Int) + 1 - (mvPs (iniHash E.w) ps (fun i => hd1 s.l (i + 2)) (hd1 s.l)).length).toNat 97 = rowS st (mvS (sz ps)) := by
          rw [← sz_mvPs (iniHash E.w) ps (fun i => hd1 s.l (i + 2)) (hd1 s.l)]
          unfold rowS; rw [negL_sz, sz_len]
        rw [e] at this
        rw [hust]
        exact this.cg [3]
end
noncomputable def pre1 (a : Nat) (f : Nat → Nat) (i : Nat) : Nat := match i with
  | 0 => a
  | i + 1 => f i
theorem pre1_next {a : Nat} {f y : Nat → Nat} {j : Nat} (h : ∀ i, y (j + i) = pre1 a f i) : y j = a ∧ ∀ i, y (j + 1 + i) = f i :=
  ⟨h 0, fun i => by have := h (i + 1); rw [← Nat.add_assoc, Nat.add_right_comm] at this; exact this⟩
noncomputable def decC : List Nat → (Nat → Nat) → Nat → List Card
  | [], _, _ => []
  | c :: cs, y, j => ⟨y j, y (j + 1), y (j + 2), c⟩ :: decC cs y (j + 3)
noncomputable def decPs : List (List Nat) → (Nat → Nat) → Nat → List PileG
  | [], _, _ => []
  | l :: C, y, j => ⟨⟨y j, y (j + 1), y (j + 2), y (j + 3), y (j + 4), dI (y (j + 5))⟩, decC l y (j + 6)⟩ :: decPs C y (j + 6 + 3 * l.length)
theorem decC_tx : ∀ (cs : List Nat) (y : Nat → Nat) (j : Nat), txC (decC cs y j) = cs
  | [], _, _ => rfl
  | c :: cs, y, j => by
    show c :: txC (decC cs y (j + 3)) = _
    rw [decC_tx cs]
theorem decPs_ch : ∀ (C : List (List Nat)) (y : Nat → Nat) (j : Nat), chL (decPs C y j) = C
  | [], _, _ => rfl
  | l :: C, y, j => by
    show txC (decC l y (j + 6)) :: chL (decPs C y (j + 6 + 3 * l.length)) = _
    rw [decC_tx, decPs_ch C]
theorem decC_ex : ∀ (cs : List Card) (f0 : Nat → Nat), ∃ f : Nat → Nat, ∀ (y : Nat → Nat) (j : Nat), (∀ i, y (j + i) = f i) → decC (txC cs) y j = cs ∧ ∀ i, y (j + 3 * cs.length + i) = f0 i
  | [], f0 => ⟨f0, fun y j h => ⟨rfl, h⟩⟩
  | c :: cs, f0 => by
    obtain ⟨f, hf⟩ := decC_ex cs f0
    refine ⟨pre1 c.a (pre1 c.u (pre1 c.v f)), fun y j h => ?_⟩
    obtain ⟨e1, h⟩ := pre1_next h
    obtain ⟨e2, h⟩ := pre1_next h
    obtain ⟨e3, h⟩ := pre1_next h
    obtain ⟨e5, e6⟩ := hf y (j + 1 + 1 + 1) h
    refine ⟨?_, fun i => ?_⟩
    · show (⟨y j, y (j + 1), y (j + 2), c.x⟩ : Card) :: decC (txC cs) y (j + 3) = _
      rw [show decC (txC cs) y (j + 3) = cs from e5, e1, show y (j + 2) = c.v from e3, e2]
    · have := e6 i
      rw [show j + 3 * (c :: cs).length + i = j + 1 + 1 + 1 + 3 * cs.length + i by rw [List.length_cons]; omega]
      exact this
theorem decPs_ex : ∀ (ps : List PileG), ∃ f : Nat → Nat, ∀ (y : Nat → Nat) (j : Nat), (∀ i, y (j + i) = f i) → decPs (chL ps) y j = ps
  | [] => ⟨fun _ => 0, fun _ _ _ => rfl⟩
  | q :: ps => by
    obtain ⟨f, hf⟩ := decPs_ex ps
    obtain ⟨f', hf'⟩ := decC_ex q.cs f
    refine ⟨pre1 q.z.p (pre1 q.z.d (pre1 q.z.ep (pre1 q.z.u1 (pre1 q.z.u2 (pre1 (eI q.z.hh) f'))))), fun y j h => ?_⟩
    obtain ⟨e1, h⟩ := pre1_next h
    obtain ⟨e2, h⟩ := pre1_next h
    obtain ⟨e3, h⟩ := pre1_next h
    obtain ⟨e4, h⟩ := pre1_next h
    obtain ⟨e5, h⟩ := pre1_next h
    obtain ⟨e6, h⟩ := pre1_next h
    obtain ⟨e7, h⟩ := hf' y _ h
    have e8 := hf y _ h
    show (⟨⟨y j, y (j + 1), y (j + 2), y (j + 3), y (j + 4), dI (y (j + 5))⟩, decC (txC q.cs) y (j + 6)⟩ : PileG) :: decPs (chL ps) y (j + 6 + 3 * (txC q.cs).length) = _
    have el : (txC q.cs).length = q.cs.length := List.length_map ..
    rw [el, show decPs (chL ps) y (j + 6 + 3 * q.cs.length) = ps from e8, show decC (txC q.cs) y (j + 6) = q.cs from e7, e1, e2, show y (j + 2) = q.z.ep from e3, show y (j + 3) = q.z.u1 from e4, show y (j + 4) = q.z.u2 from e5, show y (j + 5) = eI q.z.hh from e6, dI_eI]
noncomputable def LS : List (List Nat) → (Nat → Nat) → Nat → List Value
  | [], _, _ => []
  | s :: m, y, j => stV s (y j) :: LS m y (j + 1)
theorem StrsAre.ls : ∀ {l : List Value} {m : List (List Nat)}, StrsAre l m → ∃ f : Nat → Nat, ∀ (y : Nat → Nat) (j : Nat), (∀ i, y (j + i) = f i) → l = LS m y j
  | [], [], _ => ⟨fun _ => 0, fun _ _ _ => rfl⟩
  | v :: l, s :: m, h => by
    obtain ⟨⟨t, rfl⟩, h2⟩ := h
    obtain ⟨f, hf⟩ := StrsAre.ls (l := l) (m := m) h2
    refine ⟨pre1 t f, fun y j hy => ?_⟩
    obtain ⟨e1, h⟩ := pre1_next hy
    rw [LS, ← hf y (j + 1) h, e1]
  | [], _ :: _, h => h.elim
  | _ :: _, [], h => h.elim
theorem LS_are : ∀ (m : List (List Nat)) (y : Nat → Nat) (j : Nat), StrsAre (LS m y j) m
  | [], _, _ => trivial
  | s :: m, y, j => ⟨⟨y j, rfl⟩, LS_are m y (j + 1)⟩
end Sol
namespace Sol
open PySem PySem.Spec PySem.Calls PyProof.Rows PySem.W PySem.W.X
noncomputable def evY (y : Nat → Nat) (i : Nat) : Nat := y (60 + 2 * i)
noncomputable def odY (y : Nat → Nat) (i : Nat) : Nat := y (61 + 2 * i)
noncomputable def lwZ (z : Lf) (y : Nat → Nat) : Lf := { z with ep := y 7, k := fun i => y (8 + i), nt := y 19, xt := y 20, bt := y 21, ct := y 22 }
noncomputable def lwU (u : Lt) (y : Nat → Nat) (row : List Nat) : Lt := { u with stt := y 23, ext := y 24, row := row, rt := y 25 }
noncomputable def lwQ (E : Sol.Env) (z : Lf) (u : Lt) (l lep : Nat) (vs : List Value) (rep : Nat) (g : OL) (rows : List (List Nat)) (row : List Nat) (av : (Nat → Nat) → List Value) (gf : (Nat → Nat) → OL) : Raw OL where
  code := lwC E z
  ads := [z.f + 209, u.rows + 209, l + 209]
  pre := [lwO E.w z u l, lsO [] rep, lsO vs lep]
  g := g
  res := fun _ => nextR
  post := fun y => [lwO E.w (lwZ z y) (lwU u y row) (y 4), lsO (LS rows (odY y) 0) (y 26), lsO vs lep]
  news := fun y => [(y 4 + 209, lsO (av y) (y 5))]
  gpost := gf
noncomputable def psW (C : List (List Nat)) (y : Nat → Nat) : List PileG := decPs C (evY y) 0
noncomputable def fW (a b c d : Nat) (k : Nat → Nat) (e f g h i j l m : Nat) (p q : Nat → Nat) (n : Nat) : Nat := if n < 57 then (match n with
    | 1 => a | 2 => b | 3 => c | 4 => d | 5 => k 0 | 6 => k 1 | 7 => k 2 | 8 => k 3 | 9 => k 4 | 10 => k 5 | 11 => k 6 | 12 => k 7 | 13 => k 8 | 14 => k 9 | 15 => k 10 | 16 => e | 17 => f | 18 => g | 19 => h | 20 => i | 21 => j | 22 => l | 23 => m | _ => 0)
  else match (n - 57) % 2 with
    | 0 => p ((n - 57) / 2)
    | _ => q ((n - 57) / 2)
section
variable {E : Sol.Env} {os : OsState} {dm um : Nat} (hE : E.Ok) (hdm : (gK E os dm um).up.up.up.up.up.Lim)
include hE hdm
theorem lwQ_ok (R : LwRuns E) {st : Nat} (hst : st < 6) {t80 t87 : Option Nat} {ps : List PileG} {z : Lf} {u : Lt} {l lep rep fuel : Nat} (hok : loopOk st fuel [] (sz ps) = true) (hrow : u.row = rowS st (sz ps)) (hust : u.st = st) (hsz : OkSz (sz ps)) :
    RawOk (gK E os dm um) (lwQ E z u l lep (ps.map refP) rep (gA ps t80 t87) (loopF st fuel [] (chL ps)).1 (rowS st ((loopF st fuel [] (chL ps)).2.map List.length)) (fun y => (psW (loopF st fuel [] (chL ps)).2 y).map refP) (fun y => gA (psW (loopF st fuel [] (chL ps)).2 y) (oN (y 6)) t87)) := by
  refine RawR.toOk (q := lwQ E z u l lep (ps.map refP) rep (gA ps t80 t87) _ _ _ _) (lw_loop (os := os) (dm := dm) (um := um) hE hdm R hst (t87 := t87) fuel ps [] [] z u l lep rep t80 hok trivial hrow hust hsz) ?_
  rintro r ob nw g' ⟨rfl, z', u', l', lep', ps', t80', rv', rep', rfl, rfl, h0, h1, h2, h3, h4, h5⟩
  have hnw : nw = [(l' + 209, lsO (ps'.map refP) lep')] := by
    rcases h0 with ⟨-, n, -⟩ | h0
    · exact absurd rfl n
    · exact h0
  subst hnw
  obtain ⟨fp, hfp⟩ := decPs_ex ps'
  obtain ⟨fr, hfr⟩ := h2.ls
  refine ⟨fW l' lep' (nO t80') z'.ep z'.k z'.nt z'.xt z'.bt z'.ct u'.stt u'.ext u'.rt rep' fp fr, fun y hy => ?_⟩
  have hev : ∀ i, evY y (0 + i) = fp i := fun i => by
    have := hy (57 + 2 * i)
    rw [show 57 + 2 * i + 3 = 60 + 2 * i by omega] at this
    rw [Nat.zero_add]
    show y (60 + 2 * i) = _
    rw [this]
    unfold fW
    rw [if_neg (by omega), show (57 + 2 * i - 57) % 2 = 0 by omega, show (57 + 2 * i - 57) / 2 = i by omega]
    rfl
  have hod : ∀ i, odY y (0 + i) = fr i := fun i => by
    have := hy (58 + 2 * i)
    rw [show 58 + 2 * i + 3 = 61 + 2 * i by omega] at this
    rw [Nat.zero_add]
    show y (61 + 2 * i) = _
    rw [this]
    unfold fW
    rw [if_neg (by omega), show (58 + 2 * i - 57) % 2 = 1 by omega, show (58 + 2 * i - 57) / 2 = i by omega]
    rfl
  have eP : decPs (loopF st fuel [] (chL ps)).2 (evY y) 0 = ps' := by rw [← h1]; exact hfp _ 0 hev
  have eR : LS (loopF st fuel [] (chL ps)).1 (odY y) 0 = rv' := (hfr _ 0 hod).symm
  have hs : sz ps' = (loopF st fuel [] (chL ps)).2.map List.length := by rw [sz_chL, h1]
  refine ⟨rfl, ?_, ?_, ?_⟩
  · show [lwO E.w z' u' l', lsO rv' rep', _] = [lwO E.w (lwZ z y) (lwU u y _) (y 4), lsO (LS _ (odY y) 0) (y 26), _]
    rw [eR, show y 4 = l' from hy 1, show y 26 = rep' from hy 23, ← hs, ← h4]
    obtain ⟨s1, s2, s3, s4, s5, s6, s7, s8, s9, s10, s11⟩ := h3
    unfold lwO Lf.head Lt.tail lwZ lwU
    simp only [show y 7 = z'.ep from hy 4, show y (8 + 0) = z'.k 0 from hy 5, show y (8 + 1) = z'.k 1 from hy 6, show y (8 + 2) = z'.k 2 from hy 7, show y (8 + 3) = z'.k 3 from hy 8, show y (8 + 4) = z'.k 4 from hy 9, show y (8 + 5) = z'.k 5 from hy 10, show y (8 + 6) = z'.k 6 from hy 11,
      show y (8 + 7) = z'.k 7 from hy 12, show y (8 + 8) = z'.k 8 from hy 13, show y (8 + 9) = z'.k 9 from hy 14, show y (8 + 10) = z'.k 10 from hy 15, show y 19 = z'.nt from hy 16, show y 20 = z'.xt from hy 17, show y 21 = z'.bt from hy 18, show y 22 = z'.ct from hy 19,
      show y 23 = u'.stt from hy 20, show y 24 = u'.ext from hy 21, show y 25 = u'.rt from hy 22, s4, s5, s6, s7, s8, s9, s10, s11]
  · show [(l' + 209, lsO (ps'.map refP) lep')] = [(y 4 + 209, lsO ((decPs _ (evY y) 0).map refP) (y 5))]
    rw [eP, show y 4 = l' from hy 1, show y 5 = lep' from hy 2]
  · show gA ps' t80' t87 = gA (decPs _ (evY y) 0) (oN (y 6)) t87
    rw [eP, show y 6 = nO t80' from hy 3, oN_nO]
end
end Sol
namespace Sol
open PySem PySem.Spec PySem.Calls PyProof.Rows PySem.W PySem.W.X
noncomputable def rgO (cur : Int) (rem : Nat) : Obj := { cls := .type "range_iterator", data := .fields #[.int cur 0, .int rem 0, .int 1 0] }
noncomputable def slO (a b : Value) : Obj := { cls := .type "slice", data := .fields #[a, b, .none] }
noncomputable def rnextQ (it : Nat) (cur : Int) (rem : Nat) : Raw Unit where
  code := .call (.builtin "range_iterator.__next__") ⟨[.ref (it + 209)], []⟩
  ads := [it + 209]
  pre := [rgO cur (rem + 1)]
  g := ()
  res := fun y => ok (.int cur (y 3 + 1))
  post := fun _ => [rgO (cur + 1) rem]
  news := fun _ => []
  gpost := fun _ => ()
noncomputable def rendQ (it : Nat) (cur : Int) : Raw Unit where
  code := .call (.builtin "range_iterator.__next__") ⟨[.ref (it + 209)], []⟩
  ads := [it + 209]
  pre := [rgO cur 0]
  g := ()
  res := fun y => .error (.ref (y 3 + 209))
  post := fun _ => [rgO cur 0]
  news := fun y => [(y 3 + 209, stopO (y 4))]
  gpost := fun _ => ()
noncomputable def getVQ (h ep : Nat) (vs : List Value) (a : Int) (t : Nat) (v : Value) : Raw Unit where
  code := .call (.builtin "list.__getitem__") ⟨[.ref (h + 209), .int a t], []⟩
  ads := [h + 209]
  pre := [lsO vs ep]
  g := ()
  res := fun _ => ok v
  post := fun _ => [lsO vs ep]
  news := fun _ => []
  gpost := fun _ => ()
noncomputable def gslQ (l ep : Nat) (vs : List Value) (sl : Nat) (a b : Value) (us : List Value) : Raw Unit where
  code := .call (.builtin "list.__getitem__") ⟨[.ref (l + 209), .ref (sl + 209)], []⟩
  ads := [l + 209, sl + 209]
  pre := [lsO vs ep, slO a b]
  g := ()
  res := fun y => ok (.ref (y 3 + 209))
  post := fun _ => [lsO vs ep, slO a b]
  news := fun y => [(y 3 + 209, lsO us 0)]
  gpost := fun _ => ()
noncomputable def ladd2Q (l lep : Nat) (vs : List Value) (m mep : Nat) (us : List Value) : Raw Unit where
  code := .call (.builtin "list.__add__") ⟨[.ref (l + 209), .ref (m + 209)], []⟩
  ads := [l + 209, m + 209]
  pre := [lsO vs lep, lsO us mep]
  g := ()
  res := fun y => ok (.ref (y 3 + 209))
  post := fun _ => [lsO vs lep, lsO us mep]
  news := fun y => [(y 3 + 209, lsO (vs ++ us) 0)]
  gpost := fun _ => ()
section
variable {E : Env}
noncomputable def rnext_runP (E : Sol.Env) (n : Nat) : Prop := ∀ it cur, RunQ (E.cfg noCon noCut) 30 (rnextQ it cur n) [1, 1, 1, 1, 1, 1, 1, 1] rX []
theorem rnext_run (n : Nat) (hn : n < 14) : ∀ it cur, RunQ (E.cfg noCon noCut) 30 (rnextQ it cur n) [1, 1, 1, 1, 1, 1, 1, 1] rX [] := by
  refine lts14 (P := rnext_runP E) ?_ ?_ ?_ ?_ ?_ ?_ ?_ ?_ ?_ ?_ ?_ ?_ ?_ ?_ n hn <;> (intro it cur; exact RunQ.of (by kernel_rfl))
theorem rend_run : ∀ it cur, RunQ (E.cfg noCon noCut) 30 (rendQ it cur) [1, 1, 1, 1] seX [2] := by
  intro it cur N t' G sk X; kernel_rfl
noncomputable def getV_runP (E : Sol.Env) (n i : Nat) : Prop := ∀ h ep f t, RunQ (E.cfg noCon noCut) 20 (getVQ h ep ((upto n 0).map f) i t (f i)) [1, 1] x0 []
theorem getV_run (n i : Nat) (hn : n < 14) (hi : i < n) : ∀ h ep f t, RunQ (E.cfg noCon noCut) 20 (getVQ h ep ((upto n 0).map f) i t (f i)) [1, 1] x0 [] := by
  refine lts14 (P := fun n => ∀ i, i < n → getV_runP E n i) lts0 (lts1 ?_) (lts2 ?_ ?_) (lts3 ?_ ?_ ?_) (lts4 ?_ ?_ ?_ ?_) (lts5 ?_ ?_ ?_ ?_ ?_) (lts6 ?_ ?_ ?_ ?_ ?_ ?_) (lts7 ?_ ?_ ?_ ?_ ?_ ?_ ?_) (lts8 ?_ ?_ ?_ ?_ ?_ ?_ ?_ ?_) (lts9 ?_ ?_ ?_ ?_ ?_ ?_ ?_ ?_ ?_) (lts10 ?_ ?_ ?_ ?_ ?_ ?_ ?_ ?_ ?_ ?_) (lts11 ?_ ?_ ?_ ?_ ?_ ?_ ?_ ?_ ?_ ?_ ?_) (lts12 ?_ ?_ ?_ ?_ ?_ ?_ ?_ ?_ ?_ ?_ ?_ ?_) (lts13 ?_ ?_ ?_ ?_ ?_ ?_ ?_ ?_ ?_ ?_ ?_ ?_ ?_) n hn i hi <;> (intro h ep f t; exact RunQ.of (by kernel_rfl))
noncomputable def slast_runP (E : Sol.Env) (n : Nat) : Prop := ∀ l ep f sl t, RunQ (E.cfg noCon noCut) 30 (gslQ l ep ((upto (n + 1) 0).map f) sl (.int (-1) (t + 1)) .none [f n]) [1, 2, 2, 2, 2, 2, 1] nX [2]
theorem slast_run (n : Nat) (hn : n < 6) : ∀ l ep f sl t, RunQ (E.cfg noCon noCut) 30 (gslQ l ep ((upto (n + 1) 0).map f) sl (.int (-1) (t + 1)) .none [f n]) [1, 2, 2, 2, 2, 2, 1] nX [2] := by
  refine lts6 (P := slast_runP E) ?_ ?_ ?_ ?_ ?_ ?_ n hn <;> (intro l ep f sl t; exact RunQ.of (by kernel_rfl))
noncomputable def sinit_runP (E : Sol.Env) (n : Nat) : Prop := ∀ l ep f sl t, RunQ (E.cfg noCon noCut) 30 (gslQ l ep ((upto (n + 1) 0).map f) sl .none (.int (-1) (t + 1)) ((upto n 0).map f)) [1, 2, 2, 2, 2, 2, 1] nX [2]
theorem sinit_run (n : Nat) (hn : n < 6) : ∀ l ep f sl t, RunQ (E.cfg noCon noCut) 30 (gslQ l ep ((upto (n + 1) 0).map f) sl .none (.int (-1) (t + 1)) ((upto n 0).map f)) [1, 2, 2, 2, 2, 2, 1] nX [2] := by
  refine lts6 (P := sinit_runP E) ?_ ?_ ?_ ?_ ?_ ?_ n hn <;> (intro l ep f sl t; exact RunQ.of (by kernel_rfl))
noncomputable def ladd2_runP (E : Sol.Env) (n : Nat) : Prop := ∀ l lep v m mep (f : Nat → Value), RunQ (E.cfg noCon noCut) 30 (ladd2Q l lep [v] m mep ((upto n 0).map f)) [1, 2, 1, 2] nX [2]
theorem ladd2_run (n : Nat) (hn : n < 7) : ∀ l lep v m mep (f : Nat → Value), RunQ (E.cfg noCon noCut) 30 (ladd2Q l lep [v] m mep ((upto n 0).map f)) [1, 2, 1, 2] nX [2] := by
  refine lts7 (P := ladd2_runP E) ?_ ?_ ?_ ?_ ?_ ?_ ?_ n hn <;> (intro l lep v m mep f; exact RunQ.of (by kernel_rfl))
theorem ge_run (a b : Int) (t u : Nat) : RunEq (E.cfg noCon noCut) 30 (cmpQ "int.__ge__" a b t u (@decide (b ≤ a) (PySem.W.Z.leZ b a))) [] idX [] := by
  intro N t G sk X; kernel_rfl
end
section
variable {K : Gd Unit} (hE : K.E.Ok) (hF : K.Fine) (hdm : K.Lim)
include hE hF hdm
theorem rnext_ok {it rem : Nat} {cur : Int} (h : rem < 14) : RawOk K (rnextQ it cur rem) := RunQ.ok0 hE hF hdm (rnext_run rem h it cur)
theorem rend_ok {it : Nat} {cur : Int} : RawOk K (rendQ it cur) := RunQ.ok0 hE hF hdm (rend_run it cur)
theorem getV_ok {h ep : Nat} {vs : List Value} {a : Int} {t i : Nat} {v : Value} (ha : a = i) (hp : vs[i]? = some v) (hL : vs.length < 14) : RawOk K (getVQ h ep vs a t v) := by
  subst ha
  obtain ⟨hi, rfl⟩ := List.getElem?_eq_some_iff.mp hp
  have := RunQ.ok0 hE hF hdm (getV_run vs.length i hL hi h ep (fun j => vs.getD j .none) t)
  rw [list_upto] at this
  have e : vs.getD i .none = vs[i] := by simp [List.getD, List.getElem?_eq_getElem hi]
  rw [e] at this
  exact this
theorem upto_snoc {α : Type} (d : α) (us : List α) (v : α) : (upto (us.length + 1) 0).map (fun j => (us ++ [v]).getD j d) = us ++ [v] := by
  have := list_upto d (us ++ [v])
  rwa [List.length_append, List.length_singleton] at this
theorem upto_pre {α : Type} (d : α) (us : List α) (v : α) : (upto us.length 0).map (fun j => (us ++ [v]).getD j d) = us := by
  rw [← list_upto d us, upto_eq, upto_eq]
  simp only [List.length_map, List.length_range']
  refine List.map_congr_left fun i hi => ?_
  have hi' : i < us.length := by have := List.mem_range'.mp hi; omega
  rw [← upto_eq, list_upto]
  simp [List.getD, List.getElem?_append_left hi']
theorem slast_ok {l ep sl t : Nat} {us : List Value} {v : Value} (h : us.length < 6) : RawOk K (gslQ l ep (us ++ [v]) sl (.int (-1) (t + 1)) .none [v]) := by
  have := RunQ.ok0 hE hF hdm (slast_run us.length h l ep (fun j => (us ++ [v]).getD j .none) sl t)
  rw [upto_snoc hE hF hdm] at this
  have e : (us ++ [v]).getD us.length .none = v := by simp
  rw [e] at this
  exact this
theorem sinit_ok {l ep sl t : Nat} {us : List Value} {v : Value} (h : us.length < 6) : RawOk K (gslQ l ep (us ++ [v]) sl .none (.int (-1) (t + 1)) us) := by
  have := RunQ.ok0 hE hF hdm (sinit_run us.length h l ep (fun j => (us ++ [v]).getD j .none) sl t)
  rw [upto_snoc hE hF hdm, upto_pre hE hF hdm] at this
  exact this
theorem ladd2_ok {l lep m mep : Nat} {v : Value} {us : List Value} (h : us.length < 7) : RawOk K (ladd2Q l lep [v] m mep us) := by
  have := RunQ.ok0 hE hF hdm (ladd2_run us.length h l lep v m mep (fun j => us.getD j .none))
  rw [list_upto] at this
  exact this
theorem ge_ok2 {a b : Int} {t u : Nat} {r : Bool} (h : decide (b ≤ a) = r) : RawOk K (cmpQ "int.__ge__" a b t u r) := by
  have e : @decide (b ≤ a) (PySem.W.Z.leZ b a) = r := by rw [← h]; congr
  subst e
  exact (ge_run a b t u).ok hE hF hdm (con := noCon) (cut := noCut) (fun _ _ _ _ _ _ h => noCon_ok h) rfl rfl rfl
end
theorem unhide {E : Sol.Env} {os : OsState} {dm um : Nat} {q q' : Raw OL} (H : RawOk (gK E os dm um) q') {ga : List Nat} {gp : List Obj} (gq : (Nat → Nat) → List Obj)
    (ec : q.code = q'.code) (ea : q.ads = q'.ads ++ ga) (ep : q.pre = q'.pre ++ gp) (er : q.res = q'.res) (lg : ga.length = gp.length) (lgq : ∀ x, ga.length = (gq x).length)
    (hg : q'.g = zip2 ga gp ++ q.g) (hpost : ∀ x, q.post x = q'.post x ++ gq x) (lp : ∀ x, (q'.post x).length = q'.ads.length) (hn : ∀ x, q.news x = q'.news x)
    (hgp : ∀ x, (q'.gpost x).Perm (zip2 ga (gq x) ++ q.gpost x)) : RawOk (gK E os dm um) q := by
  have hl : q.ads.length = q.pre.length := by rw [ea, ep, List.length_append, List.length_append, H.1, lg]
  refine ⟨hl, fun A h gb d t R => ?_⟩
  have nd := R.nodup
  rw [ea] at nd
  obtain ⟨n1, n2, n3⟩ := List.nodup_append.mp nd
  have inG : ∀ b, b ∈ olA q'.g ↔ b ∈ ga ∨ b ∈ olA q.g := fun b => by rw [hg, olA_app, olA_zip lg, List.mem_append]
  have R' : RawIn (gK E os dm um) q' A h gb := by
    refine ⟨R.big, R.hd, R.dep, R.uni, R.kt, fun a o e f => ?_, fun i a o h1 h2 => R.rd i a o (by rw [ea, List.getElem?_append_left (List.getElem?_eq_some_iff.mp h1).1]; exact h1) (by rw [ep, List.getElem?_append_left (List.getElem?_eq_some_iff.mp h2).1]; exact h2), fun a ha => ⟨fun f => ?_, (R.rdF a (by rw [ea]; exact List.mem_append_left _ ha)).2⟩, n1, ⟨fun p hp => ?_, ?_⟩, R.bare⟩
    · rcases (inG a).mp f with f | f
      · have := (R.rdF a (by rw [ea]; exact List.mem_append_right _ f)).2
        rw [show (gK E os dm um).E.kt.get a = some o from e] at this
        cases this
      · exact R.ktF a o e f
    · rcases (inG a).mp f with f | f
      · exact n3 a ha a f rfl
      · exact (R.rdF a (by rw [ea]; exact List.mem_append_left _ ha)).1 f
    · rw [hg] at hp
      rcases List.mem_append.mp hp with hp | hp
      · obtain ⟨n, h1, h2⟩ := zip2_mem hp
        refine R.rd (q'.ads.length + n) _ _ ?_ ?_
        · rw [ea, List.getElem?_append_right (by omega), Nat.add_sub_cancel_left]; exact h1
        · rw [ep, List.getElem?_append_right (by rw [← H.1]; omega), ← H.1, Nat.add_sub_cancel_left]; exact h2
      · exact R.gh.1 p hp
    · rw [hg, olA_app, olA_zip lg, List.nodup_append]
      exact ⟨n2, R.gh.2, fun a ha b hb e => (R.rdF a (by rw [ea]; exact List.mem_append_right _ ha)).1 (e ▸ hb)⟩
  have W := H.2 A h gb d t R'
  rw [← ec] at W
  refine codeAny_mono W ?_
  rintro r s' ⟨x, h', gb', d', e, hr, L⟩
  have pA : (olA (q'.gpost x)).Perm (ga ++ olA (q.gpost x)) := by
    have := (hgp x).map (·.1)
    rw [List.map_append, zip2_fst (lgq x)] at this
    exact this
  have nd' := pA.nodup_iff.mp L.gh.2
  obtain ⟨m1, m2, m3⟩ := List.nodup_append.mp nd'
  have lt_ : ∀ b ∈ ga, b < h.objs.size := fun b hb => by
    obtain ⟨o, e⟩ := (gK_fine E os dm um).footIn _ _ b R'.gh ((inG b).mpr (.inl hb))
    exact Heap.lt_size e
  refine ⟨x, h', gb', d', e, er ▸ hr, L.size, L.gens, L.bare, fun i a o h1 h2 => ?_, by rw [hpost, ea, List.length_append, List.length_append, lp, lgq x], fun p hp => ?_, by rw [hn]; exact L.newN, ⟨fun p hp => L.gh.1 p ((hgp x).symm.subset (List.mem_append_right _ hp)), m2⟩, fun b f => ?_, fun b o hb nf hn' => ?_, L.le⟩
  · rw [ea] at h1
    rw [hpost] at h2
    by_cases hi : i < q'.ads.length
    · rw [List.getElem?_append_left hi] at h1
      rw [List.getElem?_append_left (by rw [lp]; exact hi)] at h2
      exact L.post i a o h1 h2
    · rw [List.getElem?_append_right (Nat.le_of_not_lt hi)] at h1
      rw [List.getElem?_append_right (by rw [lp]; exact Nat.le_of_not_lt hi), lp] at h2
      exact L.gh.1 (a, o) ((hgp x).symm.subset (List.mem_append_left _ (zip2_get h1 h2)))
  · rw [hn] at hp
    obtain ⟨a, b, c⟩ := L.news p hp
    exact ⟨a, b, fun f => c (pA.symm.subset (List.mem_append_right _ f))⟩
  · have fb : b ∈ olA (q'.gpost x) := pA.symm.subset (List.mem_append_right _ f)
    rcases L.foot b fb with y | y
    · rcases (inG b).mp y with y | y
      · exact absurd rfl (m3 b y b f)
      · exact .inl y
    · exact .inr y
  · refine L.keep b o hb (fun f => ?_) fun ha => hn' (by rw [ea]; exact List.mem_append_left _ ha)
    rcases (inG b).mp f with f | f
    · exact hn' (by rw [ea]; exact List.mem_append_right _ f)
    · exact nf f
end Sol
namespace Sol
open PySem PySem.Spec PySem.Calls PyProof.Rows PySem.W PySem.W.X
section
noncomputable def out0 (g : OL) : Out OL := ⟨.error .none, ⟨fun _ => 0, 0, 0, 0, 0, g, []⟩, .nil, 0, 0, [], [], none⟩
theorem turnFX {E os dm um} {c : Code} {tads ga : List Nat} {tpre gp : List Obj} {g G fr : OL} {Q : Out OL → XS → List Obj × List (Nat × Obj) × OL} {tp gq : Out OL → XS → List Obj} {G' : Out OL → XS → OL}
    (F : ∀ o X, Framed (rawK c (tads ++ ga) (tpre ++ gp) g agR (Q o X).1 (Q o X).2.1 (Q o X).2.2) (rawK c tads tpre G agR (tp o X) [] (G' o X)) ga gp fr (fun _ => gq o X)) (hE : E.Ok) (hdm : (gK E os dm um).Lim)
    {cut} {l : List (Seen OL → Con OL)} {n : Nat} {nxt : Code} {sc : List Nat} {js : List Nat} (run : RunNX (E.cfg (conL l) cut) n c (tads ++ ga) (tpre ++ gp) g nxt sc Q js) (H : AllCon (gK E os dm um).up l)
    {Ψ : Rel OL} (rest : ∀ o X, RawR (gK E os dm um) nxt tads (tp o X) (G' o X) Ψ)
    (hl : (tads ++ ga).length = (tpre ++ gp).length := by rfl) (hb : btOk (tpre ++ gp) 0 .nil = true := by rfl) (hj : jsOk (tads ++ ga).length js = true := by rfl) : RawR (gK E os dm um) c tads tpre G Ψ := by
  have F0 := F (out0 g) X0
  refine ⟨F0.lt, fun A h gb d t R => ?_⟩
  have R0 : RawIn (gK E os dm um) (rawK c tads tpre G agR (tp (out0 g) X0) [] (G' (out0 g) X0)) A h gb := R.cast rfl rfl rfl
  have R1 := F0.in R0
  refine (gK E os dm um).codeRun hE (gK_fine ..) (q := rawK c (tads ++ ga) (tpre ++ gp) g (.error .none) [] [] g) (R1.cast rfl rfl rfl) hl hb hdm (cut := cut) (fun ps j c h => H.con ps j c h) (n := n) (sc := sc) fun sk X => ?_
  obtain ⟨o, e, ok, s⟩ := pair_out (run (h.objs.size - 209) t gb.length sk X)
  refine ⟨o, e, ok, fun h' gb' d' D hg hb => ?_⟩
  have s' := s
  unfold Out.sm Raw.exp at s'
  injection s' with s1 s2 s3 s4 s5 s6 s7 s8 s9 s10 s11
  have hs : ({ o with ag := none } : Out OL).sm (tads ++ ga).length js = (rawK c (tads ++ ga) (tpre ++ gp) g agR (Q o X).1 (Q o X).2.1 (Q o X).2.2).exp (xOf o fun _ => 0) := by
    unfold Out.sm Raw.exp
    rw [s1, s3, s4, s5, s6, s7, s8, s9, s10, s11]
  have RX : RawIn (gK E os dm um) (rawK c tads tpre G agR (tp o X) [] (G' o X)) A h gb := R.cast rfl rfl rfl
  have L : RawLeft (gK E os dm um) (rawK c tads tpre G agR (tp o X) [] (G' o X)) h (xOf o fun _ => 0) h' (gb' ++ o.gl) := (F o X).left RX (Rep.left (q := rawK c (tads ++ ga) (tpre ++ gp) g agR (Q o X).1 (Q o X).2.1 (Q o X).2.2) hs hj D hg hb)
  rw [s2]
  show codeAny (model E.prog E.w) A nxt _ _
  have R2 : RawIn (gK E os dm um) (rawK nxt tads (tp o X) (G' o X) (.error .none) [] [] (G' o X)) A h' (gb' ++ o.gl) := L.next RX rfl rfl rfl F0.lt
  have w := (rest o X).2 A h' (gb' ++ o.gl) d' (o.B.t + o.i) R2
  rw [show o.B.t + 1 + o.i = o.B.t + o.i + 1 by omega]
  refine codeAny_mono w ?_
  rintro r s' ⟨x2, h2, gb2, d2, ps, nw, g', e', p, L2⟩
  exact ⟨x2, h2, gb2, d2, ps, nw, g', e', p, L.trans RX L2 rfl rfl rfl rfl rfl rfl rfl⟩
end
structure Lk where
  fi : Int
  fit : Nat
  b : Bool
  kv : Int
  kt : Nat
noncomputable def fkO (W : World) (z : Lf) (u : Lt) (l : Nat) (v : Lk) (da : Nat) : Obj :=
  frO (z.head W l ++ u.tail W z ++ (ky W n_first (z.k 11) (.int v.fi (v.fit + 1)) :: ky W n_due (z.k 12) (.ref (da + 209)) :: match v.b with | true => [ky W n_k (z.k 13) (.int v.kv (v.kt + 1))] | false => [])) z.ep
noncomputable def fkC (E : Sol.Env) (z : Lf) (it : Nat) : Code := forC (nthSt (bodyOf (fdOf E 208)) 10) it (envLw (fdOf E 208) (z.f + 209) (z.cl + 209) (z.cc + 209))
noncomputable def Lf.get (z : Lf) (o : Option Obj) : Lf := { z with ep := epO o, k := ktO o, nt := vtO o 2, xt := vtO o 3, bt := vtO o 4, ct := vtO o 6 }
noncomputable def Lt.get (u : Lt) (o : Option Obj) : Lt := { u with stt := vtO o 7, ext := vtO o 8, rt := vtO o 9 }
noncomputable def Lk.get (v : Lk) (o : Option Obj) (kv : Int) : Lk := { v with fit := vtO o 11, b := true, kv := kv, kt := vtO o 13 }
noncomputable def fkHd (it rep : Nat) (rows : Nat) (rv : List Value) (n : Nat) (cur : Int) (rem : Nat) (b : Bool) : List (Seen OL → Con OL) := [
  fun s => ((rnextQ it cur rem).at s.g).con [1],
  fun s => ((llenN "len" rows rep rv n).at s.g).con [2],
  fun s => ((cmpQ "int.__lt__" cur n (tkA s.c 0) (tkA s.c 1) b).at s.g).con []]
noncomputable def fkMk (s : Nat) (S : List Nat) (cur fi : Int) (b : Bool) : List (Seen OL → Con OL) := [
  fun c => ((marksQ s (tkA c.c 0 - 1) S (tkA c.c 1 - 1)).at c.g).con [],
  fun c => ((cmpQ "int.__ge__" cur fi (tkA c.c 0) (tkA c.c 1) b).at c.g).con []]
noncomputable def fkRot (da dep : Nat) (us : List Value) (v : Value) (cur fi : Int) : List (Seen OL → Con OL) := [
  fun c => ((cmpQ "int.__ge__" cur fi (tkA c.c 0) (tkA c.c 1) true).at c.g).con [],
  fun c => ((gslQ da dep (us ++ [v]) (rfA c.c 1) (.int (-1) (tokV (nthV (match c.T.get 5 with | some o => (match o.data with | .fields vs => vs.toList | _ => []) | none => []) 0) - 1 + 1)) .none [v]).at c.g).con [3, 5],
  fun c => ((gslQ da dep (us ++ [v]) (rfA c.c 1) .none (.int (-1) (tokV (nthV (match c.T.get 7 with | some o => (match o.data with | .fields vs => vs.toList | _ => []) | none => []) 1) - 1 + 1)) us).at c.g).con [3, 7],
  fun c => ((ladd2Q (rfA c.c 0) 0 [v] (rfA c.c 1) 0 us).at c.g).con [6, 8]]
noncomputable def fkNe (s : Nat) (S : List Nat) (m mep : Nat) (us : List Value) (i : Nat) : Seen OL → Con OL := fun c => ((leqQ "list.__ne__" (rfA c.c 0) (epO (c.T.get 4)) ((LY (marksF s S) (nthU c.l 1) 60).map iv) (rfA c.c 1) (match i with | 3 => mep | _ => epO (c.T.get 5)) us false).at c.g).con [4, i]
noncomputable def fkCon1 (s it rep : Nat) (u : Lt) (rv : List Value) (n : Nat) (cur fi : Int) (rem : Nat) (S : List Nat) (sv : Value) : List (Seen OL → Con OL) :=
  fkHd it rep u.rows rv n cur rem true ++ [fun c => ((getVQ u.rows rep rv cur (tkA c.c 1) sv).at c.g).con [2]] ++ fkMk s S cur fi false ++ [fkNe s S 0 0 [] 5, fun c => ((cmpQ "int.__ge__" cur fi (tkA c.c 0) (tkA c.c 1) false).at c.g).con []]
noncomputable def fkCon2 (s it rep : Nat) (u : Lt) (rv : List Value) (n : Nat) (cur fi : Int) (rem : Nat) (S : List Nat) (sv : Value) (da dep : Nat) (us : List Value) (v : Value) : List (Seen OL → Con OL) :=
  fkHd it rep u.rows rv n cur rem true ++ [fun c => ((getVQ u.rows rep rv cur (tkA c.c 1) sv).at c.g).con [2]] ++ fkMk s S cur fi true ++ [fkNe s S da dep (us ++ [v]) 3] ++ fkRot da dep us v cur fi
noncomputable def fkCon3 (s it rep : Nat) (u : Lt) (rv : List Value) (n : Nat) (cur fi : Int) (rem : Nat) (S : List Nat) (da dep : Nat) (us : List Value) (v : Value) : List (Seen OL → Con OL) :=
  fkHd it rep u.rows rv n cur rem false ++ fkMk s S cur fi true ++ [fkNe s S da dep (us ++ [v]) 3] ++ fkRot da dep us v cur fi
noncomputable def fkPre (E : Sol.Env) (z : Lf) (u : Lt) (l : Nat) (v : Lk) (da rep : Nat) (rv : List Value) (cur : Int) (rem : Nat) : List Obj := [fkO E.w z u l v da, rgO cur rem, lsO rv rep]
noncomputable def fkPost (E : Sol.Env) (z : Lf) (u : Lt) (l : Nat) (v : Lk) (da rep : Nat) (rv : List Value) (cur : Int) (rem : Nat) (o : Out OL) : List Obj := [fkO E.w (z.get (o.T.get 0)) (u.get (o.T.get 0)) l (v.get (o.T.get 0) cur) da, rgO (cur + 1) rem, lsO rv rep]
noncomputable def Fk1 (E : Sol.Env) (s : Nat) : Prop := ∀ (z : Lf) (u : Lt) (l : Nat) (v : Lk) (b : Bool) (it rep da dep n rem t : Nat) (rv us : List Value) (w : Value) (cur : Int) (S : List Nat) (g : OL), n < 14 →
  RunNX (E.cfg (conL (fkCon1 s it rep u rv n cur v.fi rem S (stV S t))) cutF) 300 (fkC E z it) ([z.f + 209, it + 209, u.rows + 209] ++ [da + 209]) (fkPre E z { u with ex := trR (trT s) } l { v with b := b } da rep rv cur (rem + 1) ++ [lsO (us ++ [w]) dep]) g (fkC E z it)
    [2, 1, 1, 1, 0, 1, 1, 0, 0, 1, 2, 3, 1, 1, 3, 3, 3, 4, 0, 5, 1, 1, 6, 5, 6, 5, 7, 1, 1, 8]
    (fun o X => (fkPost E z { u with ex := trR (trT s) } l v da rep rv cur rem o ++ [lsO (us ++ [w]) dep], [], g)) []
noncomputable def Fk2 (E : Sol.Env) (s : Nat) : Prop := ∀ (z : Lf) (u : Lt) (l : Nat) (v : Lk) (b : Bool) (it rep da dep n rem t : Nat) (rv us : List Value) (w : Value) (cur : Int) (S : List Nat) (g : OL), n < 14 →
  RunNX (E.cfg (conL (fkCon2 s it rep u rv n cur v.fi rem S (stV S t) da dep us w)) cutF) 400 (fkC E z it) ([z.f + 209, it + 209, u.rows + 209] ++ [da + 209]) (fkPre E z { u with ex := trR (trT s) } l { v with b := b } da rep rv cur (rem + 1) ++ [lsO (us ++ [w]) dep]) g (fkC E z it)
    [2, 1, 1, 1, 0, 1, 1, 0, 0, 1, 2, 3, 1, 1, 3, 3, 3, 4, 0, 5, 1, 1, 6, 1, 5, 4, 5, 7, 1, 1, 8, 1, 0, 4, 4, 4, 9, 1, 0, 4, 4, 4, 10, 7, 9, 7, 11, 1, 1]
    (fun o X => (fkPost E z { u with ex := trR (trT s) } l v (X 10 3) rep rv cur rem o ++ [lsO (us ++ [w]) dep], [(X 10 3 + 209, lsO ([w] ++ us) 0)], g)) [9]
noncomputable def Fk3 (E : Sol.Env) (s : Nat) : Prop := ∀ (z : Lf) (u : Lt) (l : Nat) (v : Lk) (b : Bool) (it rep da dep n rem : Nat) (rv us : List Value) (w : Value) (cur : Int) (g : OL), n < 14 →
  RunNX (E.cfg (conL (fkCon3 s it rep u rv n cur v.fi rem u.row da dep us w)) cutF) 400 (fkC E z it) ([z.f + 209, it + 209, u.rows + 209] ++ [da + 209]) (fkPre E z { u with ex := trR (trT s) } l { v with b := b } da rep rv cur (rem + 1) ++ [lsO (us ++ [w]) dep]) g (fkC E z it)
    [2, 1, 1, 1, 0, 1, 1, 0, 0, 1, 2, 3, 1, 0, 4, 1, 1, 5, 1, 5, 4, 5, 6, 1, 1, 7, 1, 0, 4, 4, 4, 8, 1, 0, 4, 4, 4, 9, 7, 9, 7, 10, 1, 1]
    (fun o X => (fkPost E z { u with ex := trR (trT s) } l v (X 9 3) rep rv cur rem o ++ [lsO (us ++ [w]) dep], [(X 9 3 + 209, lsO ([w] ++ us) 0)], g)) [9]
noncomputable def FkE (E : Sol.Env) : Prop := ∀ (z : Lf) (u : Lt) (l : Nat) (v : Lk) (b : Bool) (it rep da : Nat) (rv : List Value) (cur : Int) (g : OL),
  RunQ (E.cfg (conL [fun s => ((rendQ it cur).at s.g).con [1]]) cutF) 40
    { code := fkC E z it, ads := [z.f + 209, it + 209, u.rows + 209], pre := fkPre E z u l { v with b := b } da rep rv cur 0, g := g, res := fun _ => nextR, post := fun _ => fkPre E z u l { v with b := b } da rep rv cur 0, news := fun _ => [], gpost := fun _ => g } [2, 1, 4] x0 []
end Sol
namespace Sol
open PySem PySem.Spec PySem.Calls PyProof.Rows PySem.W PySem.W.X
noncomputable def rotD (D : List Int) : List Int := match D.getLast? with
  | some a => a :: D.dropLast
  | none => []
noncomputable def chk (s first : Nat) : Nat → List Int → List (List Nat) → Bool
  | _, _, [] => true
  | k, D, R :: rest => match Nat.ble first k with
    | true => decide (marksF s R = D) && chk s first (k + 1) (rotD D) rest
    | false => decide (marksF s R = []) && chk s first (k + 1) D rest
theorem rotD_snoc (D : List Int) (a : Int) : rotD (D ++ [a]) = a :: D := by
  unfold rotD
  rw [List.getLast?_concat, List.dropLast_concat]
theorem IntsAre.len : ∀ {l : List Value} {m : List Int}, IntsAre l m → l.length = m.length
  | [], [], _ => rfl
  | v :: l, n :: m, h => by rw [List.length_cons, List.length_cons, IntsAre.len (l := l) (m := m) h.2]
  | [], _ :: _, h => h.elim
  | _ :: _, [], h => h.elim
theorem IntsAre.unsnoc : ∀ {l : List Value} {v : Value} {m : List Int} {a : Int}, IntsAre (l ++ [v]) (m ++ [a]) → IntsAre l m ∧ ∃ t, v = .int a (t + 1)
  | [], v, [], a, h => ⟨trivial, h.1⟩
  | w :: l, v, n :: m, a, h => by
    obtain ⟨a1, a2⟩ := IntsAre.unsnoc (l := l) (m := m) h.2
    exact ⟨⟨h.1, a1⟩, a2⟩
  | [], v, n :: m, a, h => by
    have : ([] : List Value).length = (m ++ [a]).length := IntsAre.len h.2
    simp at this
  | w :: l, v, [], a, h => by
    have : (l ++ [v]).length = ([] : List Int).length := IntsAre.len h.2
    simp at this
theorem ints_gives : ∀ {vs us : List Value} {ns : List Int}, IntsAre vs ns → IntsAre us ns → ∀ j (h1 : j < vs.length) (h2 : j < us.length), PySem.MeetsSeq.EqGives vs[j] us[j] true
  | [], _, _, _, _, j, h1, _ => absurd h1 (Nat.not_lt_zero _)
  | v :: vs, u :: us, n :: ns, h, h', 0, _, _ => by
    obtain ⟨⟨t, rfl⟩, _⟩ := h
    obtain ⟨⟨t', rfl⟩, _⟩ := h'
    have := PySem.MeetsSeq.EqGives.int n n (t + 1) (t' + 1)
    rw [beq_self_eq_true] at this
    exact this
  | v :: vs, u :: us, n :: ns, h, h', j + 1, h1, h2 => ints_gives (vs := vs) (us := us) (ns := ns) h.2 h'.2 j (by simpa using h1) (by simpa using h2)
  | _ :: _, [], _, _, _, j, _, h2 => absurd h2 (Nat.not_lt_zero _)
  | _ :: _, _ :: _, [], h, _, _, _, _ => h.elim
theorem all_true (n : Nat) : (List.range n).all (fun _ => true) = true := by simp
theorem lne_same {K : Gd Unit} {l ep m mep : Nat} {vs us : List Value} {ns : List Int} (h : IntsAre vs ns) (h' : IntsAre us ns) : RawOk K (leqQ "list.__ne__" l ep vs m mep us false) :=
  lne_ok (e := fun _ => true) (by rw [h.len, h'.len]) (ints_gives h h') (by rw [all_true]; rfl)
theorem LY_ints : ∀ (ns : List Int) (y : Nat → Nat) (j : Nat), IntsAre ((LY ns y j).map iv) ns
  | [], _, _ => trivial
  | n :: ns, y, j => ⟨⟨y j, rfl⟩, LY_ints ns y (j + 1)⟩
theorem StrsAre.get : ∀ {l : List Value} {m : List (List Nat)} {i : Nat} {s : List Nat}, StrsAre l m → m[i]? = some s → ∃ t, l[i]? = some (stV s t)
  | v :: l, r :: m, 0, s, h, e => by
    obtain ⟨⟨t, rfl⟩, _⟩ := h
    simp at e
    subst e
    exact ⟨t, rfl⟩
  | v :: l, r :: m, i + 1, s, h, e => StrsAre.get (l := l) (m := m) h.2 (by simpa using e)
  | [], [], _, _, _, e => by simp at e
  | [], _ :: _, _, _, h, _ => h.elim
  | _ :: _, [], _, _, h, _ => h.elim
structure FkRuns (E : Sol.Env) : Prop where
  rm : MarksRuns E
  r1 : ∀ s, 1 ≤ s ∧ s ≤ 4 → Fk1 E s
  r2 : ∀ s, 1 ≤ s ∧ s ≤ 4 → Fk2 E s
  r3 : ∀ s, 1 ≤ s ∧ s ≤ 4 → Fk3 E s
  e : FkE E
noncomputable def gD (ph : Bool) (d0 d0e : Nat) (D0 : List Value) (da dep : Nat) (DV : List Value) (g : OL) : OL := match ph with
  | false => (d0 + 209, lsO D0 d0e) :: g
  | true => (d0 + 209, lsO D0 d0e) :: (da + 209, lsO DV dep) :: g
noncomputable def frD (ph : Bool) (d0 d0e : Nat) (D0 : List Value) : OL := match ph with
  | false => []
  | true => [(d0 + 209, lsO D0 d0e)]
noncomputable def okRow (s : Nat) (R : List Nat) : Prop := (∀ x ∈ R, okCh x) ∧ R.length < 12 ∧ s + 1 ≤ R.length
section
variable {E : Sol.Env} {os : OsState} {dm um : Nat} (hE : E.Ok) (hdm : (gK E os dm um).up.up.up.Lim)
include hE hdm
theorem fkMk_ok (H : MarksRuns E) {s : Nat} (hs : 1 ≤ s ∧ s ≤ 4) {S : List Nat} (hS : okRow s S) {cur fi : Int} {b : Bool} (hb : decide (fi ≤ cur) = b) (tl : List (Seen OL → Con OL)) (ht : AllCon (gK E os dm um).up tl) : AllCon (gK E os dm um).up (fkMk s S cur fi b ++ tl) := by
  have hFU := gK_fine E os (dm + 95) (um + 270)
  have hU := Gd.unit_fine (gK E os dm um).up
  have hd2 := Gd.up_lim hdm
  have hdA := Gd.up_lim hd2
  have hdU : (gK E os dm um).up.unit.Lim := ⟨hdA.dep, hdA.uni⟩
  have hdU2 : (gK E os dm um).up.unit.up.up.Lim := ⟨hdm.dep, hdm.uni⟩
  exact ⟨fun c => lift_cg hFU (marks_ok (K := (gK E os dm um).up.unit) hE hU hdU2 H hs hS.1 hS.2.1 hS.2.2) c.g [], fun c => lift_cg hFU (ge_ok2 hE hU hdU hb) c.g [], ht⟩
theorem fkRot_ok {da dep : Nat} {us : List Value} {v : Value} {cur fi : Int} (hb : fi ≤ cur) (hl : us.length < 6) : AllCon (gK E os dm um).up (fkRot da dep us v cur fi) := by
  have hFU := gK_fine E os (dm + 95) (um + 270)
  have hU := Gd.unit_fine (gK E os dm um).up
  have hd2 := Gd.up_lim hdm
  have hdA := Gd.up_lim hd2
  have hdU : (gK E os dm um).up.unit.Lim := ⟨hdA.dep, hdA.uni⟩
  exact ⟨fun c => lift_cg hFU (ge_ok2 hE hU hdU (by simpa using hb)) c.g [], fun c => lift_cg hFU (slast_ok hE hU hdU hl) c.g [3, 5], fun c => lift_cg hFU (sinit_ok hE hU hdU hl) c.g [3, 7], fun c => lift_cg hFU (ladd2_ok hE hU hdU (by omega)) c.g [6, 8], trivial⟩
theorem fkHd_ok {it rep rows n rem : Nat} {rv : List Value} {cur : Int} {b : Bool} (hr : rem < 14) (hn : rv.length = n) (hn' : n < 14) (hb : decide (cur < n) = b) (tl : List (Seen OL → Con OL)) (ht : AllCon (gK E os dm um).up tl) : AllCon (gK E os dm um).up (fkHd it rep rows rv n cur rem b ++ tl) := by
  have hFU := gK_fine E os (dm + 95) (um + 270)
  have hU := Gd.unit_fine (gK E os dm um).up
  have hd2 := Gd.up_lim hdm
  have hdA := Gd.up_lim hd2
  have hdU : (gK E os dm um).up.unit.Lim := ⟨hdA.dep, hdA.uni⟩
  refine ⟨fun c => lift_cg hFU (rnext_ok hE hU hdU hr) c.g [1], fun c => ?_, fun c => lift_cg hFU (lt_ok2 hE hU hdU hb) c.g [], ht⟩
  have := len_okW (K := (gK E os dm um).up.unit) hE hU hdU (h := rows) (ep := rep) (vs := rv) (by omega)
  rw [← llenN_eq (n := n) hn] at this
  exact lift_cg hFU this c.g [2]
theorem fk_loop (H : FkRuns E) {s : Nat} (hs : 1 ≤ s ∧ s ≤ 4) {Rs : List (List Nat)} {row : List Nat} {rv : List Value} {rep it l first d0 d0e : Nat} {D0 : List Value} {g : OL} (hrv : StrsAre rv Rs) (hn : Rs.length < 14) (hR : ∀ R ∈ Rs ++ [row], okRow s R) (hfn : first ≤ Rs.length) :
    ∀ (rest A : List (List Nat)) (z : Lf) (u : Lt) (v : Lk) (ph : Bool) (da dep : Nat) (DV : List Value) (D : List Int), Rs ++ [row] = A ++ rest → u.row = row → u.ex = trR (trT s) → v.fi = first → IntsAre DV D → D.length = s + 1 → (ph = false → da = d0 ∧ dep = d0e ∧ DV = D0) → (A.length < first → ph = false) → chk s first A.length D rest = true →
    RawR (gK E os dm um) (fkC E z it) [z.f + 209, it + 209, u.rows + 209] (fkPre E z u l v da rep rv A.length rest.length) (gD ph d0 d0e D0 da dep DV g)
      (fun r ob nw g' => r = nextR ∧ nw = [] ∧ ∃ z' u' v' da' j, ob = fkPre E z' u' l v' da' rep rv ((Rs.length + 1 : Nat) : Int) 0 ∧ g' = (d0 + 209, lsO D0 d0e) :: (j ++ g) ∧ LfSame z z' u u' ∧ u'.row = u.row ∧ v'.fi = v.fi ∧ v'.b = (v.b || !rest.isEmpty)) := by
  have hF := gK_fine E os dm um
  have hFU := gK_fine E os (dm + 95) (um + 270)
  have hU := Gd.unit_fine (gK E os dm um).up
  have hd2 := Gd.up_lim hdm
  have hdA := Gd.up_lim hd2
  have hdU : (gK E os dm um).up.unit.Lim := ⟨hdA.dep, hdA.uni⟩
  have hall : (Rs ++ [row]).length = Rs.length + 1 := by rw [List.length_append]; rfl
  intro rest
  induction rest with
  | nil =>
    intro A z u v ph da dep DV D hA hrow hex hfi hDV hDl hph hph2 hchk
    have ok := RunQ.okC (K := gK E os dm um) hE hF (Gd.up_lim hdA) (H.e z u l v v.b it rep da rv A.length (gD ph d0 d0e D0 da dep DV g)) ⟨fun c => lift_cg hFU (rend_ok hE hU hdU) c.g [1], trivial⟩
    refine ok.toR.mono ?_
    rintro r ob nw g' ⟨y, rfl, rfl, rfl, rfl⟩
    have e : A.length = Rs.length + 1 := by rw [← hall, hA, List.append_nil]
    refine ⟨rfl, rfl, z, u, v, da, (match ph with | false => [] | true => [(da + 209, lsO DV dep)]), ?_, ?_, .refl _ _, rfl, rfl, by simp⟩
    · show fkPre E z u l v da rep rv ((A.length : Nat) : Int) 0 = _
      rw [e]
    · show gD ph d0 d0e D0 da dep DV g = _
      cases ph <;> rfl
  | cons R rest ih =>
    intro A z u v ph da dep DV D hA hrow hex hfi hDV hDl hph hph2 hchk
    have hRm : R ∈ Rs ++ [row] := by rw [hA]; exact List.mem_append_right _ (.head _)
    have hRok := hR R hRm
    have hD : ∃ D' a, D = D' ++ [a] := by
      have : D ≠ [] := fun e => by rw [e] at hDl; simp at hDl
      exact ⟨D.dropLast, D.getLast this, (List.dropLast_concat_getLast this).symm⟩
    obtain ⟨D', a, rfl⟩ := hD
    have hDVn : DV ≠ [] := fun e => by rw [e] at hDV; have := hDV.len; simp at this
    obtain ⟨us, w, rfl⟩ : ∃ us w, DV = us ++ [w] := ⟨DV.dropLast, DV.getLast hDVn, (List.dropLast_concat_getLast hDVn).symm⟩
    obtain ⟨hus, hw⟩ := hDV.unsnoc
    have husl : us.length < 6 := by rw [hus.len]; simp at hDl; omega
    have hAl : A.length + rest.length + 1 = Rs.length + 1 := by rw [← hall, hA, List.length_append, List.length_cons]; omega
    have hrem : rest.length < 14 := by omega
    have hue : ({ u with ex := trR (trT s) } : Lt) = u := by rw [← hex]
    have rot : IntsAre ([w] ++ us) (rotD (D' ++ [a])) := by rw [rotD_snoc]; exact ⟨hw, hus⟩
    have rotl : (rotD (D' ++ [a])).length = s + 1 := by rw [rotD_snoc]; simp at hDl ⊢; omega
    unfold chk at hchk
    -- the outer state, and the step
    have frm : ∀ (o : Out OL) (da2 : Nat) (new : OL), (∃ l', (gD true d0 d0e D0 da2 0 ([w] ++ us) g).Perm l' ∧ l'.Sublist (zip2 [da + 209] [lsO (us ++ [w]) dep] ++ (g ++ (frD ph d0 d0e D0)) ++ new)) → new = [(da2 + 209, lsO ([w] ++ us) 0)] →
        Framed (rawK (fkC E z it) ([z.f + 209, it + 209, u.rows + 209] ++ [da + 209]) (fkPre E z u l v da rep rv A.length (rest.length + 1) ++ [lsO (us ++ [w]) dep]) g agR (fkPost E z u l v da2 rep rv A.length rest.length o ++ [lsO (us ++ [w]) dep]) new g)
          (rawK (fkC E z it) [z.f + 209, it + 209, u.rows + 209] (fkPre E z u l v da rep rv A.length (rest.length + 1)) (gD ph d0 d0e D0 da dep (us ++ [w]) g) agR (fkPost E z u l v da2 rep rv A.length rest.length o) [] (gD true d0 d0e D0 da2 0 ([w] ++ us) g))
          [da + 209] [lsO (us ++ [w]) dep] (frD ph d0 d0e D0) (fun _ => [lsO (us ++ [w]) dep]) := fun o da2 new hper hnew => by
      refine ⟨rfl, rfl, rfl, rfl, rfl, rfl, ?_, fun _ => rfl, fun _ => rfl, fun _ => hper, fun _ p hp => nomatch hp⟩
      cases ph with
      | false =>
        obtain ⟨e1, e2, e3⟩ := hph rfl
        exact .of_eq (by show (d0 + 209, lsO D0 d0e) :: g = zip2 _ _ ++ (g ++ []); rw [List.append_nil, e1, e2, e3]; rfl)
      | true =>
        show ((d0 + 209, lsO D0 d0e) :: (da + 209, lsO (us ++ [w]) dep) :: g).Perm (zip2 [da + 209] [lsO (us ++ [w]) dep] ++ (g ++ [(d0 + 209, lsO D0 d0e)]))
        refine perm_sum fun f => ?_
        simp only [zip2, List.map_cons, List.map_append, List.sum_cons, List.sum_append, List.cons_append, List.nil_append, List.map_nil, List.sum_nil]
        omega
    have per : ∀ da2 : Nat, ∃ l', (gD true d0 d0e D0 da2 0 ([w] ++ us) g).Perm l' ∧ l'.Sublist (zip2 [da + 209] [lsO (us ++ [w]) dep] ++ (g ++ (frD ph d0 d0e D0)) ++ [(da2 + 209, lsO ([w] ++ us) 0)]) := fun da2 => by
      cases ph with
      | false =>
        obtain ⟨e1, e2, e3⟩ := hph rfl
        refine ⟨_, ?_, .refl _⟩
        rw [e1, e2, e3]
        refine perm_sum fun f => ?_
        simp only [gD, frD, zip2, List.map_cons, List.map_append, List.sum_cons, List.sum_append, List.cons_append, List.nil_append, List.append_nil, List.map_nil, List.sum_nil]
        omega
      | true =>
        refine ⟨g ++ [(d0 + 209, lsO D0 d0e)] ++ [(da2 + 209, lsO ([w] ++ us) 0)], ?_, ?_⟩
        · refine perm_sum fun f => ?_
          simp only [gD, frD, List.map_cons, List.map_append, List.sum_cons, List.sum_append, List.cons_append, List.nil_append, List.append_nil, List.map_nil, List.sum_nil]
          omega
        · refine List.Sublist.append_right ?_ _
          exact List.sublist_append_right ..
    have go : ∀ (o : Out OL) (da2 : Nat), chk s first (A.length + 1) (rotD (D' ++ [a])) rest = true → ¬ A.length + 1 < first →
        RawR (gK E os dm um) (fkC E z it) [z.f + 209, it + 209, u.rows + 209] (fkPost E z u l v da2 rep rv A.length rest.length o) (gD true d0 d0e D0 da2 0 ([w] ++ us) g)
          (fun r ob nw g' => r = nextR ∧ nw = [] ∧ ∃ z' u' v' da' j, ob = fkPre E z' u' l v' da' rep rv ((Rs.length + 1 : Nat) : Int) 0 ∧ g' = (d0 + 209, lsO D0 d0e) :: (j ++ g) ∧ LfSame z z' u u' ∧ u'.row = u.row ∧ v'.fi = v.fi ∧ v'.b = (v.b || !(R :: rest).isEmpty)) := fun o da2 hck hge => by
      have z' := ih (A ++ [R]) (z.get (o.T.get 0)) (u.get (o.T.get 0)) (v.get (o.T.get 0) A.length) true da2 0 ([w] ++ us) (rotD (D' ++ [a])) (by rw [hA, List.append_assoc]; rfl) hrow hex hfi rot rotl (fun h => nomatch h) (fun h => by rw [List.length_append] at h; exact absurd h hge) (by rw [List.length_append]; exact hck)
      have ec : (((A ++ [R]).length : Nat) : Int) = (A.length : Int) + 1 := by rw [List.length_append]; rfl
      rw [ec] at z'
      refine z'.mono ?_
      rintro r ob nw g' ⟨h1, h2, z2, u2, v2, da', j, h3, h4, h5, h6, h7, h8⟩
      refine ⟨h1, h2, z2, u2, v2, da', j, h3, h4, ⟨h5.f, h5.cl, h5.cc, h5.scr, h5.x, h5.be, h5.pv, h5.cv, h5.st, h5.ex, h5.rows⟩, h6, h7, ?_⟩
      rw [h8]
      show (true || _) = _
      simp
    have ne2 : marksF s R = D' ++ [a] → ∀ c : Seen OL, CG (gK E os dm um).up (fkNe s R da dep (us ++ [w]) 3 c) := fun hm c => by
      have := lne_same (K := (gK E os dm um).up.unit) (l := rfA c.c 0) (ep := epO (c.T.get 4)) (m := rfA c.c 1) (mep := dep) (LY_ints (marksF s R) (nthU c.l 1) 60) (by rw [hm]; exact hDV)
      exact lift_cg hFU this c.g [4, 3]
    cases rest with
    | nil =>
      have hk : A.length = Rs.length := by simp at hAl; omega
      obtain ⟨e1, e2⟩ := List.append_inj hA hk.symm
      have eR : R = row := by simpa using e2.symm
      have hble : Nat.ble first A.length = true := Nat.ble_eq_true_of_le (by omega)
      rw [hble] at hchk
      simp only [Bool.and_eq_true, decide_eq_true_eq] at hchk
      have r := H.r3 s hs z u l v v.b it rep da dep Rs.length 0 rv us w A.length (g := g) hn
      rw [hue] at r
      have eS : u.row = R := by rw [hrow, eR]
      rw [eS] at r
      refine turnFX (tp := fun o X => fkPost E z u l v (X 9 3) rep rv A.length 0 o) (gq := fun _ _ => [lsO (us ++ [w]) dep]) (G' := fun o X => gD true d0 d0e D0 (X 9 3) 0 ([w] ++ us) g) (fun o X => frm o (X 9 3) _ (per _) rfl) hE (Gd.up_lim hdA) r
        (fkHd_ok hE hdm hrem hrv.len hn (by simp; omega) _ (fkMk_ok hE hdm H.rm hs hRok (by rw [hfi]; simp; omega) _ ⟨ne2 hchk.1, fkRot_ok hE hdm (by rw [hfi]; omega) husl⟩)) (fun o X => go o (X 9 3) hchk.2 (by omega))
    | cons R2 rest =>
      have hk : A.length < Rs.length := by simp at hAl; omega
      have hget : Rs[A.length]? = some R := by
        have := congrArg (fun x : List (List Nat) => x[A.length]?) hA
        rw [List.getElem?_append_left hk, List.getElem?_append_right (Nat.le_refl _), Nat.sub_self] at this
        exact this
      obtain ⟨t, hgv⟩ := hrv.get hget
      have gv : ∀ c : Seen OL, CG (gK E os dm um).up (((getVQ u.rows rep rv A.length (tkA c.c 1) (stV R t)).at c.g).con [2]) := fun c => lift_cg hFU (getV_ok hE hU hdU rfl hgv (by rw [hrv.len]; omega)) c.g [2]
      cases hble : Nat.ble first A.length with
      | true =>
        have hfk : first ≤ A.length := Nat.le_of_ble_eq_true hble
        rw [hble] at hchk
        simp only [Bool.and_eq_true, decide_eq_true_eq] at hchk
        have r := H.r2 s hs z u l v v.b it rep da dep Rs.length (R2 :: rest).length t rv us w A.length R (g := g) hn
        rw [hue] at r
        refine turnFX (tp := fun o X => fkPost E z u l v (X 10 3) rep rv A.length (R2 :: rest).length o) (gq := fun _ _ => [lsO (us ++ [w]) dep]) (G' := fun o X => gD true d0 d0e D0 (X 10 3) 0 ([w] ++ us) g) (fun o X => frm o (X 10 3) _ (per _) rfl) hE (Gd.up_lim hdA) r
          (fkHd_ok hE hdm hrem hrv.len hn (by simp; omega) _ ⟨gv, fkMk_ok hE hdm H.rm hs hRok (by rw [hfi]; simp; omega) _ ⟨ne2 hchk.1, fkRot_ok hE hdm (by rw [hfi]; omega) husl⟩⟩) (fun o X => go o (X 10 3) hchk.2 (by omega))
      | false =>
        have hfk : A.length < first := Nat.lt_of_not_le fun h => by rw [Nat.ble_eq_true_of_le h] at hble; cases hble
        have hphf := hph2 hfk
        subst hphf
        obtain ⟨e1, e2, e3⟩ := hph rfl
        rw [hble] at hchk
        simp only [Bool.and_eq_true, decide_eq_true_eq] at hchk
        have r := H.r1 s hs z u l v v.b it rep da dep Rs.length (R2 :: rest).length t rv us w A.length R (g := g) hn
        rw [hue] at r
        have ne1 : ∀ c : Seen OL, CG (gK E os dm um).up (fkNe s R 0 0 [] 5 c) := fun c => by
          have := lne_same (K := (gK E os dm um).up.unit) (l := rfA c.c 0) (ep := epO (c.T.get 4)) (m := rfA c.c 1) (mep := epO (c.T.get 5)) (us := []) (LY_ints (marksF s R) (nthU c.l 1) 60) (by rw [hchk.1]; trivial)
          exact lift_cg hFU this c.g [4, 5]
        have F : ∀ (o : Out OL) (X : XS), Framed (rawK (fkC E z it) ([z.f + 209, it + 209, u.rows + 209] ++ [da + 209]) (fkPre E z u l v da rep rv A.length ((R2 :: rest).length + 1) ++ [lsO (us ++ [w]) dep]) g agR (fkPost E z u l v da rep rv A.length (R2 :: rest).length o ++ [lsO (us ++ [w]) dep]) [] g)
            (rawK (fkC E z it) [z.f + 209, it + 209, u.rows + 209] (fkPre E z u l v da rep rv A.length ((R2 :: rest).length + 1)) (gD false d0 d0e D0 da dep (us ++ [w]) g) agR (fkPost E z u l v da rep rv A.length (R2 :: rest).length o) [] (gD false d0 d0e D0 da dep (us ++ [w]) g))
            [da + 209] [lsO (us ++ [w]) dep] [] (fun _ => [lsO (us ++ [w]) dep]) := fun o X => by
          have hp : (gD false d0 d0e D0 da dep (us ++ [w]) g).Perm (zip2 [da + 209] [lsO (us ++ [w]) dep] ++ (g ++ [])) := .of_eq (by show (d0 + 209, lsO D0 d0e) :: g = zip2 _ _ ++ (g ++ []); rw [List.append_nil, e1, e2, e3]; rfl)
          exact ⟨rfl, rfl, rfl, rfl, rfl, rfl, hp, fun _ => rfl, fun _ => rfl, fun _ => ⟨_, by show ([] ++ gD false d0 d0e D0 da dep (us ++ [w]) g).Perm _; exact hp, List.sublist_append_left ..⟩, fun _ p hp => nomatch hp⟩
        refine turnFX (tp := fun o X => fkPost E z u l v da rep rv A.length (R2 :: rest).length o) (gq := fun _ _ => [lsO (us ++ [w]) dep]) (G' := fun o X => gD false d0 d0e D0 da dep (us ++ [w]) g) F hE (Gd.up_lim hdA) r
          (fkHd_ok hE hdm hrem hrv.len hn (by simp; omega) _ ⟨gv, fkMk_ok hE hdm H.rm hs hRok (by rw [hfi]; simp; omega) _ ⟨ne1, fun c => lift_cg hFU (ge_ok2 hE hU hdU (by rw [hfi]; simp; omega)) c.g [], trivial⟩⟩) (fun o X => ?_)
        have z' := ih (A ++ [R]) (z.get (o.T.get 0)) (u.get (o.T.get 0)) (v.get (o.T.get 0) A.length) false da dep (us ++ [w]) (D' ++ [a]) (by rw [hA, List.append_assoc]; rfl) hrow hex hfi hDV hDl hph (fun _ => rfl) (by rw [List.length_append]; exact hchk.2)
        have ec : (((A ++ [R]).length : Nat) : Int) = (A.length : Int) + 1 := by rw [List.length_append]; rfl
        rw [ec] at z'
        refine z'.mono ?_
        rintro r ob nw g' ⟨h1, h2, z2, u2, v2, da', j, h3, h4, h5, h6, h7, h8⟩
        refine ⟨h1, h2, z2, u2, v2, da', j, h3, h4, ⟨h5.f, h5.cl, h5.cc, h5.scr, h5.x, h5.be, h5.pv, h5.cv, h5.st, h5.ex, h5.rows⟩, h6, h7, ?_⟩
        rw [h8]
        show (true || _) = _
        simp
end
end Sol
namespace Sol
open PySem PySem.Spec PySem.Calls PyProof.Rows PySem.W PySem.W.X
noncomputable def fkZ (z : Lf) (y : Nat → Nat) : Lf := { z with ep := y 4, k := fun i => y (5 + i), nt := y 19, xt := y 20, bt := y 21, ct := y 22 }
noncomputable def fkU (u : Lt) (y : Nat → Nat) : Lt := { u with stt := y 23, ext := y 24, rt := y 25 }
noncomputable def fkV (v : Lk) (y : Nat → Nat) : Lk := { v with fit := y 26, b := true, kv := dI (y 27), kt := y 28 }
noncomputable def fkQ0 (E : Sol.Env) (z : Lf) (it : Nat) (u : Lt) (l : Nat) (v : Lk) (d0 d0e : Nat) (D0 : List Value) (rep : Nat) (rv : List Value) (n : Nat) (g : OL) (gf : (Nat → Nat) → OL) : Raw OL where
  code := fkC E z it
  ads := [z.f + 209, it + 209, u.rows + 209]
  pre := fkPre E z u l { v with b := false } d0 rep rv 0 (n + 1)
  g := (d0 + 209, lsO D0 d0e) :: g
  res := fun _ => nextR
  post := fun y => fkPre E (fkZ z y) (fkU u y) l (fkV v y) (y 3) rep rv ((n + 1 : Nat) : Int) 0
  news := fun _ => []
  gpost := gf
noncomputable def fkQ (E : Sol.Env) (z : Lf) (it : Nat) (u : Lt) (l : Nat) (v : Lk) (d0 d0e : Nat) (D0 : List Value) (rep : Nat) (rv : List Value) (n : Nat) (g : OL) : Raw OL where
  code := fkC E z it
  ads := [z.f + 209, it + 209, u.rows + 209, d0 + 209]
  pre := [fkO E.w z u l { v with b := false } d0, rgO 0 (n + 1), lsO rv rep, lsO D0 d0e]
  g := g
  res := fun _ => nextR
  post := fun y => [fkO E.w (fkZ z y) (fkU u y) l (fkV v y) (y 3), rgO ((n + 1 : Nat) : Int) 0, lsO rv rep, lsO D0 d0e]
  news := fun _ => []
  gpost := fun _ => g
noncomputable def fKL (a b : Nat) (k : Nat → Nat) (e f g h i j l m kv kt : Nat) (n : Nat) : Nat := match n with
  | 0 => a | 1 => b | 2 => k 0 | 3 => k 1 | 4 => k 2 | 5 => k 3 | 6 => k 4 | 7 => k 5 | 8 => k 6 | 9 => k 7 | 10 => k 8 | 11 => k 9 | 12 => k 10 | 13 => k 11 | 14 => k 12 | 15 => k 13
  | 16 => e | 17 => f | 18 => g | 19 => h | 20 => i | 21 => j | 22 => l | 23 => m | 24 => kv | 25 => kt | _ => 0
section
variable {E : Sol.Env} {os : OsState} {dm um : Nat} (hE : E.Ok) (hdm : (gK E os dm um).up.up.up.Lim)
include hE hdm
theorem RawR.drop {c : Code} {ads : List Nat} {pre : List Obj} {g : OL} {Ψ Ψ' : Rel OL} (H : RawR (gK E os dm um) c ads pre g Ψ)
    (h : ∀ r ps nw g', Ψ r ps nw g' → ps.length = ads.length ∧ ∃ g2, g2.Sublist g' ∧ Ψ' r ps nw g2) : RawR (gK E os dm um) c ads pre g Ψ' := by
  refine ⟨H.1, fun A hh gb d t R => codeAny_mono (H.2 A hh gb d t R) ?_⟩
  rintro r s' ⟨x, h', gb', d', ps, nw, g', e, p, L⟩
  obtain ⟨hl, g2, s, p'⟩ := h r ps nw g' p
  have F : Framed (rawK c ads pre g r ps nw g') (rawK c ads pre g r ps nw g2) [] [] [] (fun _ => []) :=
    ⟨rfl, (List.append_nil _).symm, (List.append_nil _).symm, H.1, rfl, rfl, by show g.Perm ([] ++ (g ++ [])); rw [List.append_nil]; exact .refl _, fun _ => (List.append_nil _).symm, fun _ => hl,
      fun _ => ⟨g2 ++ nw, List.perm_append_comm, by show (g2 ++ nw).Sublist ([] ++ (g' ++ []) ++ nw); rw [List.nil_append, List.append_nil]; exact List.Sublist.append_right s _⟩, fun _ p hp => hp⟩
  exact ⟨x, h', gb', d', ps, nw, g2, e, p', F.left (R.cast rfl rfl rfl) L⟩
theorem fkQ_ok (H : FkRuns E) {s : Nat} (hs : 1 ≤ s ∧ s ≤ 4) {Rs : List (List Nat)} {row : List Nat} {rv : List Value} {rep it l first d0 d0e : Nat} {D0 : List Value} {D : List Int} {g : OL} {z : Lf} {u : Lt} {v : Lk} (hrv : StrsAre rv Rs) (hn : Rs.length < 14) (hR : ∀ R ∈ Rs ++ [row], okRow s R) (hfn : first ≤ Rs.length)
    (hrow : u.row = row) (hex : u.ex = trR (trT s)) (hfi : v.fi = first) (hD : IntsAre D0 D) (hDl : D.length = s + 1) (hchk : chk s first 0 D (Rs ++ [row]) = true) : RawOk (gK E os dm um) (fkQ E z it u l v d0 d0e D0 rep rv Rs.length g) := by
  have hlen : (Rs ++ [row]).length = Rs.length + 1 := by rw [List.length_append]; rfl
  have L := fk_loop (os := os) (dm := dm) (um := um) hE hdm H hs (rep := rep) (it := it) (l := l) (first := first) (d0 := d0) (d0e := d0e) (D0 := D0) (g := g) hrv hn hR hfn (Rs ++ [row]) [] z u { v with b := false } false d0 d0e D0 D rfl hrow hex hfi hD hDl (fun _ => ⟨rfl, rfl, rfl⟩) (fun _ => rfl) hchk
  rw [hlen] at L
  have L2 := RawR.drop hE hdm L (Ψ' := fun r ob nw g' => r = nextR ∧ nw = [] ∧ g' = (d0 + 209, lsO D0 d0e) :: g ∧ ∃ z' u' v' da', ob = fkPre E z' u' l v' da' rep rv ((Rs.length + 1 : Nat) : Int) 0 ∧ LfSame z z' u u' ∧ u'.row = u.row ∧ v'.fi = v.fi ∧ v'.b = true) (by
    rintro r ob nw g' ⟨h1, h2, z', u', v', da', j, h3, h4, h5, h6, h7, h8⟩
    refine ⟨by rw [h3]; rfl, (d0 + 209, lsO D0 d0e) :: g, by rw [h4]; exact .cons_cons _ (List.sublist_append_right ..), h1, h2, rfl, z', u', v', da', h3, h5, h6, h7, ?_⟩
    rw [h8]
    cases Rs <;> rfl)
  have H0 : RawOk (gK E os dm um) (fkQ0 E z it u l v d0 d0e D0 rep rv Rs.length g fun _ => (d0 + 209, lsO D0 d0e) :: g) := by
    refine RawR.toOk (q := fkQ0 E z it u l v d0 d0e D0 rep rv Rs.length g fun _ => (d0 + 209, lsO D0 d0e) :: g) L2 ?_
    rintro r ob nw g' ⟨rfl, rfl, rfl, z', u', v', da', rfl, h5, h6, h7, h8⟩
    refine ⟨fKL da' z'.ep z'.k z'.nt z'.xt z'.bt z'.ct u'.stt u'.ext u'.rt v'.fit (eI v'.kv) v'.kt, fun y hy => ⟨rfl, ?_, rfl, rfl⟩⟩
    obtain ⟨s1, s2, s3, s4, s5, s6, s7, s8, s9, s10, s11⟩ := h5
    have eO : fkO E.w z' u' l v' da' = fkO E.w (fkZ z y) (fkU u y) l (fkV v y) (y 3) := by
      unfold fkO Lf.head Lt.tail fkZ fkU fkV
      simp only [show y 3 = da' from hy 0, show y 4 = z'.ep from hy 1, show y (5 + 0) = z'.k 0 from hy 2, show y (5 + 1) = z'.k 1 from hy 3, show y (5 + 2) = z'.k 2 from hy 4, show y (5 + 3) = z'.k 3 from hy 5, show y (5 + 4) = z'.k 4 from hy 6, show y (5 + 5) = z'.k 5 from hy 7, show y (5 + 6) = z'.k 6 from hy 8,
        show y (5 + 7) = z'.k 7 from hy 9, show y (5 + 8) = z'.k 8 from hy 10, show y (5 + 9) = z'.k 9 from hy 11, show y (5 + 10) = z'.k 10 from hy 12, show y (5 + 11) = z'.k 11 from hy 13, show y (5 + 12) = z'.k 12 from hy 14, show y (5 + 13) = z'.k 13 from hy 15,
        show y 19 = z'.nt from hy 16, show y 20 = z'.xt from hy 17, show y 21 = z'.bt from hy 18, show y 22 = z'.ct from hy 19, show y 23 = u'.stt from hy 20, show y 24 = u'.ext from hy 21, show y 25 = u'.rt from hy 22, show y 26 = v'.fit from hy 23, show y 27 = eI v'.kv from hy 24, show y 28 = v'.kt from hy 25, dI_eI, s4, s5, s6, s7, s8, s9, s10, s11, h6, h7, h8]
    show [fkO E.w z' u' l v' da', _, _] = [fkO E.w (fkZ z y) (fkU u y) l (fkV v y) (y 3), _, _]
    rw [eO]
  exact unhide H0 (ga := [d0 + 209]) (gp := [lsO D0 d0e]) (fun _ => [lsO D0 d0e]) rfl rfl rfl rfl rfl (fun _ => rfl) rfl (fun _ => rfl) (fun _ => rfl) (fun _ => rfl) (fun _ => .refl _)
end
end Sol
namespace Sol
open PySem PySem.Spec PySem.Calls PyProof.Rows PySem.W PySem.W.X
noncomputable def modQ (a : Int) (t u : Nat) (m : Int) : Raw Unit where
  code := .call (.builtin "int.__mod__") ⟨[.int a t, .int 10 u], []⟩
  ads := []
  pre := []
  g := ()
  res := fun y => ok (.int m (y 3 + 1))
  post := fun _ => []
  news := fun _ => []
  gpost := fun _ => ()
noncomputable def gssQ (S : List Nat) (nt sl : Nat) (a b : Value) (R : List Nat) : Raw Unit where
  code := .call (.builtin "str.__getitem__") ⟨[stV S nt, .ref (sl + 209)], []⟩
  ads := [sl + 209]
  pre := [slO a b]
  g := ()
  res := fun y => ok (stV R (y 3))
  post := fun _ => [slO a b]
  news := fun _ => []
  gpost := fun _ => ()
noncomputable def clO (v : Value) : Obj := { cls := .type "cell", data := .cell (some v) }
section
variable {E : Env}
theorem mod_run : ∀ a t u, RunQ (E.cfg noCon noCut) 30 (modQ a t u (Int.fmod a 10)) [] rX [] := by
  intro a t u N t' G sk X; kernel_rfl
noncomputable def gss_runP (E : Sol.Env) (b a : Nat) : Prop := ∀ nt sl t u, RunQ (E.cfg noCon noCut) 60 (gssQ digits nt sl (.int a (t + 1)) (.int b (u + 1)) ((upto (b - a) 0).map fun i => 48 + a + i)) [1, 1, 1, 1, 1, 1] rX []
theorem gss_run (a b : Nat) (ha : a < b) (hb : b < 11) : ∀ nt sl t u, RunQ (E.cfg noCon noCut) 60 (gssQ digits nt sl (.int a (t + 1)) (.int b (u + 1)) ((upto (b - a) 0).map fun i => 48 + a + i)) [1, 1, 1, 1, 1, 1] rX [] := by
  refine lts11 (P := fun b => ∀ a, a < b → gss_runP E b a) lts0 (lts1 ?_) (lts2 ?_ ?_) (lts3 ?_ ?_ ?_) (lts4 ?_ ?_ ?_ ?_) (lts5 ?_ ?_ ?_ ?_ ?_) (lts6 ?_ ?_ ?_ ?_ ?_ ?_) (lts7 ?_ ?_ ?_ ?_ ?_ ?_ ?_) (lts8 ?_ ?_ ?_ ?_ ?_ ?_ ?_ ?_) (lts9 ?_ ?_ ?_ ?_ ?_ ?_ ?_ ?_ ?_) (lts10 ?_ ?_ ?_ ?_ ?_ ?_ ?_ ?_ ?_ ?_) b hb a ha <;> (intro nt sl t u; exact RunQ.of (by kernel_rfl))
end
section
variable {K : Gd Unit} (hE : K.E.Ok) (hF : K.Fine) (hdm : K.Lim)
include hE hF hdm
theorem mod_ok {a m : Int} {t u : Nat} (h : a % 10 = m) : RawOk K (modQ a t u m) := by
  have := RunQ.ok0 hE hF hdm (mod_run a t u)
  rwa [Int.fmod_eq_emod_of_nonneg a (by decide : (0:Int) ≤ 10), h] at this
theorem gss_ok {a b : Nat} {c d : Int} {nt sl t u : Nat} (ha : a < b) (hb : b < 11) (hc : c = a) (hd : d = b) : RawOk K (gssQ digits nt sl (.int c (t + 1)) (.int d (u + 1)) ((upto (b - a) 0).map fun i => 48 + a + i)) := by
  subst hc hd
  exact RunQ.ok0 hE hF hdm (gss_run a b ha hb nt sl t u)
end
noncomputable def forBd : Stmt → List Stmt
  | .For _ _ b _ _ => b
  | .If _ b _ _ => b
  | _ => []
noncomputable def fiSt (E : Sol.Env) : Stmt := nthSt (forBd (nthSt (forBd (nthSt (bodyOf (fdOf E 208)) 1)) 1)) 1
noncomputable def fiC (E : Sol.Env) (z : Lf) (si : Nat) : Code := forC (fiSt E) si (envLw (fdOf E 208) (z.f + 209) (z.cl + 209) (z.cc + 209))
noncomputable def fhO (W : World) (z : Lf) (l n : Nat) : Obj := frO ((z.head W l).take n) z.ep
noncomputable def fiCon (zp : Pl) (ts : List Nat) (si : Nat) (nm : List Nat) (nt i x : Nat) : List (Seen OL → Con OL) := [
  fun s => ((snextQ si nm nt i x).at s.g).con [1],
  fun s => ((pushL zp ts (tkA s.c 1 - 1) (tkA s.c 2 - 1) x).at s.g).con [2, 3]]
noncomputable def fiZ (z : Lf) (o : Option Obj) (x : Nat) : Lf := { z with ep := epO o, k := ktO o, nt := vtO o 2, xt := vtO o 3, bt := vtO o 4, cv := x, ct := vtO o 6 }
noncomputable def FiTurn (E : Sol.Env) (n : Nat) : Prop := ∀ (z : Lf) (l : Nat) (zp : Pl) (ts : List Nat) (si : Nat) (nm : List Nat) (nt i x : Nat) (g : OL),
  RunNX (E.cfg (conL (fiCon zp ts si nm nt i x)) cutF) 120 (fiC E z si) ([z.f + 209, si + 209] ++ [zp.p + 209, zp.d + 209]) ([fhO E.w { z with pv := zp.p } l n, siO nm nt i] ++ zp.pre (ts.map (· + 209))) g (fiC E z si)
    [2, 1, 1, 1, 1, 3, 0, 0, 0, 3, 0, 0, 0, 3, 0, 0, 0, 0, 3, 4, 1, 0, 2]
    (fun o X => ([fhO E.w (fiZ { z with pv := zp.p } (o.T.get 0) x) l 7, siO nm nt (i + 1)] ++ { zp with ep := zp.ep + 1 }.pre (ts.map (· + 209) ++ [X 1 3 + 209]), [(X 1 3 + 209, cardO (etO (o.T.get 4) 0 + 1) (etO (o.T.get 4) 1 + 1) x)], g)) [4]
noncomputable def FiEnd (E : Sol.Env) : Prop := ∀ (z : Lf) (l si : Nat) (nm : List Nat) (nt i : Nat) (g : OL),
  RunQ (E.cfg (conL [fun s => ((snextE si nm nt i).at s.g).con [1]]) cutF) 40
    { code := fiC E z si, ads := [z.f + 209, si + 209], pre := [fhO E.w z l 7, siO nm nt i], g := g, res := fun _ => nextR, post := fun _ => [fhO E.w z l 7, siE i], news := fun _ => [], gpost := fun _ => g } [2, 1, 3] x0 []
structure LdSame (z z' : Lf) : Prop where
  f : z'.f = z.f
  cl : z'.cl = z.cl
  cc : z'.cc = z.cc
  scr : z'.scr = z.scr
  x : z'.x = z.x
  be : z'.be = z.be
  pv : z'.pv = z.pv
structure FiRuns (E : Sol.Env) : Prop where
  cls : ClsRuns E
  t6 : FiTurn E 6
  t7 : FiTurn E 7
  e : FiEnd E
section
variable {E : Sol.Env} {os : OsState} {dm um : Nat} (hE : E.Ok) (hdm : (gK E os dm um).up.Lim)
include hE hdm
theorem fi_loop (R : FiRuns E) {ps : List PileG} {t80 t87 : Option Nat} {si l nt : Nat} {nm : List Nat} (hnl : nm.length < 11) :
    ∀ (rest A : List Nat) (z : Lf) (n : Nat) (zp : Pl) (cs : List Card), nm = A ++ rest → z.pv = zp.p → cs.length + rest.length < 11 → (n = 6 ∨ n = 7) → (rest = [] → n = 7) →
    RawR (gK E os dm um) (fiC E z si) [z.f + 209, si + 209] [fhO E.w z l n, siO nm nt A.length] (gA (ps ++ [⟨zp, cs⟩]) t80 t87)
      (fun r ob nw g' => r = nextR ∧ nw = [] ∧ ∃ z' ep' cs', ob = [fhO E.w z' l 7, siE nm.length] ∧ g' = gA (ps ++ [⟨{ zp with ep := ep' }, cs ++ cs'⟩]) t80 t87 ∧ txC cs' = rest ∧ LdSame z z') := by
  have hF := gK_fine E os dm um
  have hFU := gK_fine E os (dm + 95) (um + 270)
  have hU := Gd.unit_fine (gK E os dm um).up
  have hdU : (gK E os dm um).up.unit.Lim := ⟨hdm.dep, hdm.uni⟩
  intro rest
  induction rest with
  | nil =>
    intro A z n zp cs hA hpv hlen hn hn7
    rw [hn7 rfl]
    have e : A.length = nm.length := by rw [hA, List.append_nil]
    have ok := RunQ.okC (K := gK E os dm um) hE hF (Gd.up_lim hdm) (R.e z l si nm nt A.length (gA (ps ++ [⟨zp, cs⟩]) t80 t87)) ⟨fun s => lift_cg hFU (snextE_ok hE hU hdU e (by omega)) s.g [1], trivial⟩
    refine ok.toR.mono ?_
    rintro r ob nw g' ⟨y, rfl, rfl, rfl, rfl⟩
    refine ⟨rfl, rfl, z, zp.ep, [], ?_, ?_, rfl, ⟨rfl, rfl, rfl, rfl, rfl, rfl, rfl⟩⟩
    · show [_, siE A.length] = _
      rw [e]
    · rw [List.append_nil]
  | cons x rest ih =>
    intro A z n zp cs hA hpv hlen hn hn7
    have hget : nm[A.length]? = some x := by rw [hA, List.getElem?_append_right (Nat.le_refl _), Nat.sub_self]; rfl
    have hz : ({ z with pv := zp.p } : Lf) = z := by rw [← hpv]
    have hcl : (aC cs).length < 11 := by rw [aC_len]; omega
    have r : RunNX (E.cfg (conL (fiCon zp (aC cs) si nm nt A.length x)) cutF) 120 (fiC E z si) ([z.f + 209, si + 209] ++ [zp.p + 209, zp.d + 209]) ([fhO E.w z l n, siO nm nt A.length] ++ zp.pre ((aC cs).map (· + 209))) ((80, tab80 t80) :: (87, tab87 t87) :: (ps.flatMap obP ++ cards cs)) (fiC E z si)
        [2, 1, 1, 1, 1, 3, 0, 0, 0, 3, 0, 0, 0, 3, 0, 0, 0, 0, 3, 4, 1, 0, 2]
        (fun o X => ([fhO E.w (fiZ z (o.T.get 0) x) l 7, siO nm nt (A.length + 1)] ++ { zp with ep := zp.ep + 1 }.pre ((aC cs).map (· + 209) ++ [X 1 3 + 209]), [(X 1 3 + 209, cardO (etO (o.T.get 4) 0 + 1) (etO (o.T.get 4) 1 + 1) x)], (80, tab80 t80) :: (87, tab87 t87) :: (ps.flatMap obP ++ cards cs))) [4] := by
      rcases hn with rfl | rfl
      · have := R.t6 z l zp (aC cs) si nm nt A.length x ((80, tab80 t80) :: (87, tab87 t87) :: (ps.flatMap obP ++ cards cs))
        rw [hz] at this
        exact this
      · have := R.t7 z l zp (aC cs) si nm nt A.length x ((80, tab80 t80) :: (87, tab87 t87) :: (ps.flatMap obP ++ cards cs))
        rw [hz] at this
        exact this
    refine turnFX (tads := [z.f + 209, si + 209]) (ga := [zp.p + 209, zp.d + 209]) (tpre := [fhO E.w z l n, siO nm nt A.length]) (gp := zp.pre ((aC cs).map (· + 209))) (G := gA (ps ++ [⟨zp, cs⟩]) t80 t87) (fr := [])
      (tp := fun o X => [fhO E.w (fiZ z (o.T.get 0) x) l 7, siO nm nt (A.length + 1)]) (gq := fun o X => { zp with ep := zp.ep + 1 }.pre ((aC cs).map (· + 209) ++ [X 1 3 + 209]))
      (G' := fun o X => gA (ps ++ [⟨{ zp with ep := zp.ep + 1 }, cs ++ [⟨X 1 3, etO (o.T.get 4) 0, etO (o.T.get 4) 1, x⟩]⟩]) t80 t87) (fun o X => ?_) hE (Gd.up_lim hdm) r
      ⟨fun s => lift_cg hFU (snext_ok hE hU hdU hget (by omega)) s.g [1], fun s => lift_cg hFU (pushL_ok hE hU hdU R.cls hcl) s.g [2, 3], trivial⟩ (fun o X => ?_)
    · refine ⟨rfl, rfl, rfl, rfl, rfl, rfl, ?_, fun _ => rfl, fun _ => rfl, fun _ => ?_, fun _ p hp => nomatch hp⟩
      · refine perm_sum fun f => ?_
        show ((gA _ _ _).map f).sum = _
        simp only [rawK, gA, obP, Pl.pre, zip2, ← adC_eq, List.map_cons, List.map_append, List.sum_cons, List.sum_append, List.flatMap_append, List.flatMap_cons, List.flatMap_nil, List.cons_append, List.nil_append, List.append_nil, List.map_nil, List.sum_nil]
        omega
      · refine ⟨_, ?_, .refl _⟩
        refine perm_sum fun f => ?_
        show (([] ++ gA _ _ _).map f).sum = _
        simp only [rawK, gA, obP, Pl.pre, zip2, adC_snoc, cards_snoc, List.map_cons, List.map_append, List.sum_cons, List.sum_append, List.flatMap_append, List.flatMap_cons, List.flatMap_nil, List.cons_append, List.nil_append, List.append_nil, List.map_nil, List.sum_nil]
        omega
    · have z' := ih (A ++ [x]) (fiZ z (o.T.get 0) x) 7 { zp with ep := zp.ep + 1 } (cs ++ [⟨X 1 3, etO (o.T.get 4) 0, etO (o.T.get 4) 1, x⟩]) (by rw [hA, List.append_assoc]; rfl) hpv (by rw [List.length_append]; simp at hlen ⊢; omega) (.inr rfl) (fun _ => rfl)
      rw [show (A ++ [x]).length = A.length + 1 by rw [List.length_append]; rfl] at z'
      refine z'.mono ?_
      rintro r ob nw g' ⟨h1, h2, z2, ep2, cs2, h3, h4, h5, h6⟩
      refine ⟨h1, h2, z2, ep2, ⟨X 1 3, etO (o.T.get 4) 0, etO (o.T.get 4) 1, x⟩ :: cs2, h3, ?_, ?_, ⟨h6.f, h6.cl, h6.cc, h6.scr, h6.x, h6.be, h6.pv⟩⟩
      · rw [h4, List.append_assoc]; rfl
      · show x :: txC cs2 = _
        rw [h5]
end
end Sol
namespace Sol
open PySem PySem.Spec PySem.Calls PyProof.Rows PySem.W PySem.W.X
noncomputable def ftO (o : Option Obj) (i : Nat) : Nat := match o with
  | none => 0
  | some o => match o.data with
    | .fields vs => tokV (nthV vs.toList i) - 1
    | _ => 0
noncomputable def clT (o : Option Obj) : Nat := match o with
  | none => 0
  | some o => match o.data with
    | .cell (some v) => tokV v - 1
    | _ => 0
noncomputable def fiY (z : Lf) (y : Nat → Nat) : Lf := { z with ep := y 3, k := fun i => y (4 + i), nt := y 11, xt := y 12, bt := y 13, cv := y 14, ct := y 15 }
noncomputable def fiQ (E : Sol.Env) (z : Lf) (si : Nat) (nm : List Nat) (nt l n : Nat) (g : OL) (gf : (Nat → Nat) → OL) : Raw OL where
  code := fiC E z si
  ads := [z.f + 209, si + 209]
  pre := [fhO E.w z l n, siO nm nt 0]
  g := g
  res := fun _ => nextR
  post := fun y => [fhO E.w (fiY z y) l 7, siE nm.length]
  news := fun _ => []
  gpost := gf
noncomputable def fI (a : Nat) (k : Nat → Nat) (b c d e f g : Nat) (h : Nat → Nat) (j : Nat) : Nat := if j < 57 then (match j with | 0 => a | 1 => k 0 | 2 => k 1 | 3 => k 2 | 4 => k 3 | 5 => k 4 | 6 => k 5 | 7 => k 6 | 8 => b | 9 => c | 10 => d | 11 => e | 12 => f | 13 => g | _ => 0) else h (j - 57)
section
variable {E : Sol.Env} {os : OsState} {dm um : Nat} (hE : E.Ok) (hdm : (gK E os dm um).up.Lim)
include hE hdm
theorem fiQ_ok (R : FiRuns E) {ps : List PileG} {t80 t87 : Option Nat} {si l nt n : Nat} {nm : List Nat} {z : Lf} {zp : Pl} (hnl : nm.length < 11) (hpv : z.pv = zp.p) (hn : n = 6 ∨ n = 7) (hne : nm ≠ []) :
    RawOk (gK E os dm um) (fiQ E z si nm nt l n (gA (ps ++ [⟨zp, []⟩]) t80 t87) fun y => gA (ps ++ [⟨{ zp with ep := y 16 }, decC nm y 60⟩]) t80 t87) := by
  refine RawR.toOk (q := fiQ E z si nm nt l n (gA (ps ++ [⟨zp, []⟩]) t80 t87) fun y => gA (ps ++ [⟨{ zp with ep := y 16 }, decC nm y 60⟩]) t80 t87) (fi_loop (os := os) (dm := dm) (um := um) hE hdm R (t80 := t80) (t87 := t87) (ps := ps) (si := si) (l := l) (nt := nt) hnl nm [] z n zp [] rfl hpv (by simpa using hnl) hn (fun h => absurd h hne)) ?_
  rintro r ob nw g' ⟨rfl, rfl, z', ep', cs', rfl, rfl, rfl, h⟩
  obtain ⟨fc, hfc⟩ := decC_ex cs' fun _ => 0
  refine ⟨fI z'.ep z'.k z'.nt z'.xt z'.bt z'.cv z'.ct ep' fc, fun y hy => ?_⟩
  obtain ⟨s1, s2, s3, s4, s5, s6, s7⟩ := h
  refine ⟨rfl, ?_, rfl, ?_⟩
  · show [fhO E.w z' l 7, _] = [fhO E.w (fiY z y) l 7, _]
    have : fhO E.w z' l 7 = fhO E.w (fiY z y) l 7 := by
      unfold fhO Lf.head fiY
      simp only [show y 3 = z'.ep from hy 0, show y (4 + 0) = z'.k 0 from hy 1, show y (4 + 1) = z'.k 1 from hy 2, show y (4 + 2) = z'.k 2 from hy 3, show y (4 + 3) = z'.k 3 from hy 4, show y (4 + 4) = z'.k 4 from hy 5, show y (4 + 5) = z'.k 5 from hy 6, show y (4 + 6) = z'.k 6 from hy 7,
        show y 11 = z'.nt from hy 8, show y 12 = z'.xt from hy 9, show y 13 = z'.bt from hy 10, show y 14 = z'.cv from hy 11, show y 15 = z'.ct from hy 12, s4, s5, s6, s7]
    rw [this]
  · have e1 : decC (txC cs') y 60 = cs' := (hfc y 60 fun i => by
      have := hy (57 + i)
      rw [show 57 + i + 3 = 60 + i by omega] at this
      rw [this]
      unfold fI
      rw [if_neg (by omega), Nat.add_sub_cancel_left]).1
    show gA (ps ++ [⟨{ zp with ep := ep' }, [] ++ cs'⟩]) t80 t87 = gA (ps ++ [⟨{ zp with ep := y 16 }, decC (txC cs') y 60⟩]) t80 t87
    rw [e1, show y 16 = ep' from hy 13, List.nil_append]
end
section
variable {Γ : Type}
noncomputable def RunTX (C : Cfg Γ) (n : Nat) (c : Code) (ads : List Nat) (pre : List Obj) (g : Γ) (nxt : Code) (sc : List Nat) (Q : Out Γ → XS → List Obj × Γ) : Prop :=
  ∀ N t G sk X, pairL (startR C n (rawK c ads pre g (.error .none) [] [] g) N t G sk X sc) ads.length [] =
    pairR (startR C n (rawK c ads pre g (.error .none) [] [] g) N t G sk X sc) (fun o => { (rawK c ads pre g agR (Q o X).1 [] (Q o X).2).exp (xOf o fun _ => 0) with ag := some nxt })
noncomputable def RunTXL (C : Cfg Γ) (n : Nat) (c : Code) (ads : List Nat) (pre : List Obj) (g : Γ) (nxt : Code) (sc : List Nat) (Q : Out Γ → XS → List Obj × Γ) (N t G : Nat) (sk : SkS) (X : XS) := pairL (startR C n (rawK c ads pre g (.error .none) [] [] g) N t G sk X sc) ads.length []
noncomputable def RunTXR (C : Cfg Γ) (n : Nat) (c : Code) (ads : List Nat) (pre : List Obj) (g : Γ) (nxt : Code) (sc : List Nat) (Q : Out Γ → XS → List Obj × Γ) (N t G : Nat) (sk : SkS) (X : XS) := pairR (startR C n (rawK c ads pre g (.error .none) [] [] g) N t G sk X sc) (fun o => { (rawK c ads pre g agR (Q o X).1 [] (Q o X).2).exp (xOf o fun _ => 0) with ag := some nxt })
theorem RunTX.of {C : Cfg Γ} {n : Nat} {c : Code} {ads : List Nat} {pre : List Obj} {g : Γ} {nxt : Code} {sc : List Nat} {Q : Out Γ → XS → List Obj × Γ} (h : RunTXL C n c ads pre g nxt sc Q = RunTXR C n c ads pre g nxt sc Q) : RunTX C n c ads pre g nxt sc Q := fun N t G sk X => congrFun (congrFun (congrFun (congrFun (congrFun h N) t) G) sk) X
theorem RunTX.turn {K : Gd Γ} (hE : K.E.Ok) (hF : K.Fine) (hdm : K.Lim) {c : Code} {ads : List Nat} {pre : List Obj} {g : Γ} {cut} {l : List (Seen Γ → Con Γ)} {n : Nat} {sc : List Nat} {nxt Q}
    (run : RunTX (K.E.cfg (conL l) cut) n c ads pre g nxt sc Q) (H : AllCon K.up l) {Ψ : Rel Γ} (rest : ∀ o X, RawR K nxt ads (Q o X).1 (Q o X).2 Ψ) (hl : ads.length = pre.length := by rfl) (hb : btOk pre 0 .nil = true := by rfl) : RawR K c ads pre g Ψ := by
  refine ⟨hl, fun A h gb d t R => K.codeRun hE hF R hl hb hdm (cut := cut) (fun ps j c h => H.con ps j c h) (n := n) (sc := sc) fun sk X => ?_⟩
  obtain ⟨o, e, ok, s⟩ := pair_out (run (h.objs.size - 209) t gb.length sk X)
  refine ⟨o, e, ok, fun h' gb' d' D hg hb => ?_⟩
  have s' := s
  unfold Out.sm Raw.exp at s'
  injection s' with s1 s2 s3 s4 s5 s6 s7 s8 s9 s10 s11
  have hs : ({ o with ag := none } : Out Γ).sm ads.length [] = (rawK c ads pre g agR (Q o X).1 [] (Q o X).2).exp (xOf o fun _ => 0) := by
    unfold Out.sm Raw.exp
    rw [s1, s3, s4, s5, s6, s7, s8, s9, s10, s11]
  have L : RawLeft K (rawK c ads pre g agR (Q o X).1 [] (Q o X).2) h (xOf o fun _ => 0) h' (gb' ++ o.gl) := Rep.left (q := rawK c ads pre g agR (Q o X).1 [] (Q o X).2) hs rfl D hg hb
  have R' : RawIn K (rawK c ads pre g agR (Q o X).1 [] (Q o X).2) A h gb := R.cast rfl rfl rfl
  rw [s2]
  show codeAny (model K.E.prog K.E.w) A nxt _ _
  have R2 : RawIn K (rawK nxt ads (Q o X).1 (Q o X).2 (.error .none) [] [] (Q o X).2) A h' (gb' ++ o.gl) := L.next R' rfl rfl rfl hl
  have w := (rest o X).2 A h' (gb' ++ o.gl) d' (o.B.t + o.i) R2
  rw [show o.B.t + 1 + o.i = o.B.t + o.i + 1 by omega]
  refine codeAny_mono w ?_
  rintro r s' ⟨x2, h2, gb2, d2, ps, nw, g', e', p, L2⟩
  exact ⟨x2, h2, gb2, d2, ps, nw, g', e', p, L.trans R' L2 rfl rfl rfl rfl rfl rfl rfl⟩
end
noncomputable def foC (E : Sol.Env) (z : Lf) (it : Nat) : Code := forC (nthSt (bodyOf (fdOf E 208)) 1) it (envLw (fdOf E 208) (z.f + 209) (z.cl + 209) (z.cc + 209))
noncomputable def feZ (z : Lf) (s : Seen OL) (a b : Int) (p : Nat) : Lf := { z with ep := epO (s.T.get 0), k := ktO (s.T.get 0), nt := vtO (s.T.get 0) 2, x := a, xt := vtO (s.T.get 0) 3, be := b, bt := vtO (s.T.get 0) 4, pv := p, ct := vtO (s.T.get 0) 6 }
noncomputable def foZ (z : Lf) (o : Option Obj) (a b : Int) (p cv : Nat) : Lf := { z with ep := epO o, k := ktO o, nt := vtO o 2, x := a, xt := vtO o 3, be := b, bt := vtO o 4, pv := p, cv := cv, ct := vtO o 6 }
noncomputable def foPre (E : Sol.Env) (z : Lf) (l n xs i : Nat) (vs : List Value) (xep : Nat) (lv : List Value) (lep : Nat) (c : Int) (ct : Nat) : List Obj := [fhO E.w z l n, itO xs i, lsO vs xep, lsO lv lep, clO (.int c (ct + 1))]
noncomputable def foHd (it xs xep : Nat) (vs : List Value) (i : Nat) (a : Int) (t : Nat) (m c : Int) (b : Bool) : List (Seen OL → Con OL) := [
  fun s => ((nextQ it xs xep vs i (.int a (t + 1))).at s.g).con [1, 2],
  fun s => ((modQ a (tkA s.c 0) (tkA s.c 1) m).at s.g).con [],
  fun s => ((cmpQ "int.__le__" (c + 1 + m) 10 (tkA s.c 0) (tkA s.c 1) b).at s.g).con []]
noncomputable def foCon (E : Sol.Env) (z : Lf) (l n' it xs xep : Nat) (vs : List Value) (i : Nat) (a : Int) (t : Nat) (m c : Int) (lv : List Value) (lep : Nat) (nm : List Nat) (g : OL) (gf1 : (Nat → Nat) → OL) (gf2 : (Nat → Nat) → (Nat → Nat) → OL) : List (Seen OL → Con OL) := foHd it xs xep vs i a t m c true ++ [
  fun s => (newGQ g gf1).con [],
  fun s => ((gssQ digits (tkA s.c 0 - 1) (rfA s.c 1) (.int c (ftO (s.T.get 5) 0 + 1)) (.int (c + 1 + m) (ftO (s.T.get 5) 1 + 1)) nm).at s.g).con [5],
  fun s => ((siterQ nm (tkA s.c 0 - 1)).at s.g).con [],
  fun s => (fiQ E (feZ z s a (c + 1 + m) (nthU s.l 2 3)) (cItF s.c) nm (ftO (s.T.get 6) 0) l n' (gf1 (nthU s.l 2)) (gf2 (nthU s.l 2))).con [0, 6],
  fun s => ((appQ l lep lv (.ref (rfA s.c 1 + 209))).at s.g).con [3]]
noncomputable def FoTurn (E : Sol.Env) (n n' : Nat) : Prop := ∀ (z : Lf) (l it xs xep : Nat) (vs : List Value) (i : Nat) (a : Int) (t : Nat) (m c : Int) (ct : Nat) (lv : List Value) (lep : Nat) (nm : List Nat) (g : OL) (gf1 : (Nat → Nat) → OL) (gf2 : (Nat → Nat) → (Nat → Nat) → OL),
  RunTX (E.cfg (conL (foCon E z l n' it xs xep vs i a t m c lv lep nm g gf1 gf2)) cutF) 200 (foC E z it) [z.f + 209, it + 209, xs + 209, l + 209, z.cc + 209] (foPre E z l n xs i vs xep lv lep c ct) g (foC E z it)
    [2, 1, 1, 1, 5, 0, 1, 2, 0, 1, 1, 1, 3, 0, 0, 0, 4, 1, 1, 1, 5, 1, 5, 6, 7, 7, 1, 4, 4, 4, 4, 1, 8, 1, 5, 5]
    (fun o X => (foPre E (foZ z (o.T.get 0) a (c + 1 + m) (X 3 3) (X 6 14)) l 7 xs (i + 1) vs xep (lv ++ [.ref (X 3 3 + 209)]) (lep + 1) (c + 1 + m) (clT (o.T.get 4)), gf2 (X 3) (X 6)))
noncomputable def FoPass (E : Sol.Env) : Prop := ∀ (z : Lf) (l it xs xep : Nat) (vs : List Value) (i : Nat) (a : Int) (t : Nat) (m c : Int) (ct : Nat) (lv : List Value) (lep : Nat) (g : OL),
  RunTX (E.cfg (conL (foHd it xs xep vs i a t m c false)) cutF) 100 (foC E z it) [z.f + 209, it + 209, xs + 209, l + 209, z.cc + 209] (foPre E z l 7 xs i vs xep lv lep c ct) g (foC E z it)
    [2, 1, 1, 1, 5, 0, 1, 2, 0, 1, 1, 1, 3]
    (fun o X => (foPre E (foZ z (o.T.get 0) a (c + 1 + m) z.pv z.cv) l 7 xs (i + 1) vs xep lv lep c ct, g))
noncomputable def foEQ (E : Sol.Env) (z : Lf) (l it xs xep : Nat) (vs : List Value) (i : Nat) (lv : List Value) (lep : Nat) (c : Int) (ct : Nat) (g : OL) : Raw OL where
  code := foC E z it
  ads := [z.f + 209, it + 209, xs + 209, l + 209, z.cc + 209]
  pre := foPre E z l 7 xs i vs xep lv lep c ct
  g := g
  res := fun _ => nextR
  post := fun _ => [fhO E.w z l 7, itE i, lsO vs xep, lsO lv lep, clO (.int c (ct + 1))]
  news := fun _ => []
  gpost := fun _ => g
noncomputable def FoEnd (E : Sol.Env) : Prop := ∀ (z : Lf) (l it xs xep : Nat) (vs : List Value) (i : Nat) (lv : List Value) (lep : Nat) (c : Int) (ct : Nat) (g : OL),
  RunQ (E.cfg (conL [fun s => ((nextE it xs xep vs i).at s.g).con [1, 2]]) cutF) 40 (foEQ E z l it xs xep vs i lv lep c ct g) [2, 1, 6] x0 []
end Sol
namespace Sol
open PySem PySem.Spec PySem.Calls PyProof.Rows PySem.W PySem.W.X
noncomputable def mo (a : Int) : Nat := (a % 10).toNat
theorem mo_eq (a : Int) : a % 10 = (mo a : Int) := (Int.toNat_of_nonneg (Int.emod_nonneg a (by decide))).symm
theorem mo_lt (a : Int) : mo a < 10 := by
  have := Int.emod_lt_of_pos a (by decide : (0 : Int) < 10)
  have := mo_eq a
  omega
noncomputable def cut48 (c k : Nat) : List Nat := (upto k 0).map fun i => 48 + c + i
theorem cut48_len (c k : Nat) : (cut48 c k).length = k := by unfold cut48; rw [List.length_map, upto_eq, List.length_range']
theorem cut48_lt {c k : Nat} (h : c + k < 12) : ∀ x ∈ cut48 c k, x < 128 := fun x hx => by
  unfold cut48 at hx
  rw [upto_eq] at hx
  obtain ⟨i, hi, rfl⟩ := List.mem_map.mp hx
  have := List.mem_range'.mp hi
  omega
noncomputable def dealF : List Nat → Nat → List (List Nat) → Nat × List (List Nat)
  | [], c, C => (c, C)
  | m :: ms, c, C => match Nat.ble (c + 1 + m) 10 with
    | true => dealF ms (c + 1 + m) (C ++ [cut48 c (m + 1)])
    | false => dealF ms c C
structure LoSame (z z' : Lf) : Prop where
  f : z'.f = z.f
  cl : z'.cl = z.cl
  cc : z'.cc = z.cc
  scr : z'.scr = z.scr
structure FoRuns (E : Sol.Env) : Prop where
  fi : FiRuns E
  t3 : FoTurn E 3 6
  t7 : FoTurn E 7 7
  p : FoPass E
  e : FoEnd E
section
variable {E : Sol.Env} {os : OsState} {dm um : Nat} (hE : E.Ok) (hdm : (gK E os dm um).up.up.Lim)
include hE hdm
theorem fo_loop (R : FoRuns E) {t80 t87 : Option Nat} {it xs xep l : Nat} {vs : List Value} (hvl : vs.length < 12) :
    ∀ (rest A : List Value) (ms : List Int) (z : Lf) (n c ct lep : Nat) (ps : List PileG), vs = A ++ rest → IntsAre rest ms → c ≤ 10 → ((n = 3 ∧ c = 0 ∧ rest ≠ []) ∨ n = 7) → ps.length ≤ A.length →
    RawR (gK E os dm um) (foC E z it) [z.f + 209, it + 209, xs + 209, l + 209, z.cc + 209] (foPre E z l n xs A.length vs xep (ps.map refP) lep c ct) (gA ps t80 t87)
      (fun r ob nw g' => r = nextR ∧ nw = [] ∧ ∃ z' lep' ct' ps', ob = [fhO E.w z' l 7, itE vs.length, lsO vs xep, lsO (ps'.map refP) lep', clO (.int (dealF (ms.map mo) c (chL ps)).1 (ct' + 1))] ∧ g' = gA ps' t80 t87 ∧ chL ps' = (dealF (ms.map mo) c (chL ps)).2 ∧ LoSame z z') := by
  have hF := gK_fine E os dm um
  have hFU := gK_fine E os (dm + 95) (um + 270)
  have hU := Gd.unit_fine (gK E os dm um).up
  have hd1 := Gd.up_lim hdm
  have hdU : (gK E os dm um).up.unit.Lim := ⟨hd1.dep, hd1.uni⟩
  intro rest
  induction rest with
  | nil =>
    intro A ms z n c ct lep ps hA hI hc hn hpl
    have hn7 : n = 7 := by
      rcases hn with ⟨-, -, h⟩ | h
      · exact absurd rfl h
      · exact h
    subst hn7
    have e : A.length = vs.length := by rw [hA, List.append_nil]
    have hms : ms = [] := by
      cases ms with
      | nil => rfl
      | cons _ _ => exact hI.elim
    subst hms
    have ok := RunQ.okC (K := gK E os dm um) hE hF (Gd.up_lim hd1) (R.e z l it xs xep vs A.length (ps.map refP) lep c ct (gA ps t80 t87)) ⟨fun s => lift_cg hFU (nextE_ok hE hU hdU e hvl) s.g [1, 2], trivial⟩
    refine ok.toR.mono ?_
    rintro r ob nw g' ⟨y, rfl, rfl, rfl, rfl⟩
    refine ⟨rfl, rfl, z, lep, ct, ps, ?_, rfl, rfl, ⟨rfl, rfl, rfl, rfl⟩⟩
    show [_, itE A.length, _, _, _] = _
    rw [e]; rfl
  | cons v rest ih =>
    intro A ms z n c ct lep ps hA hI hc hn hpl
    cases ms with
    | nil => exact hI.elim
    | cons a ms =>
    obtain ⟨⟨t, rfl⟩, hI⟩ := hI
    have hget : vs[A.length]? = some (.int a (t + 1)) := by rw [hA, List.getElem?_append_right (Nat.le_refl _), Nat.sub_self]; rfl
    have hAl : A.length < 11 := by rw [hA, List.length_append, List.length_cons] at hvl; omega
    have ec : (c : Int) + 1 + (mo a : Int) = ((c + 1 + mo a : Nat) : Int) := rfl
    show RawR _ _ _ _ _ _
    rw [List.map_cons]
    unfold dealF
    cases hb : Nat.ble (c + 1 + mo a) 10 with
    | true =>
      have hle := Nat.le_of_ble_eq_true hb
      obtain ⟨n', hn', tr⟩ : ∃ n', (n' = 6 ∨ n' = 7) ∧ FoTurn E n n' := by
        rcases hn with ⟨rfl, -, -⟩ | rfl
        · exact ⟨6, .inl rfl, R.t3⟩
        · exact ⟨7, .inr rfl, R.t7⟩
      have eb : c + 1 + mo a - c = mo a + 1 := by omega
      have r := tr z l it xs xep vs A.length a t (mo a) c ct (ps.map refP) lep (cut48 c (mo a + 1)) (gA ps t80 t87) (fun y => gA (ps ++ [freshP (iniHash E.w) y]) t80 t87) (fun y1 y2 => gA (ps ++ [⟨{ (freshP (iniHash E.w) y1).z with ep := y2 16 }, decC (cut48 c (mo a + 1)) y2 60⟩]) t80 t87)
      refine RunTX.turn (K := gK E os dm um) hE hF (Gd.up_lim hd1) r ⟨fun s => lift_cg hFU (next_ok hE hU hdU hget hvl) s.g [1, 2], fun s => lift_cg hFU (mod_ok hE hU hdU (mo_eq a)) s.g [], fun s => lift_cg hFU (le_ok2 hE hU hdU (by simp; omega)) s.g [],
        fun s => (newG_ok (os := os) (dm := dm + 95) (um := um + 270) hE hd1 R.fi.cls).cg [], fun s => ?_, fun s => lift_cg hFU (siter_ok (K := (gK E os dm um).up.unit) hU (cut48_lt (by omega))) s.g [],
        fun s => (fiQ_ok (os := os) (dm := dm + 95) (um := um + 270) hE hdm R.fi (zp := (freshP (iniHash E.w) (nthU s.l 2)).z) (by rw [cut48_len]; omega) rfl hn' (fun e => by have := cut48_len c (mo a + 1); rw [e] at this; cases this)).cg [0, 6], fun s => lift_cg hFU (app_ok hE hU hdU (by rw [List.length_map]; omega)) s.g [3], trivial⟩ (fun o X => ?_)
      · have := gss_ok (K := (gK E os dm um).up.unit) hE hU hdU (a := c) (b := c + 1 + mo a) (c := (c : Int)) (d := (c : Int) + 1 + (mo a : Int)) (nt := tkA s.c 0 - 1) (sl := rfA s.c 1) (t := ftO (s.T.get 5) 0) (u := ftO (s.T.get 5) 1) (by omega) (by omega) rfl ec
        rw [eb] at this
        exact lift_cg hFU this s.g [5]
      · have z' := ih (A ++ [.int a (t + 1)]) ms (foZ z (o.T.get 0) a ((c : Int) + 1 + (mo a : Int)) (X 3 3) (X 6 14)) 7 (c + 1 + mo a) (clT (o.T.get 4)) (lep + 1) (ps ++ [⟨{ (freshP (iniHash E.w) (X 3)).z with ep := X 6 16 }, decC (cut48 c (mo a + 1)) (X 6) 60⟩])
          (by rw [hA, List.append_assoc]; rfl) hI hle (.inr rfl) (by rw [List.length_append, List.length_append]; simp; exact hpl)
        have e1 : (A ++ [Value.int a (t + 1)]).length = A.length + 1 := by rw [List.length_append]; rfl
        have e2 : (ps ++ [(⟨{ (freshP (iniHash E.w) (X 3)).z with ep := X 6 16 }, decC (cut48 c (mo a + 1)) (X 6) 60⟩ : PileG)]).map refP = ps.map refP ++ [.ref (X 3 3 + 209)] := by rw [List.map_append]; rfl
        have e3 : chL (ps ++ [(⟨{ (freshP (iniHash E.w) (X 3)).z with ep := X 6 16 }, decC (cut48 c (mo a + 1)) (X 6) 60⟩ : PileG)]) = chL ps ++ [cut48 c (mo a + 1)] := by
          unfold chL
          rw [List.map_append]
          show _ ++ [txC (decC _ _ _)] = _
          rw [decC_tx]
        rw [e1, e2, e3] at z'
        refine z'.mono ?_
        rintro r ob nw g' ⟨h1, h2, z2, lep2, ct2, ps2, h3, h4, h5, h6⟩
        exact ⟨h1, h2, z2, lep2, ct2, ps2, h3, h4, h5, ⟨h6.f, h6.cl, h6.cc, h6.scr⟩⟩
    | false =>
      have hgt : 10 < c + 1 + mo a := Nat.lt_of_not_le fun h => by rw [Nat.ble_eq_true_of_le h] at hb; cases hb
      have hn7 : n = 7 := by
        rcases hn with ⟨-, rfl, -⟩ | h
        · have := mo_lt a; omega
        · exact h
      subst hn7
      have r := R.p z l it xs xep vs A.length a t (mo a) c ct (ps.map refP) lep (gA ps t80 t87)
      refine RunTX.turn (K := gK E os dm um) hE hF (Gd.up_lim hd1) r ⟨fun s => lift_cg hFU (next_ok hE hU hdU hget hvl) s.g [1, 2], fun s => lift_cg hFU (mod_ok hE hU hdU (mo_eq a)) s.g [], fun s => lift_cg hFU (le_ok2 hE hU hdU (by simp; omega)) s.g [], trivial⟩ (fun o X => ?_)
      have z' := ih (A ++ [.int a (t + 1)]) ms (foZ z (o.T.get 0) a ((c : Int) + 1 + (mo a : Int)) z.pv z.cv) 7 c ct lep ps (by rw [hA, List.append_assoc]; rfl) hI hc (.inr rfl) (by rw [List.length_append]; exact Nat.le_succ_of_le hpl)
      have e1 : (A ++ [Value.int a (t + 1)]).length = A.length + 1 := by rw [List.length_append]; rfl
      rw [e1] at z'
      refine z'.mono ?_
      rintro r ob nw g' ⟨h1, h2, z2, lep2, ct2, ps2, h3, h4, h5, h6⟩
      exact ⟨h1, h2, z2, lep2, ct2, ps2, h3, h4, h5, ⟨h6.f, h6.cl, h6.cc, h6.scr⟩⟩
end
noncomputable def foY (z : Lf) (y : Nat → Nat) : Lf := { z with ep := y 3, k := fun i => y (4 + i), nt := y 11, x := dI (y 12), xt := y 13, be := dI (y 14), bt := y 15, pv := y 16, cv := y 17, ct := y 18 }
noncomputable def foQ (E : Sol.Env) (z : Lf) (it xs xep : Nat) (vs : List Value) (l lep ct : Nat) (g : OL) (c' : Nat) (av : (Nat → Nat) → List Value) (gf : (Nat → Nat) → OL) : Raw OL where
  code := foC E z it
  ads := [z.f + 209, it + 209, xs + 209, l + 209, z.cc + 209]
  pre := foPre E z l 3 xs 0 vs xep [] lep 0 ct
  g := g
  res := fun _ => nextR
  post := fun y => [fhO E.w (foY z y) l 7, itE vs.length, lsO vs xep, lsO (av y) (y 19), clO (.int c' (y 20 + 1))]
  news := fun _ => []
  gpost := gf
noncomputable def fO (a : Nat) (k : Nat → Nat) (b c d e f g p q r s : Nat) (h : Nat → Nat) (j : Nat) : Nat := if j < 57 then (match j with | 0 => a | 1 => k 0 | 2 => k 1 | 3 => k 2 | 4 => k 3 | 5 => k 4 | 6 => k 5 | 7 => k 6 | 8 => b | 9 => c | 10 => d | 11 => e | 12 => f | 13 => g | 14 => p | 15 => q | 16 => r | 17 => s | _ => 0) else h (j - 57)
section
variable {E : Sol.Env} {os : OsState} {dm um : Nat} (hE : E.Ok) (hdm : (gK E os dm um).up.up.Lim)
include hE hdm
theorem foQ_ok (R : FoRuns E) {t80 t87 : Option Nat} {it xs xep l lep ct : Nat} {vs : List Value} {ms : List Int} {z : Lf} (hvl : vs.length < 12) (hI : IntsAre vs ms) (hne : vs ≠ []) :
    RawOk (gK E os dm um) (foQ E z it xs xep vs l lep ct (gA [] t80 t87) (dealF (ms.map mo) 0 []).1 (fun y => (decPs (dealF (ms.map mo) 0 []).2 y 60).map refP) (fun y => gA (decPs (dealF (ms.map mo) 0 []).2 y 60) t80 t87)) := by
  refine RawR.toOk (q := foQ E z it xs xep vs l lep ct (gA [] t80 t87) _ _ _) (fo_loop (os := os) (dm := dm) (um := um) hE hdm R (t80 := t80) (t87 := t87) (it := it) (xs := xs) (xep := xep) (l := l) hvl vs [] ms z 3 0 ct lep [] rfl hI (Nat.zero_le _) (.inl ⟨rfl, rfl, hne⟩) (Nat.le_refl _)) ?_
  rintro r ob nw g' ⟨rfl, rfl, z', lep', ct', ps', rfl, rfl, h1, h2⟩
  obtain ⟨fp, hfp⟩ := decPs_ex ps'
  refine ⟨fO z'.ep z'.k z'.nt (eI z'.x) z'.xt (eI z'.be) z'.bt z'.pv z'.cv z'.ct lep' ct' fp, fun y hy => ?_⟩
  have eP : decPs (dealF (ms.map mo) 0 []).2 y 60 = ps' := by
    show decPs (dealF (ms.map mo) 0 (chL [])).2 y 60 = ps'
    rw [← h1]
    refine hfp y 60 fun i => ?_
    have := hy (57 + i)
    rw [show 57 + i + 3 = 60 + i by omega] at this
    rw [this]
    unfold fO
    rw [if_neg (by omega), Nat.add_sub_cancel_left]
  obtain ⟨s1, s2, s3, s4⟩ := h2
  have eO : fhO E.w z' l 7 = fhO E.w (foY z y) l 7 := by
    unfold fhO Lf.head foY
    simp only [show y 3 = z'.ep from hy 0, show y (4 + 0) = z'.k 0 from hy 1, show y (4 + 1) = z'.k 1 from hy 2, show y (4 + 2) = z'.k 2 from hy 3, show y (4 + 3) = z'.k 3 from hy 4, show y (4 + 4) = z'.k 4 from hy 5, show y (4 + 5) = z'.k 5 from hy 6, show y (4 + 6) = z'.k 6 from hy 7,
      show y 11 = z'.nt from hy 8, show y 12 = eI z'.x from hy 9, show y 13 = z'.xt from hy 10, show y 14 = eI z'.be from hy 11, show y 15 = z'.bt from hy 12, show y 16 = z'.pv from hy 13, show y 17 = z'.cv from hy 14, show y 18 = z'.ct from hy 15, dI_eI, s4]
  refine ⟨rfl, ?_, rfl, ?_⟩
  · show [fhO E.w z' l 7, _, _, _, clO (.int (dealF (ms.map mo) 0 []).1 (ct' + 1))] = [fhO E.w (foY z y) l 7, _, _, lsO ((decPs (dealF (ms.map mo) 0 []).2 y 60).map refP) (y 19), clO (.int (dealF (ms.map mo) 0 []).1 (y 20 + 1))]
    rw [eO, eP, show y 19 = lep' from hy 16, show y 20 = ct' from hy 17]
  · show gA ps' t80 t87 = gA (decPs (dealF (ms.map mo) 0 []).2 y 60) t80 t87
    rw [eP]
end
end Sol
namespace Sol
open PySem PySem.Spec PySem.Calls PyProof.Rows PySem.W PySem.W.X
noncomputable def arg0 : PySem.Expr → PySem.Expr
  | .Call _ (a :: _) _ _ => a
  | e => e
noncomputable def cmpL : PySem.Expr → PySem.Expr
  | .Compare l _ _ _ => l
  | e => e
noncomputable def unfree : List (PySem.Str × NameKind) → List (PySem.Str × NameKind)
  | [] => []
  | p :: l => (p.1, match p.2 with | .free => .cell | k => k) :: unfree l
noncomputable def lcEnv (fd : FuncData) (e : PySem.Expr) (cells : List (PySem.Str × Nat)) (lc fr : Nat) : PySem.Env := { scope := { scopeE e with names := unfree (scopeE e).names }, locals := lc, globals := fd.globals, cells := cells, qual := fd.qualname ++ a_locals, func := none, code := fd.code, frame := some fr, builtins := fd.builtins }
noncomputable def lcSC (fd : FuncData) (e : PySem.Expr) (cells : List (PySem.Str × Nat)) (lc it acc fr : Nat) : Code := .compStart e 0 (.ref (it + 209)) (.ref (acc + 209)) (lcEnv fd e cells (lc + 209) (fr + 209))
noncomputable def e1 (E : Sol.Env) : PySem.Expr := arg0 (exprS (nthSt (bodyOf (fdOf E 208)) 2))
noncomputable def e2 (E : Sol.Env) : PySem.Expr := arg0 (arg0 (exprS (nthSt (bodyOf (fdOf E 208)) 4)))
structure C1 where
  lc : Nat
  it : Nat
  acc : Nat
  cc : Nat
  fr : Nat
  dep : Nat
  aep : Nat
noncomputable def ksY : Nat → Nat → (Nat → Nat) → List Value
  | 0, _, _ => []
  | n + 1, i, y => .int i (y (10 + i) + 1) :: ksY n (i + 1) y
noncomputable def cX {Γ : Type} (o : Out Γ) (_ : XS) (_ _ _ : Nat) (j : Nat) : Nat := match j with
  | 0 => epO (o.T.get 0)
  | 1 => ktO (o.T.get 0) 0
  | 2 => vtO (o.T.get 0) 0
  | 3 => epO (o.T.get 1)
  | j + 7 => etO (o.T.get 1) j
  | _ => 0
noncomputable def c1Q (E : Sol.Env) (z : C1) (n : Int) (ct s : Nat) : Raw Unit where
  code := lcSC (fdOf E 208) (e1 E) [(⟨n_cards.toArray⟩, z.cc + 209)] z.lc z.it z.acc z.fr
  ads := [z.lc + 209, z.acc + 209, z.it + 209, z.cc + 209]
  pre := [dcO [] z.dep, lsO [] z.aep, rgO 0 5, clO (.int n (ct + 1))]
  g := ()
  res := fun _ => nextR
  post := fun y => [dcO [ky E.w n_k (y 4) (.int 4 (y 5 + 1))] (y 3), lsO (ksY (s + 1) 0 y) (y 6), rgO 5 0, clO (.int n (ct + 1))]
  news := fun _ => []
  gpost := fun _ => ()
noncomputable def c1S : Nat → Nat → Nat → List Nat
  | 0, _, _ => [3, 0, 3, 3, 3, 3, 6]
  | k + 1, i, s => [3, 0, 3, 3, 3, 3, 3, 3, 3, 3, 1, 1, 1, 1, 0, 0, 0, 4, 0] ++ (match Nat.ble i s with
    | true => [1, 0, 2, 2, 2, 2]
    | false => []) ++ c1S k (i + 1) s
noncomputable def b2S (b : Bool) : List Nat := match b with
  | true => []
  | false => [3, 3, 0, 3, 3]
noncomputable def C1Run (E : Sol.Env) (n s : Nat) : Prop := ∀ (z : C1) (ct : Nat), RunQ (E.cfg noCon noCut) 400 (c1Q E z n ct s) (b2S E.b2 ++ c1S 5 0 s) cX []
noncomputable def brS (k : Nat) : List Nat := [91, 97 + k, 98 + k, 93]
noncomputable def ssY : Nat → Nat → (Nat → Nat) → List Value
  | 0, _, _ => []
  | k + 1, i, y => stV (brS k) (y (10 + i)) :: ssY k (i + 1) y
noncomputable def r3O (a b c : Int) : Obj := { cls := .type "range_iterator", data := .fields #[.int a 0, .int b 0, .int c 0] }
noncomputable def abcdef : List Nat := [97, 98, 99, 100, 101, 102]
noncomputable def c2Q (E : Sol.Env) (z : C1) (ct s : Nat) : Raw Unit where
  code := lcSC (fdOf E 208) (e2 E) [(⟨n_letters.toArray⟩, z.cc + 209)] z.lc z.it z.acc z.fr
  ads := [z.lc + 209, z.acc + 209, z.it + 209, z.cc + 209]
  pre := [dcO [] z.dep, lsO [] z.aep, r3O s ((s + 1 : Nat) : Int) (-1), clO (stV abcdef ct)]
  g := ()
  res := fun _ => nextR
  post := fun y => [dcO [ky E.w n_k (y 4) (.int 0 (y 5 + 1))] (y 3), lsO (ssY (s + 1) 0 y) (y 6), r3O (-1) 0 (-1), clO (stV abcdef ct)]
  news := fun _ => []
  gpost := fun _ => ()
noncomputable def c2S : Nat → List Nat
  | 0 => [3, 0, 3, 3, 3, 3, 6]
  | k + 1 => [3, 0, 3, 3, 3, 3, 3, 3, 3, 3, 1, 1, 4, 1, 0, 0, 4, 1, 0, 0, 0, 0, 0, 2, 2, 2, 2] ++ c2S k
noncomputable def C2Run (E : Sol.Env) (s : Nat) : Prop := ∀ (z : C1) (ct : Nat), RunQ (E.cfg noCon noCut) 500 (c2Q E z ct s) (b2S E.b2 ++ c2S (s + 1)) cX []
noncomputable def stpF (n : Nat) : Nat := match Nat.blt n 3 with
  | true => 1
  | false => match Nat.blt n 6 with
    | true => 2
    | false => match Nat.blt n 10 with
      | true => 3
      | false => 4
end Sol
namespace Sol
open PySem PySem.Spec PySem.Calls PyProof.Rows PySem.W PySem.W.X
noncomputable def strGQ (c : Code) (p d ep : Nat) (ts : List Nat) (S : List Nat) (g : OL) (gf : Nat → OL) : Raw OL where
  code := c
  ads := [p + 209]
  pre := [accO (d + 209) ts ep]
  g := g
  res := fun y => ok (stV S (y 3))
  post := fun _ => [accO (d + 209) ts ep]
  news := fun _ => []
  gpost := fun y => gf (y 4)
noncomputable def str92 (p : Nat) : Code := .call (.ref 92) ⟨[.ref (p + 209)], []⟩
noncomputable def strTC (p : Nat) : Code := .call (.type "str") ⟨[.ref (p + 209)], []⟩
noncomputable def StrBRun (E : Sol.Env) : Prop := ∀ (p d ep : Nat) (ts S : List Nat) (g : OL) (gf : Nat → OL), RunQ (E.cfg (conL [fun s => (strGQ (str92 p) p d ep ts S g gf).con [0]]) noCut) 60 (strGQ (strTC p) p d ep ts S g gf) [0, 1, 0, 0, 0, 0, 1, 0] lbX []
noncomputable def strN (p : Nat) (S : List Nat) (g : OL) (gf : Nat → OL) : Raw OL where
  code := strTC p
  ads := []
  pre := []
  g := g
  res := fun y => ok (stV S (y 3))
  post := fun _ => []
  news := fun _ => []
  gpost := fun y => gf (y 4)
section
variable {E : Sol.Env} {os : OsState} {dm um : Nat} (hE : E.Ok) (hdm : (gK E os dm um).up.Lim)
include hE
theorem str92_ok (R : ClsRuns E) (hd : (gK E os dm um).Lim) {z : Pl} {cs : List Card} {T : Option Nat} (h : cs.length < 11) :
    RawOk (gK E os dm um) (strGQ (str92 z.p) z.p z.d z.ep (adC cs) (txC cs) ((z.d + 209, iniO z.hh (z.u1 + 1) (z.u2 + 1)) :: (87, tab87 T) :: cards cs) (fun a => (z.d + 209, iniO z.hh (z.u1 + 1) (z.u2 + 1)) :: (87, tab87 (some (T.getD a))) :: cards cs)) := by
  have H := (strL_ok (K := (gK E os dm um).unit) hE (Gd.unit_fine _) ⟨hd.dep, hd.uni⟩ R (z := z) (cs := cs) (T := T) h).lift (gK_fine E os dm um) []
  refine frame0 H (ga := (z.d + 209) :: 87 :: adC cs) (gp := iniO z.hh (z.u1 + 1) (z.u2 + 1) :: tab87 T :: obC cs) (fr := []) (fun y => iniO z.hh (z.u1 + 1) (z.u2 + 1) :: tab87 (some (T.getD (y 4))) :: obC cs) rfl rfl rfl rfl rfl ?_ ?_ (fun x => rfl) (fun x => rfl) (fun x => rfl) (fun x => ?_)
  · simp [adC, obC]
  · exact .of_eq (by show _ = zip2 _ _ ++ ([] ++ []); simp [zip2, cards]; exact rfl)
  · exact .of_eq (by show _ = zip2 _ _ ++ ([] ++ []); simp [zip2, cards]; exact rfl)
include hdm
theorem strN_ok (R : ClsRuns E) (r : StrBRun E) {A B : List PileG} {q : PileG} {t80 t87 : Option Nat} (h : q.cs.length < 11) :
    RawOk (gK E os dm um) (strN q.z.p (txC q.cs) (gA (A ++ q :: B) t80 t87) (fun a => gA (A ++ q :: B) t80 (some (t87.getD a)))) := by
  have c := str92_ok (os := os) (dm := dm + 95) (um := um + 270) hE R hdm (z := q.z) (cs := q.cs) (T := t87) h
  have H := RunQ.okC (K := gK E os dm um) hE (gK_fine ..) (Gd.up_lim hdm) (r q.z.p q.z.d q.z.ep (adC q.cs) (txC q.cs) _ _) ⟨fun s => c.cg [0], trivial⟩
  refine frame0 H (ga := [q.z.p + 209]) (gp := [accO (q.z.d + 209) (adC q.cs) q.z.ep]) (fr := (80, tab80 t80) :: (A.flatMap obP ++ B.flatMap obP)) (fun y => [accO (q.z.d + 209) (adC q.cs) q.z.ep]) rfl rfl rfl rfl rfl rfl ?_ (fun x => rfl) (fun x => rfl) (fun x => rfl) (fun x => ?_)
  · refine perm_sum fun f => ?_
    show ((gA _ _ _).map f).sum = _
    simp only [strGQ, gA, obP, zip2, List.map_cons, List.map_append, List.sum_cons, List.sum_append, List.flatMap_append, List.flatMap_cons, List.cons_append, List.nil_append, List.map_nil, List.sum_nil]
    omega
  · refine perm_sum fun f => ?_
    show ((gA _ _ _).map f).sum = _
    simp only [strGQ, gA, obP, zip2, List.map_cons, List.map_append, List.sum_cons, List.sum_append, List.flatMap_append, List.flatMap_cons, List.cons_append, List.nil_append, List.map_nil, List.sum_nil]
    omega
end
noncomputable def e3 (E : Sol.Env) : PySem.Expr := arg0 (arg0 (cmpL (exprS (nthSt (bodyOf (fdOf E 208)) 11))))
noncomputable def scC (E : Sol.Env) (z : Rc) : Code := compLC (fdOf E 208) (e3 E) z.lc z.it z.acc z.fr
noncomputable def scS (E : Sol.Env) (z : Rc) : Code := compSC (fdOf E 208) (e3 E) z.lc z.it z.acc z.fr
noncomputable def scCon (z : Rc) (p : Nat) (S : List Nat) (g : OL) (gf : Nat → OL) : List (Seen OL → Con OL) := [
  fun s => ((nextQ z.it z.l z.lep z.vs z.i (.ref (p + 209))).at s.g).con [2, 3],
  fun s => (strN p S g gf).con [],
  fun s => ((appQ z.acc z.aep z.av (stV S (tkA s.c 1 - 1))).at s.g).con [1]]
noncomputable def ScTurn (E : Sol.Env) : Prop := ∀ (z : Rc) (b : Bool) (p : Nat) (S : List Nat) (g : OL) (gf : Nat → OL), RunT (E.cfg (conL (scCon { z with b := b } p S g gf)) cutC) 120
  (rcQ E { z with b := b } (scC E z) agR g (fun y => ({ { z with b := b } with dep := y 3, k := y 4, b := true, pv := p, av := z.av ++ [stV S (y 57)], aep := z.aep + 1, i := z.i + 1 } : Rc).pre E.w (itO z.l (z.i + 1))) fun y => gf (y 58)) (fun _ => scC E z) [3, 1, 1, 1, 0, 0, 1, 2, 3] fX
noncomputable def ScEnd (E : Sol.Env) : Prop := ∀ (z : Rc) (b : Bool) (g : OL), RunQ (E.cfg (conL [fun s => ((nextE z.it z.l z.lep z.vs z.i).at s.g).con [2, 3]]) cutC) 40
  (rcQ E { z with b := b } (scC E z) nextR g (fun y => { z with b := b, dep := y 3, k := y 4 }.pre E.w (itE z.i)) fun _ => g) [3, 1, 5] fX []
noncomputable def ScStart (E : Sol.Env) : Prop := ∀ (z : Rc) (g : OL), RunT (E.cfg noCon cutC) 40
  (rcQ E { z with b := false } (scS E z) agR g (fun y => { z with b := false }.pre E.w (itO z.l z.i)) fun _ => g) (fun _ => scC E z) (match E.b2 with | true => [] | false => [3, 3, 0, 3, 3]) fX
structure ScRuns (E : Sol.Env) : Prop where
  cls : ClsRuns E
  sb : StrBRun E
  t : ScTurn E
  e : ScEnd E
  s : ScStart E
noncomputable def scSQ (E : Sol.Env) (z : Rc) (C : List (List Nat)) (n : Nat) (g : OL) (gf : Nat → OL) : Raw OL :=
  rcQ E { z with b := false, av := [], i := 0 } (scS E z) nextR g (fun y => { z with dep := y 5, k := y 6, b := true, pv := y 7, av := LS C y 60, aep := y 8 }.pre E.w (itE n)) fun y => gf (y 4)
section
variable {E : Sol.Env} {os : OsState} {dm um : Nat} (hE : E.Ok) (hdm : (gK E os dm um).up.up.Lim)
include hE hdm
theorem sc_loop (R : ScRuns E) {ps : List PileG} {t80 : Option Nat} (hps : ∀ q ∈ ps, q.cs.length < 11) (hl : ps.length < 12) :
    ∀ (B A : List PileG) (z : Rc) (t87 : Option Nat), ps = A ++ B → z.vs = ps.map refP → z.i = A.length → StrsAre z.av (chL A) → z.av.length = A.length →
    RawR (gK E os dm um) (scC E z) [z.lc + 209, z.acc + 209, z.it + 209, z.l + 209] (z.pre E.w (itO z.l z.i)) (gA ps t80 t87)
      (fun r ob nw g' => r = nextR ∧ nw = [] ∧ ∃ z' : Rc, ∃ t, g' = gA ps t80 t ∧ ob = z'.pre E.w (itE ps.length) ∧ StrsAre z'.av (chL ps) ∧ z'.vs = z.vs ∧ z'.lep = z.lep ∧ z'.b = (z.b || !B.isEmpty)) := by
  intro B
  have hU := Gd.unit_fine (gK E os dm um).up
  have hF := gK_fine E os dm um
  have hFU := gK_fine E os (dm + 95) (um + 270)
  have hdU : (gK E os dm um).up.unit.Lim := ⟨(Gd.up_lim hdm).dep, (Gd.up_lim hdm).uni⟩
  induction B with
  | nil =>
    intro A z t87 hA hvs hi hav hlen
    have hn : z.vs.length < 12 := by rw [hvs, List.length_map]; exact hl
    have e : z.i = z.vs.length := by rw [hvs, List.length_map, hi, hA, List.append_nil]
    have ok := RunQ.okC (K := gK E os dm um) hE hF (Gd.up_lim (Gd.up_lim hdm)) (R.e z z.b (gA ps t80 t87)) ⟨fun s => lift_cg hFU (nextE_ok hE hU hdU e hn) s.g [2, 3], trivial⟩ rfl rfl rfl
    refine ok.toR.mono ?_
    rintro r ob nw g' ⟨y, rfl, rfl, rfl, rfl⟩
    refine ⟨rfl, rfl, { z with dep := y 3, k := y 4 }, t87, rfl, ?_, ?_, rfl, rfl, by simp⟩
    · show Rc.pre E.w _ (itE z.i) = _
      rw [hA, List.append_nil, ← hi]
    · rw [hA, List.append_nil]; exact hav
  | cons q B ih =>
    intro A z t87 hA hvs hi hav hlen
    have hn : z.vs.length < 12 := by rw [hvs, List.length_map]; exact hl
    have hget : z.vs[z.i]? = some (.ref (q.z.p + 209)) := by
      rw [hvs, hi, hA, List.map_append, List.map_cons, List.getElem?_append_right (by rw [List.length_map]; exact Nat.le_refl _), List.length_map, Nat.sub_self]; rfl
    have hlA : A.length < 12 := by rw [hA, List.length_append, List.length_cons] at hl; omega
    have cl : RawOk (gK E os dm um).up (strN q.z.p (txC q.cs) (gA ps t80 t87) (fun a => gA ps t80 (some (t87.getD a)))) := by
      have := strN_ok (os := os) (dm := dm + 95) (um := um + 270) hE hdm R.cls R.sb (A := A) (B := B) (q := q) (t80 := t80) (t87 := t87) (hps q (by rw [hA]; exact List.mem_append_right _ (.head _)))
      rw [← hA] at this
      exact this
    refine RunT.turnC (K := gK E os dm um) hE hF (Gd.up_lim (Gd.up_lim hdm)) (R.t z z.b q.z.p (txC q.cs) (gA ps t80 t87) (fun a => gA ps t80 (some (t87.getD a))))
      ⟨fun s => lift_cg hFU (next_ok hE hU hdU hget hn) s.g [2, 3], fun s => cl.cg [], fun s => lift_cg hFU (app_ok hE hU hdU (by rw [show z.av.length = A.length from hlen]; exact hlA)) s.g [1], trivial⟩ (fun x => ?_) rfl rfl
    have z' := ih (A ++ [q]) { z with dep := x 3, k := x 4, b := true, pv := q.z.p, av := z.av ++ [stV (txC q.cs) (x 57)], aep := z.aep + 1, i := z.i + 1 } (some (t87.getD (x 58))) (by rw [hA, List.append_assoc]; rfl) hvs (by show z.i + 1 = _; rw [hi, List.length_append]; rfl)
      (by show StrsAre (z.av ++ [_]) _; unfold chL; rw [List.map_append]; exact hav.snoc) (by show (z.av ++ [_]).length = _; rw [List.length_append, List.length_append, hlen]; rfl)
    refine z'.mono ?_
    rintro r ob nw g' ⟨h1, h2, z2, t, h3, h4, h5, h6, h7, h8⟩
    refine ⟨h1, h2, z2, t, h3, h4, h5, h6, h7, ?_⟩
    rw [h8]
    show (true || _) = _
    simp
theorem scS_ok (R : ScRuns E) {ps : List PileG} {t80 t87 : Option Nat} (hps : ∀ q ∈ ps, q.cs.length < 11) (hl : ps.length < 12) (hne : ps ≠ []) {z : Rc} (hvs : z.vs = ps.map refP) :
    RawOk (gK E os dm um) (scSQ E z (chL ps) ps.length (gA ps t80 t87) (fun a => gA ps t80 (oN a))) := by
  have L := sc_loop (os := os) (dm := dm) (um := um) hE hdm R (t80 := t80) hps hl ps [] { z with b := false, av := [], i := 0 } t87 rfl hvs rfl trivial rfl
  have T := RunT.turn (K := gK E os dm um) hE (gK_fine ..) (Gd.up_lim (Gd.up_lim hdm)) (con := noCon) (fun _ _ _ _ _ _ h => noCon_ok h) (R.s { z with b := false, av := [], i := 0 } (gA ps t80 t87)) rfl rfl (fun _ => rfl) (fun x => L)
  refine RawR.toOk (q := scSQ E z (chL ps) ps.length (gA ps t80 t87) (fun a => gA ps t80 (oN a))) T ?_
  rintro r ob nw g' ⟨rfl, rfl, z', t, rfl, rfl, h1, h2, h3, h4⟩
  obtain ⟨fv, hfv⟩ := h1.ls
  refine ⟨fR (nO t) z'.dep z'.k z'.pv z'.aep fv, fun y hy => ⟨rfl, ?_, rfl, ?_⟩⟩
  · show Rc.pre E.w z' _ = Rc.pre E.w { z with dep := y 5, k := y 6, b := true, pv := y 7, av := LS (chL ps) y 60, aep := y 8 } _
    have e5 : y 5 = z'.dep := hy 2
    have e6 : y 6 = z'.k := hy 3
    have e7 : y 7 = z'.pv := hy 4
    have e8 : y 8 = z'.aep := hy 5
    have ea : z'.av = LS (chL ps) y 60 := hfv y 60 fun i => by
      have := hy (57 + i)
      rw [show 57 + i + 3 = 60 + i by omega] at this
      rw [this]
      unfold fR
      rw [if_neg (by omega), Nat.add_sub_cancel_left]
    have hb : z'.b = true := by
      rw [h4]
      cases ps with
      | nil => exact absurd rfl hne
      | cons _ _ => rfl
    have h2' : z'.vs = z.vs := h2
    have h3' : z'.lep = z.lep := h3
    unfold Rc.pre
    rw [e5, e6, e7, e8, ← ea, hb, h2', h3']
  · have e4 : y 4 = nO t := hy 1
    show gA ps t80 t = gA ps t80 (oN (y 4))
    rw [e4, oN_nO]
end
end Sol
namespace Sol
open PySem PySem.Spec PySem.Calls PyProof.Rows PySem.W PySem.W.X
noncomputable def joinQ (t l ep : Nat) (vs : List Value) (S : List Nat) : Raw Unit where
  code := .call (.builtin "str.join") ⟨[stV [] t, .ref (l + 209)], []⟩
  ads := [l + 209]
  pre := [lsO vs ep]
  g := ()
  res := fun y => ok (stV S (y 3))
  post := fun _ => [lsO vs ep]
  news := fun _ => []
  gpost := fun _ => ()
theorem StrsAre.vals : ∀ {vs : List Value} {C : List (List Nat)}, StrsAre vs C → ∃ l : List (PySem.Str × Tok), vs = strValues l ∧ l.map (·.1) = C.map (fun s => (⟨s.toArray⟩ : PySem.Str)) ∧ ∀ p ∈ l, ∃ t, p.2 = t + 1
  | [], [], _ => ⟨[], rfl, rfl, fun _ h => nomatch h⟩
  | v :: l, s :: m, h => by
    obtain ⟨⟨t, rfl⟩, h2⟩ := h
    obtain ⟨l', e1, e2, e3⟩ := StrsAre.vals (vs := l) (C := m) h2
    refine ⟨(⟨s.toArray⟩, t + 1) :: l', by rw [e1]; rfl, by rw [List.map_cons, List.map_cons, e2], fun p hp => ?_⟩
    rcases List.mem_cons.mp hp with rfl | hp
    · exact ⟨t, rfl⟩
    · exact e3 p hp
  | [], _ :: _, h => h.elim
  | _ :: _, [], h => h.elim
theorem glued_flat : ∀ (rest : List (List Nat)) (a : List Nat), (rest.map fun s => (⟨s.toArray⟩ : PySem.Str)).foldl (fun acc p => acc ++ #[] ++ p.cps) a.toArray = (a ++ rest.flatten).toArray
  | [], a => by simp
  | s :: rest, a => by
    rw [List.map_cons, List.foldl_cons]
    have : a.toArray ++ #[] ++ (⟨s.toArray⟩ : PySem.Str).cps = (a ++ s).toArray := by simp
    rw [this, glued_flat rest, List.flatten_cons, List.append_assoc]
theorem glued_all (C : List (List Nat)) : PySem.Builtin.Str.glued ⟨#[]⟩ (C.map fun s => (⟨s.toArray⟩ : PySem.Str)) = ⟨C.flatten.toArray⟩ := by
  cases C with
  | nil => rfl
  | cons s rest =>
    show (⟨(rest.map fun s => (⟨s.toArray⟩ : PySem.Str)).foldl (fun acc p => acc ++ #[] ++ p.cps) s.toArray⟩ : PySem.Str) = _
    rw [glued_flat]; rfl
section
variable {K : Gd Unit}
theorem join_ok {t l ep : Nat} {vs : List Value} {C : List (List Nat)} (h : StrsAre vs C) (hs : (C.map List.length).sum < 100) : RawOk K (joinQ t l ep vs C.flatten) := by
  refine ⟨rfl, fun A hh gb d t' R => ?_⟩
  have h0 : hh.get? (l + 209) = some (lsO vs ep) := R.rd 0 _ _ rfl rfl
  have hsz : hh.objs.size - 209 + 209 = hh.objs.size := by have := R.big; omega
  obtain ⟨L, e1, e2, e3⟩ := h.vals
  have lens : ((L.map (·.1)).map (·.length)).sum + (L.map (·.1)).length * (⟨#[]⟩ : PySem.Str).length ≤ 16777216 := by
    rw [e2, List.map_map]
    have : (C.map ((fun x : PySem.Str => x.length) ∘ fun s => (⟨s.toArray⟩ : PySem.Str))) = C.map List.length := List.map_congr_left fun s _ => by show (s.toArray).size = _; simp
    rw [this]
    show _ + _ * 0 ≤ _
    omega
  have jok := joinOk_of lens
  unfold JoinOk at jok
  rw [Bool.not_eq_true'] at jok
  refine call_m (T := "str") F.slot_str_join F.entry_str_join (F.args_str_join_2 _ _) (meets_str_join_list ⟨#[]⟩ (t + 1) (l + 209) L jok) (typeIs_str _ _ _) ⟨⟨_, h0, rfl, ep, by rw [e1]; rfl⟩, ?_⟩
  have fit : (PySem.Builtin.Str.glued ⟨#[]⟩ (L.map (·.1))).length ≤ sizeLine := joinFit_length jok
  have out : ∀ (x : PySem.Str), x = ⟨C.flatten.toArray⟩ → ∀ k m, (∃ y h' gb' d', (⟨hh, ⟨gb⟩, d, m + 1, K.os⟩ : Shared) = ⟨h', ⟨gb'⟩, d', y 1 + 1, K.os⟩ ∧ (ok (.str x (k + 1)) : Result) = (joinQ t l ep vs C.flatten).res y ∧ RawLeft K (joinQ t l ep vs C.flatten) hh y h' gb') := by
    rintro x rfl k m
    exact ⟨xsame (hh.objs.size - 209) m gb.length fun _ => k, hh, gb, d, rfl, rfl, R.same rfl rfl rfl hsz rfl rfl⟩
  have eg : PySem.Builtin.Str.glued ⟨#[]⟩ (L.map (·.1)) = ⟨C.flatten.toArray⟩ := by rw [e2, glued_all]
  cases L with
  | nil => exact ⟨fit, out _ eg t' (t' + 1)⟩
  | cons p r =>
    cases r with
    | nil =>
      obtain ⟨k, ek⟩ := e3 p (.head _)
      have ex : p.1 = ⟨C.flatten.toArray⟩ := by rw [← eg]; rfl
      show (∃ y h' gb' d', _ ∧ (ok (.str p.1 p.2) : Result) = _ ∧ _)
      rw [ek]
      exact out p.1 ex k t'
    | cons q r => exact ⟨fit, out _ eg t' (t' + 1)⟩
end
noncomputable def one (c : Nat) : PySem.Str := ⟨#[c]⟩
noncomputable def L1 : List Nat → (Nat → Nat) → Nat → List Value
  | [], _, _ => []
  | c :: l, y, j => .str (one c) (y j) :: L1 l y (j + 1)
theorem L1_are : ∀ (T : List Nat) (y : Nat → Nat) (j : Nat), PyProof.Rows.StrsAre (L1 T y j) (T.map one)
  | [], _, _ => .nil
  | c :: T, y, j => .cons _ _ (L1_are T y (j + 1))
theorem L1_ex : ∀ {T : List Nat} {l : List Value}, PyProof.Rows.StrsAre l (T.map one) → ∃ f : Nat → Nat, ∀ (y : Nat → Nat) (j : Nat), (∀ i, y (j + i) = f i) → L1 T y j = l
  | [], _, h => by
    cases h
    exact ⟨fun _ => 0, fun _ _ _ => rfl⟩
  | c :: T, _, h => by
    rw [List.map_cons] at h
    cases h with
    | cons _ t h2 =>
      obtain ⟨f, hf⟩ := L1_ex (T := T) h2
      refine ⟨pre1 t f, fun y j hy => ?_⟩
      obtain ⟨e1, h⟩ := pre1_next hy
      rw [L1, hf y (j + 1) h, e1]
theorem one_gives : ∀ {T : List PySem.Str} {vs us : List Value}, PyProof.Rows.StrsAre vs T → PyProof.Rows.StrsAre us T → ∀ j (h1 : j < vs.length) (h2 : j < us.length), PySem.MeetsSeq.EqGives vs[j] us[j] true
  | [], _, _, h, h', j, h1, _ => by cases h; exact absurd h1 (Nat.not_lt_zero _)
  | n :: T, _, _, h, h', j, h1, h2 => by
    cases h with
    | cons _ t h3 =>
    cases h' with
    | cons _ t' h4 =>
    cases j with
    | zero =>
      have := EqStr n n t t'
      rw [beq_self_eq_true] at this
      exact this
    | succ j => exact one_gives (T := T) h3 h4 j (by simpa using h1) (by simpa using h2)
theorem rise_of : ∀ (r : List Nat) (p : Nat), risingS (one p) (r.map one) = true → (p :: r).Pairwise (· ≤ ·)
  | [], p, _ => List.pairwise_singleton ..
  | x :: r, p, h => by
    rw [List.map_cons] at h
    unfold risingS at h
    rw [Bool.and_eq_true] at h
    have ih := rise_of r x h.2
    have hpx : p ≤ x := by
      have h1 := h.1
      rw [ltCps_eq] at h1
      rw [Bool.not_eq_true'] at h1
      have h2 : ¬ ([x] < [p]) := of_decide_eq_false h1
      refine Nat.le_of_not_lt fun hlt => h2 ?_
      exact List.Lex.rel hlt
    rw [List.pairwise_cons]
    refine ⟨fun a ha => ?_, ih⟩
    rcases List.mem_cons.mp ha with rfl | ha
    · exact hpx
    · exact Nat.le_trans hpx ((List.pairwise_cons.mp ih).1 a ha)
theorem sorted_of {T : List Nat} (h : sortedS (T.map one) = true) : T.Pairwise (· ≤ ·) := by
  cases T with
  | nil => exact .nil
  | cons p r => exact rise_of r p h
theorem perm_uniq : ∀ {a b : List Nat}, a.Perm b → a.Pairwise (· ≤ ·) → b.Pairwise (· ≤ ·) → a = b
  | [], _, p, _, _ => p.nil_eq
  | x :: r, b, p, ha, hb => by
    cases b with
    | nil => exact absurd p.length_eq (by simp)
    | cons y t =>
      have hx : x ∈ y :: t := p.mem_iff.mp (.head _)
      have hy : y ∈ x :: r := p.mem_iff.mpr (.head _)
      have e : x = y := by
        rcases List.mem_cons.mp hx with h | h
        · exact h
        · rcases List.mem_cons.mp hy with h' | h'
          · exact h'.symm
          · have a1 := (List.pairwise_cons.mp ha).1 y h'
            have a2 := (List.pairwise_cons.mp hb).1 x h
            omega
      subst e
      rw [perm_uniq (List.Perm.cons_inv p) (List.pairwise_cons.mp ha).2 (List.pairwise_cons.mp hb).2]
theorem cut48_sorted {n : Nat} (h : n < 12) : (cut48 0 n).Pairwise (· ≤ ·) := by
  exact lts12 (P := fun n => (cut48 0 n).Pairwise (· ≤ ·)) (by decide) (by decide) (by decide) (by decide) (by decide) (by decide) (by decide) (by decide) (by decide) (by decide) (by decide) (by decide) n h
theorem one_map {ss : List PySem.Str} {S : List Nat} (h : ss.Perm (S.map one)) : ∃ T : List Nat, ss = T.map one ∧ T.Perm S := by
  have un : ∀ l : List Nat, (l.map one).map (fun s => s.cps.toList.headD 0) = l := fun l => by
    rw [List.map_map]
    exact (List.map_congr_left fun c _ => rfl).trans (List.map_id l)
  refine ⟨ss.map fun s => s.cps.toList.headD 0, ?_, ?_⟩
  · rw [List.map_map]
    have : ∀ s ∈ ss, (one ∘ fun s : PySem.Str => s.cps.toList.headD 0) s = s := fun s hs => by
      obtain ⟨c, _, rfl⟩ := List.mem_map.mp (h.mem_iff.mp hs)
      rfl
    rw [List.map_congr_left this, List.map_id']
  · have := h.map fun s : PySem.Str => s.cps.toList.headD 0
    rwa [un] at this
noncomputable def sortQ (l ep : Nat) (vs : List Value) (av : (Nat → Nat) → List Value) : Raw Unit where
  code := .call (.builtin "list.sort") ⟨[.ref (l + 209)], []⟩
  ads := [l + 209]
  pre := [lsO vs ep]
  g := ()
  res := fun _ => ok .none
  post := fun y => [lsO (av y) (y 4)]
  news := fun _ => []
  gpost := fun _ => ()
section
variable {K : Gd Unit}
theorem sort_ok (hF : K.Fine) {l ep n : Nat} {vs : List Value} {S : List Nat} (hS : PyProof.Rows.StrsAre vs (S.map one)) (hp : S.Perm (cut48 0 n)) (hn : n < 12) : RawOk K (sortQ l ep vs fun y => L1 (cut48 0 n) y 60) := by
  refine ⟨rfl, fun A h gb d t R => ?_⟩
  have h0 : h.get? (l + 209) = some (seqObj "list" vs.toArray ep) := R.rd 0 _ _ rfl rfl
  have hlen : vs.length < 64 := by
    have := PyProof.Rows.StrsAre.length hS
    rw [List.length_map, hp.length_eq, cut48_len] at this
    omega
  have M : Meets (Builtin.«list.sort» ⟨[.ref (l + 209)], []⟩) (fun A R s => s = ⟨h, ⟨gb⟩, d, t + 1, K.os⟩ ∧ ∀ out ss', PyProof.Rows.StrsAre (out : Array Value).toList ss' → ss'.Perm (S.map one) → sortedS ss' = true → R (.ok (.ret .none)) { s with heap := sortedHeap h (l + 209) vs out }) := by
    refine Meets.of_wp fun prog w A R s hs => ?_
    obtain ⟨rfl, hr⟩ := hs
    refine list_sort_treeK strKind_oneLt h0 hS.keysOf (fun v₁ v₂ rest e => keyKind_strs (by rw [← e]; exact hS)) hlen fun st' hq hs' => ?_
    obtain ⟨ss', h1, h2, h3⟩ := sorted_out_str hS hq hs'
    exact ⟨_, rfl, hr _ ss' h1 h2 h3⟩
  refine call_m slot_list_sort entry_list_sort (args_list_sort _) M ⟨_, h0, rfl⟩ ⟨rfl, fun out ss' h1 h2 h3 => ?_⟩
  obtain ⟨T, rfl, hT⟩ := one_map h2
  have eT : T = cut48 0 n := perm_uniq (hT.trans hp) (sorted_of h3) (cut48_sorted hn)
  subst eT
  obtain ⟨f, hf⟩ := L1_ex h1
  obtain ⟨e, he⟩ := sortedHeap_at (out := out) h0
  have lt0 := Heap.lt_size h0
  have size : (sortedHeap h (l + 209) vs out).objs.size = h.objs.size + 2 := by
    unfold sortedHeap
    rw [Heap.size_update, size_push', size_push', Heap.size_update]
  have old : ∀ b o, b ≠ l + 209 → h.get? b = some o → (sortedHeap h (l + 209) vs out).get? b = some o := fun b o hb hg => by
    rw [sortedHeap_old hb (Heap.lt_size hg)]; exact hg
  have hsz : h.objs.size - 209 + 2 + 209 = h.objs.size + 2 := by have := R.big; omega
  let y : Nat → Nat := fun j => if j < 60 then (match j with | 0 => h.objs.size - 209 + 2 | 1 => t | 2 => gb.length | 4 => e | _ => 0) else f (j - 60)
  have ey : L1 (cut48 0 n) y 60 = out.toList := hf y 60 fun i => by show (if 60 + i < 60 then _ else f (60 + i - 60)) = _; rw [if_neg (by omega), Nat.add_sub_cancel_left]
  have nf : ¬ K.Foot () (l + 209) := (R.rdF (l + 209) (.head _)).1
  refine ⟨y, sortedHeap h (l + 209) vs out, gb, d, rfl, rfl, ?_, rfl, R.bare, fun i a o h1 h2 => ?_, rfl, (fun p hp => nomatch hp), List.nodup_nil, ?_, fun b f => .inl f, fun b o hb _ hn' => old b o (fun eb => hn' (eb ▸ .head _)) hb, ?_⟩
  · show h.objs.size - 209 + 2 + 209 = _
    rw [hsz, size]
  · cases i with
    | zero =>
      have h1' : some (l + 209) = some a := h1
      have h2' : some (lsO (L1 (cut48 0 n) y 60) e) = some o := h2
      injection h1' with h1'
      injection h2' with h2'
      rw [← h1', ← h2', ey]
      exact he
    | succ i => cases h1
  · refine hF.stable _ _ _ (fun b o f eb => old b o (fun e' => nf (e' ▸ f)) eb) R.gh
  · rw [size]; omega
end
end Sol
namespace Sol
open PySem PySem.Spec PySem.Calls PyProof.Rows PySem.W PySem.W.X
noncomputable def sortedQ (S : List Nat) (t : Nat) (av : (Nat → Nat) → List Value) : Raw Unit where
  code := .call (.builtin "sorted") ⟨[stV S t], []⟩
  ads := []
  pre := []
  g := ()
  res := fun y => ok (.ref (y 3 + 209))
  post := fun _ => []
  news := fun y => [(y 3 + 209, lsO (av y) (y 4))]
  gpost := fun _ => ()
noncomputable def VO (n : Nat) (f : Nat → Nat) (o : Option Obj) : List Value := (upto n 0).map fun i => .str ⟨#[f i]⟩ (etO o i + 1)
noncomputable def srtCon (n : Nat) (f : Nat → Nat) (t : Nat) (av : (Nat → Nat) → List Value) : List (Seen Unit → Con Unit) := [
  fun s => (siterQ ((upto n 0).map f) t).con [],
  fun s => (sortQ (rfA s.c 0) (epO (s.T.get 4)) (VO n f (s.T.get 4)) av).con [4]]
noncomputable def srtS : Nat → List Nat
  | 0 => [0, 2, 2, 2, 2, 2, 4, 1, 2]
  | n + 1 => [0, 2, 2, 2, 2, 2, 1, 1, 1, 2] ++ srtS n
noncomputable def SrtRun (E : Sol.Env) (n : Nat) : Prop := ∀ (f : Nat → Nat) (t : Nat) (av : (Nat → Nat) → List Value), RunX (E.cfg (conL (srtCon n f t av)) noCut) 400 (.call (.builtin "sorted") ⟨[stV ((upto n 0).map f) t], []⟩) [] [] () ([0, 1, 2, 2] ++ srtS n)
  (fun o X => (ok (.ref (refR o.r + 209)), [], [(refR o.r + 209, lsO (av (X 1)) (X 1 4))], ())) [4]
theorem srt_run {E : Sol.Env} (n : Nat) (h0 : 0 < n) (hn : n < 11) : SrtRun E n := by
  obtain ⟨p, w, kt, b1, b2, b3⟩ := E
  refine lts11 (P := fun n => 0 < n → SrtRun ⟨p, w, kt, b1, b2, b3⟩ n) (fun h => absurd h (Nat.lt_irrefl 0)) (fun _ => ?_) (fun _ => ?_) (fun _ => ?_) (fun _ => ?_) (fun _ => ?_) (fun _ => ?_) (fun _ => ?_) (fun _ => ?_) (fun _ => ?_) (fun _ => ?_) n hn h0 <;> (cases b1 <;> (intro f t av; exact RunX.of (by kernel_rfl)))
theorem L1_congr : ∀ (T : List Nat) {y y' : Nat → Nat} {j j' : Nat}, (∀ i, y (j + i) = y' (j' + i)) → L1 T y j = L1 T y' j'
  | [], _, _, _, _, _ => rfl
  | c :: T, y, y', j, j', h => by
    have h0 : y j = y' j' := h 0
    rw [L1, L1, h0, L1_congr T (y := y) (y' := y') (j := j + 1) (j' := j' + 1) (fun i => by rw [Nat.add_assoc, Nat.add_comm 1 i, h (i + 1)]; congr 1; omega)]
theorem map_are (f : Nat → Nat) (tk : Nat → Nat) : ∀ l : List Nat, PyProof.Rows.StrsAre (l.map fun i => Value.str ⟨#[f i]⟩ (tk i)) ((l.map f).map one)
  | [] => .nil
  | i :: l => .cons _ _ (map_are f tk l)
noncomputable def fS (a b : Nat) (h : Nat → Nat) (j : Nat) : Nat := if j < 57 then (match j with | 0 => a | 1 => b | _ => 0) else h (j - 57)
section
variable {K : Gd Unit} (hE : K.E.Ok) (hF : K.Fine) (hdm : K.Lim)
include hE hF hdm
theorem sorted_ok {S : List Nat} {t n : Nat} (hp : S.Perm (cut48 0 n)) (h0 : 0 < n) (hn : n < 11) : RawOk K (sortedQ S t fun y => L1 (cut48 0 n) y 60) := by
  have hU := Gd.up_fine hF
  have hl : S.length = n := by rw [hp.length_eq, cut48_len]
  have eS : (upto n 0).map (fun i => S.getD i 0) = S := by
    have := list_upto 0 S
    rwa [hl] at this
  have r := srt_run (E := K.E) n h0 hn (fun i => S.getD i 0) t (fun y => L1 (cut48 0 n) y 60)
  have T := RunX.toR hE hF hdm r ⟨fun s => ?_, fun s => ?_, trivial⟩
  · rw [eS] at T
    refine RawR.toOk (q := sortedQ S t fun y => L1 (cut48 0 n) y 60) T ?_
    rintro r ps nw g' ⟨o, X, rfl, rfl, rfl, -⟩
    refine ⟨fS (refR o.r) (X 1 4) fun i => X 1 (60 + i), fun y hy => ⟨?_, rfl, ?_, rfl⟩⟩
    · show ok (.ref (refR o.r + 209)) = ok (.ref (y 3 + 209)); rw [show y 3 = refR o.r from hy 0]
    · show [(refR o.r + 209, lsO (L1 (cut48 0 n) (X 1) 60) (X 1 4))] = [(y 3 + 209, lsO (L1 (cut48 0 n) y 60) (y 4))]
      rw [show y 3 = refR o.r from hy 0, show y 4 = X 1 4 from hy 1, L1_congr (cut48 0 n) (y := X 1) (y' := y) (j := 60) (j' := 60) fun i => by
        have := hy (57 + i)
        rw [show 57 + i + 3 = 60 + i by omega] at this
        rw [this]
        unfold fS
        rw [if_neg (by omega), Nat.add_sub_cancel_left]]
  · rw [eS]
    exact (siter_ok (K := K.up) hU fun x hx => cut48_lt (c := 0) (k := n) (by omega) x (hp.mem_iff.mp hx)).cg []
  · have a := map_are (fun i => S.getD i 0) (fun i => etO (s.T.get 4) i + 1) (upto n 0)
    rw [eS] at a
    exact (sort_ok (K := K.up) hU a hp (by omega)).cg [4]
end
end Sol
namespace Sol
open PySem PySem.Spec PySem.Calls PyProof.Rows PySem.W PySem.W.X
noncomputable def rangeO (a b c : Int) (t u v : Nat) : Obj := { cls := .type "range", data := .fields #[.int a (t + 1), .int b (u + 1), .int c (v + 1)] }
noncomputable def riterQ (r : Nat) (a b c : Int) (t u v : Nat) (n : Int) : Raw Unit where
  code := .call (.builtin "range.__iter__") ⟨[.ref (r + 209)], []⟩
  ads := [r + 209]
  pre := [rangeO a b c t u v]
  g := ()
  res := fun y => ok (.ref (y 3 + 209))
  post := fun _ => [rangeO a b c t u v]
  news := fun y => [(y 3 + 209, r3O a n c)]
  gpost := fun _ => ()
noncomputable def rangeQ (m : Int) (t : Nat) : Raw Unit where
  code := .call (.type "range") ⟨[.int m (t + 1)], []⟩
  ads := []
  pre := []
  g := ()
  res := fun y => ok (.ref (y 3 + 209))
  post := fun _ => []
  news := fun y => [(y 3 + 209, rangeO 0 m 1 (y 4) t (y 5))]
  gpost := fun _ => ()
noncomputable def rgX {Γ : Type} (o : Out Γ) (_ : XS) (N _ _ : Nat) (j : Nat) : Nat := match j with
  | 0 => refR o.r
  | 1 => ftO (o.T.get 0) 0
  | _ => ftO (o.T.get 0) 2
section
variable {E : Sol.Env}
noncomputable def riter_runP (E : Sol.Env) (n : Nat) : Prop := ∀ r t u v, RunQ (E.cfg noCon noCut) 60 (riterQ r 0 n 1 t u v n) [1, 1, 1, 1, 1, 1, 1, 1] nX [1]
theorem riter_run (n : Nat) (hn : n < 15) : ∀ r t u v, RunQ (E.cfg noCon noCut) 60 (riterQ r 0 n 1 t u v n) [1, 1, 1, 1, 1, 1, 1, 1] nX [1] := by
  refine lts15 (P := riter_runP E) ?_ ?_ ?_ ?_ ?_ ?_ ?_ ?_ ?_ ?_ ?_ ?_ ?_ ?_ ?_ n hn <;> (intro r t u v; exact RunQ.of (by kernel_rfl))
theorem riterD_run (s : Nat) (hs : 1 ≤ s ∧ s ≤ 4) : ∀ r t u v, RunQ (E.cfg noCon noCut) 60 (riterQ r s (-1) (-1) t u v ((s + 1 : Nat) : Int)) [1, 1, 1, 1, 1, 1, 1, 1] nX [1] := by
  have : s = 1 ∨ s = 2 ∨ s = 3 ∨ s = 4 := by omega
  rcases this with rfl | rfl | rfl | rfl <;> (intro r t u v N t' G sk X; kernel_rfl)
noncomputable def range_runP (E : Sol.Env) (n : Nat) : Prop := ∀ t, RunQ (E.cfg noCon noCut) 60 (rangeQ n t) [0, 1, 1, 0, 1, 1] rgX [0]
theorem range_run (n : Nat) (hn : n < 15) : ∀ t, RunQ (E.cfg noCon noCut) 60 (rangeQ n t) [0, 1, 1, 0, 1, 1] rgX [0] := by
  obtain ⟨p, w, kt, b1, b2, b3⟩ := E
  refine lts15 (P := range_runP ⟨p, w, kt, b1, b2, b3⟩) ?_ ?_ ?_ ?_ ?_ ?_ ?_ ?_ ?_ ?_ ?_ ?_ ?_ ?_ ?_ n hn <;> (cases b1 <;> (intro t; exact RunQ.of (by kernel_rfl)))
noncomputable def gss0_runP (E : Sol.Env) (b : Nat) : Prop := ∀ nt sl u, RunQ (E.cfg noCon noCut) 60 (gssQ digits nt sl .none (.int b (u + 1)) ((upto b 0).map fun i => 48 + 0 + i)) [1, 1, 1, 1, 1, 1] rX []
theorem gss0_run (b : Nat) (hb : b < 11) : ∀ nt sl u, RunQ (E.cfg noCon noCut) 60 (gssQ digits nt sl .none (.int b (u + 1)) ((upto b 0).map fun i => 48 + 0 + i)) [1, 1, 1, 1, 1, 1] rX [] := by
  refine lts11 (P := gss0_runP E) ?_ ?_ ?_ ?_ ?_ ?_ ?_ ?_ ?_ ?_ ?_ b hb <;> (intro nt sl u; exact RunQ.of (by kernel_rfl))
end
section
variable {K : Gd Unit} (hE : K.E.Ok) (hF : K.Fine) (hdm : K.Lim)
include hE hF hdm
theorem riter_ok {n r t u v : Nat} (hn : n < 15) : RawOk K (riterQ r 0 n 1 t u v n) := RunQ.ok0 hE hF hdm (riter_run n hn r t u v)
theorem riterD_ok {s r t u v : Nat} (hs : 1 ≤ s ∧ s ≤ 4) : RawOk K (riterQ r s (-1) (-1) t u v ((s + 1 : Nat) : Int)) := RunQ.ok0 hE hF hdm (riterD_run s hs r t u v)
theorem range_ok {n t : Nat} (hn : n < 15) : RawOk K (rangeQ n t) := RunQ.ok0 hE hF hdm (range_run n hn t)
theorem gss0_ok {n nt sl u : Nat} {d : Int} (hn : n < 11) (hd : d = n) : RawOk K (gssQ digits nt sl .none (.int d (u + 1)) (cut48 0 n)) := by
  subst hd
  exact RunQ.ok0 hE hF hdm (gss0_run n hn nt sl u)
end
section
variable {K : Gd Unit}
theorem lne_len {l ep m mep : Nat} {vs us : List Value} (hl : vs.length ≠ us.length) : RawOk K (leqQ "list.__ne__" l ep vs m mep us true) := by
  refine ⟨rfl, fun A h gb d t R => ?_⟩
  have h0 : h.get? (l + 209) = some (lsO vs ep) := R.rd 0 _ _ rfl rfl
  have h1 : h.get? (m + 209) = some (lsO us mep) := R.rd 1 _ _ rfl rfl
  have hs : h.objs.size - 209 + 209 = h.objs.size := by have := R.big; omega
  refine call_m PySem.F.slot_list_ne PySem.F.entry_list_ne (PySem.F.args_list_ne_2 _ _) (PySem.SeqAt.list_ne_lengthsAt (l + 209) (m + 209) vs.toArray us.toArray ep mep none none #[] #[] (by simpa using hl)) ⟨_, h0, rfl⟩ ⟨h0, h1, ?_⟩
  exact ⟨xsame (h.objs.size - 209) t gb.length fun _ => 0, h, gb, d, rfl, rfl, R.same rfl rfl rfl hs rfl rfl⟩
theorem lne_nil {l ep m mep : Nat} : RawOk K (leqQ "list.__ne__" l ep [] m mep [] false) := lne_ok (e := fun _ => true) rfl (fun j h1 _ => absurd h1 (Nat.not_lt_zero _)) rfl
theorem take10 (vs : List Value) : slicePick vs.toArray none (some 10) none = (vs.take 10).toArray := by
  unfold slicePick
  have hb : sliceBounds none (some 10) none vs.toArray.size = (0, ((min 10 vs.length : Nat) : Int), 1) := by
    unfold sliceBounds
    simp
    omega
  rw [hb]
  have hr : sliceRange 0 ((min 10 vs.length : Nat) : Int) 1 = (List.range (min 10 vs.length)) := by
    have := sliceRange_one 0 (min 10 vs.length)
    simpa using this
  simp only [hr]
  congr 1
  have : ∀ (n : Nat), n ≤ vs.length → (List.range n).filterMap (fun i => vs.toArray[i]?) = vs.take n := by
    intro n
    induction n with
    | zero => intro _; rfl
    | succ n ih =>
      intro hn
      rw [List.range_succ, List.filterMap_append, ih (by omega), List.take_add_one]
      congr 1
      simp [List.getElem?_eq_getElem (show n < vs.length by omega)]
  rw [this _ (Nat.min_le_right ..), ← List.take_eq_take_min]
theorem gsl10_ok (F : K.Fine) {l ep sl t : Nat} {vs : List Value} : RawOk K (gslQ l ep vs sl .none (.int 10 (t + 1)) (vs.take 10)) := by
  refine ⟨rfl, fun A h gb d tk R => ?_⟩
  have h0 : h.get? (l + 209) = some (lsO vs ep) := R.rd 0 _ _ rfl rfl
  have h1 : h.get? (sl + 209) = some (slO .none (.int 10 (t + 1))) := R.rd 1 _ _ rfl rfl
  have hs : h.objs.size - 209 + 209 = h.objs.size := by have := R.big; omega
  have hl : h.IsList (l + 209) vs.toArray := ⟨_, h0, rfl, ep, rfl⟩
  have M : Meets (Builtin.«list.__getitem__» ⟨[.ref (l + 209), .ref (sl + 209)], []⟩) (fun A R s => s = ⟨h, ⟨gb⟩, d, tk + 1, K.os⟩ ∧ R (.ok (.ret (.ref h.objs.size))) { s with heap := h.push { cls := .type "list", data := .seq (slicePick vs.toArray none (some 10) none) } }) := by
    refine Meets.of_wp fun prog w A R s hs => ?_
    obtain ⟨rfl, hr⟩ := hs
    have hTs : (⟨h, ⟨gb⟩, d, tk + 1, K.os⟩ : Shared).TypeIs (.ref (sl + 209)) "slice" := ⟨_, h1, rfl⟩
    show wpAny _ _ (Builtin.List.listSubscript? (.ref (sl + 209)) >>= _) _ _ _
    refine wpAny_bind ?_
    unfold Builtin.List.listSubscript?
    refine wpAny_bind (wpAny_specialOf hTs slice_no_index ?_)
    simp only [Option.isNone_none, if_true]
    refine wpAny_pure ?_
    show wpAny _ _ (typeOf (.ref (sl + 209)) >>= _) _ _ _
    refine wpAny_bind (wpAny_typeOf hTs ?_)
    rw [if_neg (by decide)]
    rw [listSliceParts_eq]
    refine wpAny_bind (wpAny_bind (wpAny_field h1 rfl (x := .none) rfl (wpAny_bind (wpAny_listPart .none ?_))))
    rw [if_neg (by decide)]
    refine wpAny_bind (wpAny_field h1 rfl (x := .none) rfl (wpAny_bind (wpAny_listPart .none ?_)))
    refine wpAny_bind (wpAny_field h1 rfl (x := .int 10 (t + 1)) rfl (wpAny_bind (wpAny_listPart (.int ..) (wpAny_pure ?_))))
    refine wpAny_bind (m := Builtin.List.listItems (.ref (l + 209))) ?_
    unfold Builtin.List.listItems
    refine wpAny_bind (wpAny_seqItems h0 rfl (wpAny_pure ?_))
    refine wpAny_bind (wpAny_of_eq (sliceIndices_raw none (some 10) none vs.toArray.size (by simp)) ?_)
    refine wpAny_bind (wpAny_newObj_type (wpAny_pure ⟨_, rfl, hr⟩) ?_)
    have := take10 vs
    unfold slicePick at this
    rw [this]
    show (vs.take 10).toArray.size ≤ sizeLine
    rw [List.size_toArray]
    exact Nat.le_trans (List.length_take_le _ _) (by decide)
  refine call_m slot_list_getitem entry_list_getitem (args_list_getitem _ _) M ⟨_, h0, rfl⟩ ⟨rfl, ?_⟩
  rw [take10]
  refine ⟨xsame (h.objs.size - 209 + 1) tk gb.length fun _ => h.objs.size - 209, _, gb, d, rfl, ?_, ?_⟩
  · show ok (.ref h.objs.size) = ok (.ref (h.objs.size - 209 + 209)); rw [hs]
  · refine R.pushed F rfl rfl rfl ?_ rfl rfl ?_
    · show [(h.objs.size - 209 + 209, lsO (vs.take 10) 0)] = [(h.objs.size, _)]; rw [hs]; rfl
    · show h.objs.size - 209 + 1 + 209 = h.objs.size + 1; omega
end
end Sol
namespace Sol
open PySem PySem.Spec PySem.Calls PyProof.Rows PySem.W PySem.W.X
noncomputable def lawPre : List Nat := [0, 0, 3, 3, 0, 7, 7, 7, 0, 7, 8, 8, 0, 8, 8, 8, 7, 8, 8, 8, 0, 8, 8, 8, 7, 8, 8, 8, 0, 8, 8, 8, 7, 8, 8, 8, 0, 8, 8, 8, 7, 8, 8, 10, 3, 3, 4, 4, 3, 3, 3, 1, 11, 1, 1, 3, 1, 1, 1, 2, 13, 13, 0, 13, 14, 3, 0, 0, 0, 0, 0, 0, 15, 15, 0, 15, 15, 15, 15, 4, 16, 5, 18, 18, 18, 0, 17, 17, 0, 17, 19, 20, 19, 0, 19, 19, 19, 17, 19, 19, 20, 20, 20, 20, 19, 0, 19, 19, 19, 17, 19, 19]
noncomputable def lawSeg : List Nat := [0, 20, 20, 20, 20, 19, 0, 19, 19, 19, 17, 19, 19]
noncomputable def lawPost : List Nat := [22, 20, 20, 20, 3, 3, 5, 5, 0, 0, 0, 3, 0, 0, 0, 0, 23, 23, 0, 23, 23, 23, 23, 6, 24, 7, 26, 26, 26, 8, 0, 9, 3, 3, 0, 3, 3, 0, 0, 10, 28, 28, 28, 0, 28, 29, 29, 0, 29, 29, 29, 28, 29, 29, 29, 0, 29, 29, 29, 28, 29, 29, 29, 0, 29, 29, 29, 28, 29, 29, 31, 3, 3, 3, 3, 11, 3, 27, 27, 27, 27, 3, 12, 3, 3, 0, 3, 3, 0, 13, 3, 3, 3, 33, 34, 33, 14, 0, 0, 0, 0, 3, 15, 0, 16, 35, 35, 17, 36, 18, 0, 0, 3, 32, 32, 0, 32, 37, 19, 39, 39, 39, 20, 21, 0, 0, 3, 4, 22, 23, 40, 42, 40, 24]
noncomputable def lawE : List Nat := [0, 0, 3, 3, 0, 7, 7, 7, 0, 7, 8, 8, 0, 8, 8, 8, 7, 8, 8, 8, 0, 8, 8, 8, 7, 8, 8, 8, 0, 8, 8, 8, 7, 8, 8, 8, 0, 8, 8, 8, 7, 8, 8, 10, 3, 3, 4, 4, 3, 3, 3, 1, 11, 1, 1, 12, 12, 0, 12, 13, 2, 0, 0, 0, 0, 0, 0, 14, 14, 0, 14, 14, 14, 14, 3, 15, 4, 17, 17, 17, 0, 16, 16, 0, 16, 18, 19, 18, 0, 18, 18, 18, 16, 18, 18, 19, 19, 19, 19, 18, 0, 18, 18, 18, 16, 18, 18, 0, 19, 19, 19, 19, 18, 0, 18, 18, 18, 16, 18, 18, 0, 19, 19, 19, 19, 18, 0, 18, 18, 18, 16, 18, 18, 0, 19, 19, 19, 19, 18, 0, 18, 18, 18, 16, 18, 18, 21, 19, 19, 19, 3, 3, 5, 5, 0, 0, 0, 3, 0, 0, 0, 0, 22, 22, 0, 22, 22, 22, 22, 5, 23, 6, 25, 25, 25, 7, 0, 8, 3, 3, 0, 3, 3, 0, 0, 9, 27, 27, 27, 0, 27, 28, 28, 0, 28, 28, 28, 27, 28, 28, 28, 0, 28, 28, 28, 27, 28, 28, 28, 0, 28, 28, 28, 27, 28, 28, 30, 3, 3, 3, 3, 10, 3, 26, 26, 26, 26, 3, 11, 3, 3, 0, 3, 3, 0, 12, 3, 3, 3, 32, 33, 32, 13, 0, 0, 0, 0, 3, 14, 0, 15, 34, 34, 16, 35, 17, 0, 0, 3, 31, 31, 0, 31, 36, 18, 38, 38, 38, 19, 20, 0, 0, 3, 4, 21, 22, 39, 41, 39, 23]
noncomputable def lawMid : Nat → List Nat
  | 0 => lawPost
  | s + 1 => lawSeg ++ lawMid s
noncomputable def lawS (e : Bool) (s : Nat) : List Nat := match e with
  | true => lawPre ++ lawMid s
  | false => lawE
noncomputable def cellsA : List (PySem.Str × Nat) → Nat → Nat
  | [], _ => 0
  | p :: l, i => match i with
    | 0 => p.2 - 209
    | i + 1 => cellsA l i
noncomputable def cellA (c : Code) (i : Nat) : Nat := match c with
  | .forLoop _ _ _ _ env => cellsA env.cells i
  | .whileLoop _ _ _ env => cellsA env.cells i
  | .compStart _ _ _ _ env => cellsA env.cells i
  | _ => 0
noncomputable def ti (e : Bool) (k : Nat) : Nat := match e with
  | true => k
  | false => k - 1
noncomputable def lawZ (sc : Nat) (s : Seen OL) (x2 : Nat → Nat) : Lf := { f := fA s.c, cl := cellA s.c 0, cc := cellA s.c 1, scr := sc, ep := epO (s.T.get 2), k := ktO (s.T.get 2), nt := vtO (s.T.get 2) 2, x := dI (x2 12), xt := vtO (s.T.get 2) 3, be := dI (x2 14), bt := vtO (s.T.get 2) 4, pv := x2 16, cv := x2 17, ct := vtO (s.T.get 2) 6 }
noncomputable def lawU (st : Nat) (row : List Nat) (s : Seen OL) : Lt := { st := st, stt := vtO (s.T.get 2) 7, ex := trR (trT st), ext := vtO (s.T.get 2) 8, row := row, rt := vtO (s.T.get 2) 9, rows := vrO (s.T.get 2) 10 }
noncomputable def lawC1 (s : Seen OL) (i j : Nat) : C1 := { lc := fA s.c, it := cIt s.c, acc := cAcc s.c, cc := cellA s.c 0, fr := cFr s.c, dep := epO (s.T.get i), aep := epO (s.T.get j) }
noncomputable def lawRc (s : Seen OL) (i j : Nat) (l lep : Nat) (vs : List Value) : Rc := { lc := fA s.c, it := cIt s.c, acc := cAcc s.c, l := l, fr := cFr s.c, dep := epO (s.T.get i), aep := epO (s.T.get j), lep := lep, k := 0, b := false, pv := 0, av := [], vs := vs, i := 0 }
structure Lw where
  sc : Nat
  sep : Nat
  vs : List Value
  us : List Value
  n : Nat
  av1 : (Nat → Nat) → List Value
  g0 : OL
  g1 : (Nat → Nat) → OL
  S0 : List Nat
  g2 : (Nat → Nat) → Nat → OL
  rows : List (List Nat)
  row : List Nat
  av3 : (Nat → Nat) → List Value
  g3 : (Nat → Nat) → OL
  j : Nat
  C : List (List Nat)
  g4 : (Nat → Nat) → Nat → OL
  av5 : (Nat → Nat) → List Value
noncomputable def Lw.xs (q : Lw) (e : Bool) (s : Seen OL) : List Value := match e with
  | true => q.us
  | false => [.int 3 (etO (s.T.get 11) 0 + 1), .int 3 (etO (s.T.get 11) 1 + 1)]
noncomputable def lawHd (E : Sol.Env) (e : Bool) (q : Lw) : List (Seen OL → Con OL) := match e with
  | true => [
    fun s => ((leqQ "list.__ne__" (rfA s.c 0) q.sep q.vs (rfA s.c 1) (epO (s.T.get 10)) [] true).at s.g).con [0, 10],
    fun s => ((gslQ (rfA s.c 0) q.sep q.vs (rfA s.c 1) .none (.int 10 (ftO (s.T.get 11) 1 + 1)) q.us).at s.g).con [0, 11]]
  | false => [fun s => ((leqQ "list.__ne__" (rfA s.c 0) q.sep q.vs (rfA s.c 1) (epO (s.T.get 10)) [] false).at s.g).con [0, 10]]
noncomputable def lawCon (E : Sol.Env) (e : Bool) (st : Nat) (q : Lw) : List (Seen OL → Con OL) := lawHd E e q ++ [
  fun s => (foQ E (lawZ q.sc s fun _ => 0) (cItF s.c) (fldR (s.T.get (ti e 13)) 0) (epO (s.T.get (ti e 12))) (q.xs e s) (vrO (s.T.get 2) 1) (epO (s.T.get 5)) (clT (s.T.get 3)) q.g0 q.n q.av1 q.g1).con [2, ti e 13, ti e 12, 5, 3],
  fun s => ((riterQ (rfA s.c 0) 0 5 1 (ftO (s.T.get (ti e 14)) 0) (ftO (s.T.get (ti e 14)) 1) (ftO (s.T.get (ti e 14)) 2) 5).at s.g).con [ti e 14],
  fun s => ((c1Q E (lawC1 s (ti e 17) (ti e 16)) q.n (clT (s.T.get 3)) st).at s.g).con [ti e 17, ti e 16, ti e 15, 3],
  fun s => ((riterQ (rfA s.c 0) st (-1) (-1) (ftO (s.T.get (ti e 22)) 0) (ftO (s.T.get (ti e 22)) 1) (ftO (s.T.get (ti e 22)) 2) ((st + 1 : Nat) : Int)).at s.g).con [ti e 22],
  fun s => ((c2Q E (lawC1 s (ti e 25) (ti e 24)) (clT (s.T.get 4)) st).at s.g).con [ti e 25, ti e 24, ti e 23, 4],
  fun s => ((joinQ (tkA s.c 0 - 1) (rfA s.c 1) (epO (s.T.get (ti e 24))) (ssY (st + 1) 0 (hd1 s.l)) (trT st)).at s.g).con [ti e 24],
  fun s => ((trQ (trT st) (tkA s.c 0 - 1)).at s.g).con [1],
  fun s => (rowQ (rfA s.c 0) (nthU s.l 6 19) (q.av1 (nthU s.l 6)) ((st : Int) + 1) (tkA s.c 1 - 1) (q.g1 (nthU s.l 6)) q.S0 (q.g2 (nthU s.l 6))).con [5],
  fun s => (lwQ E (lawZ q.sc s (nthU s.l 7)) (lawU st q.S0 s) (vrO (s.T.get 2) 1) (nthU s.l 7 19) (q.av1 (nthU s.l 7)) (epO (s.T.get (ti e 26))) (q.g2 (nthU s.l 7) (hd1 s.l 4)) q.rows q.row q.av3 q.g3).con [2, ti e 26, 5],
  fun s => ((indexQ (rfA s.c 0) (hd1 s.l 26) (LS q.rows (odY (hd1 s.l)) 0) (stV q.row (tkA s.c 1 - 1)) q.j).at s.g).con [ti e 26],
  fun s => ((marksQ st (tkA s.c 0 - 1) q.row (tkA s.c 1 - 1)).at s.g).con [],
  fun s => ((leqQ "list.__eq__" (rfA s.c 0) (epO (s.T.get (ti e 32))) ((LY (marksF st q.row) (hd1 s.l) 60).map iv) (rfA s.c 1) (epO (s.T.get (ti e 33))) [] false).at s.g).con [ti e 32, ti e 33],
  fun s => ((llenN "len" (rfA s.c 0) (nthU s.l 3 26) (LS q.rows (odY (nthU s.l 3)) 0) q.rows.length).at s.g).con [ti e 26],
  fun s => ((rangeQ ((q.rows.length : Int) + 1) (tkA s.c 0 - 1)).at s.g).con [],
  fun s => ((riterQ (rfA s.c 0) 0 ((q.rows.length : Int) + 1) 1 (ftO (s.T.get (ti e 34)) 0) (ftO (s.T.get (ti e 34)) 1) (ftO (s.T.get (ti e 34)) 2) ((q.rows.length : Int) + 1)).at s.g).con [ti e 34],
  fun s => (fkQ E (lawZ q.sc s (nthU s.l 14)) (cItF s.c) (lawU st q.row s) (vrO (s.T.get 2) 1) ⟨q.j, vtO (s.T.get 2) 11, false, 0, 0⟩ (vrO (s.T.get 2) 12) (epO (s.T.get (ti e 32))) ((LY (marksF st q.row) (nthU s.l 4) 60).map iv) (nthU s.l 6 26) (LS q.rows (odY (nthU s.l 6)) 0) q.rows.length (q.g3 (nthU s.l 6))).con [2, ti e 35, ti e 26, ti e 32],
  fun s => (scSQ E (lawRc s (ti e 38) (ti e 37) (nthU s.l 7 4) (nthU s.l 7 5) (q.av3 (nthU s.l 7))) q.C q.C.length (q.g3 (nthU s.l 7)) (q.g4 (nthU s.l 7))).con [ti e 38, ti e 37, ti e 36, ti e 31],
  fun s => ((joinQ (tkA s.c 0 - 1) (rfA s.c 1) (hd1 s.l 8) (LS q.C (hd1 s.l) 60) q.C.flatten).at s.g).con [ti e 37],
  fun s => ((sortedQ q.C.flatten (tkA s.c 0 - 1) q.av5).at s.g).con [],
  fun s => ((gssQ digits (tkA s.c 0 - 1) (rfA s.c 1) .none (.int q.n (ftO (s.T.get (ti e 40)) 1 + 1)) (cut48 0 q.n)).at s.g).con [ti e 40],
  fun s => ((sortedQ (cut48 0 q.n) (tkA s.c 0 - 1) q.av5).at s.g).con [],
  fun s => ((leqQ "list.__eq__" (rfA s.c 0) (nthU s.l 2 4) (q.av5 (nthU s.l 2)) (rfA s.c 1) (nthU s.l 0 4) (q.av5 (nthU s.l 0)) true).at s.g).con [ti e 39, ti e 41]]
noncomputable def LawRun (E : Sol.Env) (e : Bool) (st : Nat) : Prop := ∀ (q : Lw), RunX (E.cfg (conL (lawCon E e st q)) noCut) 800 (.call (.ref 208) ⟨[.ref (q.sc + 209)], []⟩) [q.sc + 209, 148] [lsO q.vs q.sep, tabO []] q.g0 (lawS e st)
  (fun o X => (ok (.bool true), [lsO q.vs q.sep, tabO [.int 99 0, .int 39 0, .ref (X (ti e 8) 4 + 209)]], [], q.g4 (X (ti e 10)) (X (ti e 18) 4))) []
end Sol
namespace Sol
open PySem PySem.Spec PySem.Calls PyProof.Rows PySem.W PySem.W.X
structure LawRuns (E : Sol.Env) : Prop where
  fo : FoRuns E
  c1 : ∀ n, 1 ≤ n ∧ n ≤ 10 → C1Run E n (stpF n)
  c2 : ∀ s, 1 ≤ s ∧ s ≤ 4 → C2Run E s
  tr : ∀ s, 1 ≤ s ∧ s ≤ 4 → TrRun E s
  lw : LwRuns E
  fk : FkRuns E
  sc : ScRuns E
  law : ∀ s, 1 ≤ s ∧ s ≤ 4 → LawRun E true s
  lawE : LawRun E false 3
noncomputable def rowsF (st : Nat) (C0 : List (List Nat)) : List (List Nat) := (loopF st 15 [] C0).1
noncomputable def endF (st : Nat) (C0 : List (List Nat)) : List (List Nat) := (loopF st 15 [] C0).2
noncomputable def rowF' (st : Nat) (C0 : List (List Nat)) : List Nat := rowS st ((endF st C0).map List.length)
structure Plain (st n : Nat) (C0 : List (List Nat)) (j : Nat) : Prop where
  n1 : 1 ≤ n
  n10 : n ≤ 10
  s1 : 1 ≤ st
  s4 : st ≤ 4
  stn : stpF n = st
  sz : OkSz (C0.map List.length)
  lo : loopOk st 15 [] (C0.map List.length) = true
  len : (rowsF st C0).length < 14
  ok : ∀ R ∈ rowsF st C0 ++ [rowF' st C0], okRow st R
  jl : j < (rowsF st C0).length
  hit : (rowsF st C0)[j]? = some (rowF' st C0)
  no : ∀ m, m < j → (rowsF st C0)[m]? ≠ some (rowF' st C0)
  due : (marksF st (rowF' st C0)).length = st + 1
  ch : chk st j 0 (marksF st (rowF' st C0)) (rowsF st C0 ++ [rowF' st C0]) = true
  szC : OkSz ((endF st C0).map List.length)
  pm : (endF st C0).flatten.Perm (cut48 0 n)
theorem StrsAre.at : ∀ {l : List Value} {m : List (List Nat)} (a : List Nat), StrsAre l m → ∀ (i : Nat) (h : i < l.length), eqS a l[i] = decide (m[i]? = some a)
  | [], _, _, _, i, h => absurd h (Nat.not_lt_zero _)
  | v :: l, s :: m, a, h, 0, _ => by
    obtain ⟨⟨t, rfl⟩, _⟩ := h
    show ((⟨s.toArray⟩ : PySem.Str) == ⟨a.toArray⟩) = _
    rw [str_beq]
    simp
  | v :: l, s :: m, a, h, i + 1, hi => by
    have := StrsAre.at (l := l) (m := m) a h.2 i (by simpa using hi)
    simpa using this
  | _ :: _, [], _, h, _, _ => h.elim
noncomputable def brs (k : Nat) : List (List Nat) := match k with
  | 0 => []
  | k + 1 => brS k :: brs k
theorem ssY_are : ∀ (k i : Nat) (y : Nat → Nat), StrsAre (ssY k i y) (brs k)
  | 0, _, _ => trivial
  | k + 1, i, y => ⟨⟨y (10 + i), rfl⟩, ssY_are k (i + 1) y⟩
theorem brs_flat {s : Nat} (hs : 1 ≤ s ∧ s ≤ 4) : (brs (s + 1)).flatten = trT s ∧ ((brs (s + 1)).map List.length).sum < 100 := by
  have : s = 1 ∨ s = 2 ∨ s = 3 ∨ s = 4 := by omega
  rcases this with rfl | rfl | rfl | rfl <;> decide
noncomputable def lawL (sc sep : Nat) (vs us : List Value) (st n : Nat) (C0 : List (List Nat)) (j : Nat) (t80 t87 : Option Nat) : Lw where
  sc := sc
  sep := sep
  vs := vs
  us := us
  n := n
  av1 := fun y => (decPs C0 y 60).map refP
  g0 := gA [] t80 t87
  g1 := fun y => gA (decPs C0 y 60) t80 t87
  S0 := rowS st (C0.map List.length)
  g2 := fun y a => gA (decPs C0 y 60) (oN a) t87
  rows := rowsF st C0
  row := rowF' st C0
  av3 := fun y => (psW (endF st C0) y).map refP
  g3 := fun y => gA (psW (endF st C0) y) (oN (y 6)) t87
  j := j
  C := endF st C0
  g4 := fun y a => gA (psW (endF st C0) y) (oN (y 6)) (oN a)
  av5 := fun y => L1 (cut48 0 n) y 60
section
variable {E : Sol.Env} {os : OsState} {dm um : Nat} (hE : E.Ok) (hdm : (gK E os dm um).up.up.up.up.up.up.Lim)
include hE hdm
theorem law_tail (R : LawRuns E) {e : Bool} {sc sep st n j : Nat} {vs us : List Value} {C0 : List (List Nat)} {t80 t87 : Option Nat} (P : Plain st n C0 j)
    (hfo : ∀ s : Seen OL, CG (gK E os dm um).up ((foQ E (lawZ sc s fun _ => 0) (cItF s.c) (fldR (s.T.get (ti e 13)) 0) (epO (s.T.get (ti e 12))) ((lawL sc sep vs us st n C0 j t80 t87).xs e s) (vrO (s.T.get 2) 1) (epO (s.T.get 5)) (clT (s.T.get 3)) (gA [] t80 t87) n (fun y => (decPs C0 y 60).map refP) (fun y => gA (decPs C0 y 60) t80 t87)).con [2, ti e 13, ti e 12, 5, 3]))
    (hhd : AllCon (gK E os dm um).up (lawHd E e (lawL sc sep vs us st n C0 j t80 t87))) : AllCon (gK E os dm um).up (lawCon E e st (lawL sc sep vs us st n C0 j t80 t87)) := by
  have hs : 1 ≤ st ∧ st ≤ 4 := ⟨P.s1, P.s4⟩
  have hFU := gK_fine E os (dm + 95) (um + 270)
  have hU := Gd.unit_fine (gK E os dm um).up
  have hd5 := Gd.up_lim hdm
  have hd4 := Gd.up_lim hd5
  have hd3 := Gd.up_lim hd4
  have hd2 := Gd.up_lim hd3
  have hdA := Gd.up_lim hd2
  have hdU : (gK E os dm um).up.unit.Lim := ⟨hdA.dep, hdA.uni⟩
  have hdU2 : (gK E os dm um).up.unit.up.up.Lim := ⟨hd3.dep, hd3.uni⟩
  have szP : ∀ y, sz (decPs C0 y 60) = C0.map List.length := fun y => by rw [sz_chL, decPs_ch]
  have okP : ∀ y, OkSz (sz (decPs C0 y 60)) := fun y => by rw [szP]; exact P.sz
  have chE : ∀ y, chL (psW (endF st C0) y) = endF st C0 := fun y => decPs_ch _ _ _
  have okE : ∀ y, OkSz (sz (psW (endF st C0) y)) := fun y => by rw [sz_chL, chE]; exact P.szC
  have lenE : ∀ y, (psW (endF st C0) y).length = (endF st C0).length := fun y => by rw [← sz_len, sz_chL, chE, List.length_map]
  have lsR : ∀ y, (LS (rowsF st C0) (odY y) 0).length = (rowsF st C0).length := fun y => (LS_are _ _ _).len
  have app : ∀ {l2 : List (Seen OL → Con OL)}, AllCon (gK E os dm um).up l2 → AllCon (gK E os dm um).up (lawHd E e (lawL sc sep vs us st n C0 j t80 t87) ++ l2) := by
    intro l2 h2
    cases e with
    | true => exact ⟨hhd.1, hhd.2.1, h2⟩
    | false => exact ⟨hhd.1, h2⟩
  refine app ⟨hfo, fun s => ?_, fun s => ?_, fun s => ?_, fun s => ?_, fun s => ?_, fun s => ?_, fun s => ?_, fun s => ?_, fun s => ?_, fun s => ?_, fun s => ?_, fun s => ?_, fun s => ?_, fun s => ?_, fun s => ?_, fun s => ?_, fun s => ?_, fun s => ?_, fun s => ?_, fun s => ?_, fun s => ?_, trivial⟩
  · exact lift_cg hFU (riter_ok (K := (gK E os dm um).up.unit) hE hU hdU (n := 5) (by decide)) s.g _ (by cases e <;> decide)
  · have r := R.c1 n ⟨P.n1, P.n10⟩
    rw [P.stn] at r
    exact lift_cg hFU (RunQ.ok0 (K := (gK E os dm um).up.unit) hE hU hdU (r _ _)) s.g _ (by cases e <;> decide)
  · exact lift_cg hFU (riterD_ok (K := (gK E os dm um).up.unit) hE hU hdU hs) s.g _ (by cases e <;> decide)
  · exact lift_cg hFU (RunQ.ok0 (K := (gK E os dm um).up.unit) hE hU hdU (R.c2 st hs _ _)) s.g _ (by cases e <;> decide)
  · have := join_ok (K := (gK E os dm um).up.unit) (t := tkA s.c 0 - 1) (l := rfA s.c 1) (ep := epO (s.T.get (ti e 24))) (ssY_are (st + 1) 0 (hd1 s.l)) (brs_flat hs).2
    rw [(brs_flat hs).1] at this
    exact lift_cg hFU this s.g _ (by cases e <;> decide)
  · exact lift_cg hFU (RunQ.ok0 (K := (gK E os dm um).up.unit) hE hU hdU (R.tr st hs _)) s.g _
  · obtain ⟨k1, k2, k3⟩ := (okP (nthU s.l 6)).piles
    have := row_ok (os := os) (dm := dm + 95) (um := um + 270) hE hd5 R.lw.row (ps := decPs C0 (nthU s.l 6) 60) (t80 := t80) (t87 := t87) (fun q hq => (k1 q hq).1) k2 k3 (l := rfA s.c 0) (lep := nthU s.l 6 19) (t := tkA s.c 1 - 1) (size := (st : Int) + 1) (by omega) (by omega)
    have e : rowL (negL (decPs C0 (nthU s.l 6) 60)) ++ List.replicate ((st : Int) + 1 - (decPs C0 (nthU s.l 6) 60).length).toNat 97 = rowS st (C0.map List.length) := by
      rw [← szP (nthU s.l 6)]
      unfold rowS; rw [negL_sz, sz_len]
    rw [e] at this
    exact this.cg [5]
  · have := lwQ_ok (os := os) (dm := dm + 95) (um := um + 270) hE hdm R.lw (st := st) (by omega) (t80 := oN (hd1 s.l 4)) (t87 := t87) (ps := decPs C0 (nthU s.l 7) 60) (z := lawZ sc s (nthU s.l 7)) (u := lawU st (rowS st (C0.map List.length)) s) (l := vrO (s.T.get 2) 1) (lep := nthU s.l 7 19) (rep := epO (s.T.get (ti e 26))) (fuel := 15) (by rw [szP]; exact P.lo) (by rw [szP]; rfl) rfl (okP _)
    rw [decPs_ch] at this
    exact this.cg _ (by cases e <;> decide)
  · have hl := lsR (hd1 s.l)
    have ar := LS_are (rowsF st C0) (odY (hd1 s.l)) 0
    refine lift_cg hFU (index_ok (K := (gK E os dm um).up.unit) (e := eqS (rowF' st C0)) (ar.gives _ _) (by rw [hl]; exact P.jl) (by rw [hl]; have := P.len; omega) ?_ fun m hm hj => ?_) s.g _ (by cases e <;> decide)
    · rw [ar.at]
      exact decide_eq_true P.hit
    · rw [ar.at]
      exact decide_eq_false (P.no m hj)
  · have hR := P.ok (rowF' st C0) (List.mem_append_right _ (.head _))
    exact lift_cg hFU (marks_ok (K := (gK E os dm um).up.unit) hE hU hdU2 R.fk.rm hs hR.1 hR.2.1 hR.2.2) s.g []
  · exact lift_cg hFU (leq_ok' (K := (gK E os dm um).up.unit) (vs := (LY (marksF st (rowF' st C0)) (hd1 s.l) 60).map iv) (us := []) (by rw [List.length_map, LY_len, P.due]; simp)) s.g _ (by cases e <;> decide)
  · have := len_okW (K := (gK E os dm um).up.unit) hE hU hdU (h := rfA s.c 0) (ep := nthU s.l 3 26) (vs := LS (rowsF st C0) (odY (nthU s.l 3)) 0) (by rw [lsR]; have := P.len; omega)
    rw [← llenN_eq (n := (rowsF st C0).length) (lsR _)] at this
    exact lift_cg hFU this s.g _ (by cases e <;> decide)
  · exact lift_cg hFU (range_ok (K := (gK E os dm um).up.unit) hE hU hdU (n := (rowsF st C0).length + 1) (by have := P.len; omega)) s.g []
  · exact lift_cg hFU (riter_ok (K := (gK E os dm um).up.unit) hE hU hdU (n := (rowsF st C0).length + 1) (by have := P.len; omega)) s.g _ (by cases e <;> decide)
  · have hl := lsR (nthU s.l 6)
    have := fkQ_ok (os := os) (dm := dm + 95) (um := um + 270) hE hd4 R.fk hs (Rs := rowsF st C0) (row := rowF' st C0) (rv := LS (rowsF st C0) (odY (nthU s.l 6)) 0) (rep := nthU s.l 6 26) (it := cItF s.c) (l := vrO (s.T.get 2) 1) (first := j) (d0 := vrO (s.T.get 2) 12) (d0e := epO (s.T.get (ti e 32))) (D0 := (LY (marksF st (rowF' st C0)) (nthU s.l 4) 60).map iv) (D := marksF st (rowF' st C0))
      (g := gA (psW (endF st C0) (nthU s.l 6)) (oN (nthU s.l 6 6)) t87) (z := lawZ sc s (nthU s.l 14)) (u := lawU st (rowF' st C0) s) (v := ⟨j, vtO (s.T.get 2) 11, false, 0, 0⟩) (LS_are _ _ _) P.len P.ok (Nat.le_of_lt P.jl) rfl rfl rfl (LY_ints _ _ _) P.due P.ch
    exact this.cg _ (by cases e <;> decide)
  · have h12 : (psW (endF st C0) (nthU s.l 7)).length < 12 := by have := (okE (nthU s.l 7)).len; rw [sz_len] at this; omega
    obtain ⟨k1, k2, k3⟩ := (okE (nthU s.l 7)).piles
    have := scS_ok (os := os) (dm := dm + 95) (um := um + 270) hE hd3 R.sc (ps := psW (endF st C0) (nthU s.l 7)) (t80 := oN (nthU s.l 7 6)) (t87 := t87) (fun q hq => (k1 q hq).1) h12 k3 (z := lawRc s (ti e 38) (ti e 37) (nthU s.l 7 4) (nthU s.l 7 5) ((psW (endF st C0) (nthU s.l 7)).map refP)) rfl
    rw [chE, lenE] at this
    exact this.cg _ (by cases e <;> decide)
  · refine lift_cg hFU (join_ok (K := (gK E os dm um).up.unit) (LS_are (endF st C0) (hd1 s.l) 60) ?_) s.g _ (by cases e <;> decide)
    have := P.szC.sum
    omega
  · exact lift_cg hFU (sorted_ok (K := (gK E os dm um).up.unit) hE hU hdU P.pm (by have := P.n1; omega) (by have := P.n10; omega)) s.g []
  · exact lift_cg hFU (gss0_ok (K := (gK E os dm um).up.unit) hE hU hdU (n := n) (by have := P.n10; omega) rfl) s.g _ (by cases e <;> decide)
  · exact lift_cg hFU (sorted_ok (K := (gK E os dm um).up.unit) hE hU hdU (n := n) (.refl _) (by have := P.n1; omega) (by have := P.n10; omega)) s.g []
  · have a := L1_are (cut48 0 n) (nthU s.l 2) 60
    have b := L1_are (cut48 0 n) (nthU s.l 0) 60
    refine lift_cg hFU (leq_ok (K := (gK E os dm um).up.unit) (e := fun _ => true) (by rw [PyProof.Rows.StrsAre.length a, PyProof.Rows.StrsAre.length b]) (one_gives a b) (all_true _)) s.g _ (by cases e <;> decide)
end
end Sol
namespace Sol
open PySem PySem.Spec PySem.Calls PyProof.Rows PySem.W PySem.W.X
noncomputable def lawEnd (vs : List Value) (sep : Nat) : Rel OL := fun r ob _ g' => r = ok (.bool true) ∧ ∃ a, ob = [lsO vs sep, tabO [.int 99 0, .int 39 0, .ref a]] ∧ ∃ x y rest, g' = (80, tab80 x) :: (87, tab87 y) :: rest
theorem IntsAre.take : ∀ (k : Nat) {l : List Value} {m : List Int}, IntsAre l m → IntsAre (l.take k) (m.take k)
  | 0, _, _, _ => trivial
  | k + 1, [], [], _ => trivial
  | k + 1, v :: l, n :: m, h => ⟨h.1, IntsAre.take k (l := l) (m := m) h.2⟩
  | k + 1, [], _ :: _, h => h.elim
  | k + 1, _ :: _, [], h => h.elim
section
variable {E : Sol.Env} {os : OsState} {dm um : Nat} (hE : E.Ok) (hdm : (gK E os dm um).up.up.up.up.up.up.Lim)
include hE hdm
theorem law_okT (R : LawRuns E) {sc sep j : Nat} {vs : List Value} {ms : List Int} {t80 t87 : Option Nat} (hI : IntsAre vs ms) (hne : vs ≠ [])
    (P : Plain (stpF (dealF ((ms.take 10).map mo) 0 []).1) (dealF ((ms.take 10).map mo) 0 []).1 (dealF ((ms.take 10).map mo) 0 []).2 j) :
    RawR (gK E os dm um) (.call (.ref 208) ⟨[.ref (sc + 209)], []⟩) [sc + 209, 148] [lsO vs sep, tabO []] (gA [] t80 t87) (lawEnd vs sep) := by
  have hs : 1 ≤ stpF (dealF ((ms.take 10).map mo) 0 []).1 ∧ stpF (dealF ((ms.take 10).map mo) 0 []).1 ≤ 4 := ⟨P.s1, P.s4⟩
  have hF := gK_fine E os dm um
  have hFU := gK_fine E os (dm + 95) (um + 270)
  have hU := Gd.unit_fine (gK E os dm um).up
  have hd5 := Gd.up_lim hdm
  have hd4 := Gd.up_lim hd5
  have hd3 := Gd.up_lim hd4
  have hd2 := Gd.up_lim hd3
  have hdA := Gd.up_lim hd2
  have hl : (vs.take 10).length < 12 := Nat.lt_of_le_of_lt (List.length_take_le _ _) (by decide)
  have hv : (vs.take 10) ≠ [] := fun e => hne (by
    cases vs with
    | nil => rfl
    | cons a l => cases e)
  have T := RunX.toR (K := gK E os dm um) hE hF (Gd.up_lim hdA) (R.law _ hs (lawL sc sep vs (vs.take 10) (stpF (dealF ((ms.take 10).map mo) 0 []).1) (dealF ((ms.take 10).map mo) 0 []).1 (dealF ((ms.take 10).map mo) 0 []).2 j t80 t87))
    (law_tail hE hdm R (e := true) (sc := sc) (sep := sep) (vs := vs) (us := vs.take 10) P
      (fun s => (foQ_ok (os := os) (dm := dm + 95) (um := um + 270) hE hd3 R.fo hl (hI.take 10) hv).cg _ (by decide))
      ⟨fun s => lift_cg hFU (lne_len (K := (gK E os dm um).up.unit) (vs := vs) (us := []) (fun e => hne (List.length_eq_zero_iff.mp e))) s.g _, fun s => lift_cg hFU (gsl10_ok (K := (gK E os dm um).up.unit) hU (vs := vs)) s.g _, trivial⟩)
  refine T.mono ?_
  rintro r ps nw g' ⟨o, X, rfl, rfl, -, rfl⟩
  exact ⟨rfl, _, rfl, _, _, _, rfl⟩
theorem law_okE (R : LawRuns E) {sc sep j : Nat} {t80 t87 : Option Nat}
    (P : Plain 3 (dealF (([3, 3] : List Int).map mo) 0 []).1 (dealF (([3, 3] : List Int).map mo) 0 []).2 j) :
    RawR (gK E os dm um) (.call (.ref 208) ⟨[.ref (sc + 209)], []⟩) [sc + 209, 148] [lsO [] sep, tabO []] (gA [] t80 t87) (lawEnd [] sep) := by
  have hF := gK_fine E os dm um
  have hFU := gK_fine E os (dm + 95) (um + 270)
  have hU := Gd.unit_fine (gK E os dm um).up
  have hd5 := Gd.up_lim hdm
  have hd4 := Gd.up_lim hd5
  have hd3 := Gd.up_lim hd4
  have hd2 := Gd.up_lim hd3
  have hdA := Gd.up_lim hd2
  have T := RunX.toR (K := gK E os dm um) hE hF (Gd.up_lim hdA) (R.lawE (lawL sc sep [] [] 3 (dealF (([3, 3] : List Int).map mo) 0 []).1 (dealF (([3, 3] : List Int).map mo) 0 []).2 j t80 t87))
    (law_tail hE hdm R (e := false) (sc := sc) (sep := sep) (vs := []) (us := []) P
      (fun s => (foQ_ok (os := os) (dm := dm + 95) (um := um + 270) hE hd3 R.fo (vs := [.int 3 (etO (s.T.get 11) 0 + 1), .int 3 (etO (s.T.get 11) 1 + 1)]) (ms := [3, 3]) (by show 2 < 12; decide) ⟨⟨_, rfl⟩, ⟨_, rfl⟩, trivial⟩ (fun e => by cases e)).cg _ (by decide))
      ⟨fun s => lift_cg hFU (lne_nil (K := (gK E os dm um).up.unit)) s.g _, trivial⟩)
  refine T.mono ?_
  rintro r ps nw g' ⟨o, X, rfl, rfl, -, rfl⟩
  exact ⟨rfl, _, rfl, _, _, _, rfl⟩
end
end Sol
namespace Sol
open PySem PySem.Spec PySem.Calls PyProof.Rows PySem.W PySem.W.X
noncomputable def cntK (k : Nat) : List Nat → Nat
  | [] => 0
  | a :: l => match Nat.beq a k with
    | true => cntK k l + 1
    | false => cntK k l
noncomputable def normK (s : List Nat) : Nat → List Nat
  | 0 => []
  | k + 1 => List.replicate (cntK (k + 1) s) (k + 1) ++ normK s k
noncomputable def norm (s : List Nat) : List Nat := normK s 10
noncomputable def spec (st : Nat) (p : List Nat) : List Nat := p.map (fun k => 97 + k) ++ List.replicate (st + 1 - p.length) 97
noncomputable def eqL : List Nat → List Nat → Bool
  | [], [] => true
  | a :: l, b :: m => match Nat.beq a b with
    | true => eqL l m
    | false => false
  | [], _ :: _ => false
  | _ :: _, [] => false
theorem eqL_eq : ∀ {l m : List Nat}, eqL l m = true → l = m
  | [], [], _ => rfl
  | a :: l, b :: m, h => by
    unfold eqL at h
    cases hb : Nat.beq a b with
    | false => rw [hb] at h; cases h
    | true => rw [hb] at h; rw [Nat.eq_of_beq_eq_true hb, eqL_eq h]
  | [], _ :: _, h => nomatch h
  | _ :: _, [], h => nomatch h
noncomputable def comps : Nat → Nat → List (List Nat)
  | 0, _ => [[]]
  | f + 1, n => [] :: (upto n 0).flatMap fun i => (comps f (n - (i + 1))).map fun c => (i + 1) :: c
noncomputable def parts : Nat → Nat → Nat → List (List Nat)
  | 0, _, _ => [[]]
  | f + 1, m, n => [] :: (upto (min m n) 0).flatMap fun i => (parts f (i + 1) (n - (i + 1))).map fun c => (i + 1) :: c
noncomputable def dsc : Nat → List Nat → Bool
  | _, [] => true
  | m, a :: l => Nat.blt 0 a && (Nat.ble a m && dsc a l)
theorem comps_mem : ∀ (f : Nat) (n : Nat) (s : List Nat), (∀ x ∈ s, 1 ≤ x) → s.sum ≤ n → s.length ≤ f → s ∈ comps f n
  | 0, _, [], _, _, _ => .head _
  | 0, _, _ :: _, _, _, h => absurd h (Nat.not_succ_le_zero _)
  | f + 1, _, [], _, _, _ => .head _
  | f + 1, n, a :: s, hp, hs, hl => by
    have h1 := hp a (.head _)
    rw [List.sum_cons] at hs
    refine .tail _ (List.mem_flatMap.mpr ⟨a - 1, ?_, List.mem_map.mpr ⟨s, ?_, ?_⟩⟩)
    · rw [upto_eq, List.mem_range']; exact ⟨a - 1, by omega, by omega⟩
    · exact comps_mem f _ s (fun x hx => hp x (.tail _ hx)) (by omega) (by simpa using hl)
    · rw [Nat.sub_add_cancel h1]
theorem parts_mem : ∀ (f : Nat) (m n : Nat) (s : List Nat), dsc m s = true → s.sum ≤ n → s.length ≤ f → s ∈ parts f m n
  | 0, _, _, [], _, _, _ => .head _
  | 0, _, _, _ :: _, _, _, h => absurd h (Nat.not_succ_le_zero _)
  | f + 1, _, _, [], _, _, _ => .head _
  | f + 1, m, n, a :: s, hp, hs, hl => by
    unfold dsc at hp
    simp only [Bool.and_eq_true] at hp
    have h1 := Nat.blt_eq.mp hp.1
    have h2 := Nat.ble_eq.mp hp.2.1
    rw [List.sum_cons] at hs
    refine .tail _ (List.mem_flatMap.mpr ⟨a - 1, ?_, List.mem_map.mpr ⟨s, ?_, ?_⟩⟩)
    · rw [upto_eq, List.mem_range']; exact ⟨a - 1, by have : a ≤ min m n := Nat.le_min.mpr ⟨h2, by omega⟩; omega, by omega⟩
    · refine parts_mem f _ _ s ?_ (by omega) (by simpa using hl)
      rw [Nat.sub_add_cancel h1]; exact hp.2.2
    · rw [Nat.sub_add_cancel h1]
noncomputable def okA (s : List Nat) : Bool := eqL (rowS (stpF s.sum) s) (spec (stpF s.sum) (norm s)) && (eqL (norm (mvS s)) (norm (mvS (norm s))) && (dsc 10 (norm s) && Nat.beq (norm s).sum s.sum))
noncomputable def okRowB (s : Nat) (R : List Nat) : Bool := R.all (fun x => Nat.ble 97 x && Nat.ble x 107) && (Nat.blt R.length 12 && Nat.ble (s + 1) R.length)
noncomputable def findJ (R : List Nat) : List (List Nat) → Nat
  | [] => 0
  | a :: l => match decide (a = R) with
    | true => 0
    | false => findJ R l + 1
noncomputable def loopN (st : Nat) : Nat → List (List Nat) → List Nat → List (List Nat) × List Nat
  | 0, rows, p => (rows, p)
  | f + 1, rows, p => match rows.any (fun b => decide (b = spec st p)) with
    | true => (rows, p)
    | false => loopN st f (rows ++ [spec st p]) (norm (mvS p))
noncomputable def good2 (st : Nat) (rows : List (List Nat)) (R : List Nat) (j : Nat) : Bool :=
  Nat.blt rows.length 14 && ((rows ++ [R]).all (okRowB st) && (Nat.blt j rows.length && (Nat.beq (marksF st R).length (st + 1) && chk st j 0 (marksF st R) (rows ++ [R]))))
noncomputable def good1 (st : Nat) (r : List (List Nat) × List Nat) : Bool := good2 st r.1 (spec st r.2) (findJ (spec st r.2) r.1)
noncomputable def good (p : List Nat) : Bool := good1 (stpF p.sum) (loopN (stpF p.sum) 15 [] p)
theorem A2 : ((upto 9 0).all fun i => ((comps 9 (8 - i)).all fun c => okA ((i + 2) :: c))) = true := by decide +kernel
theorem A1 : okA [1] = true := by decide +kernel
theorem A12 : ((upto 8 0).all fun i => ((comps 8 (7 - i)).all fun c => okA (1 :: (i + 2) :: c))) = true := by decide +kernel
theorem A11 : okA [1, 1] = true := by decide +kernel
theorem A112 : ((upto 7 0).all fun i => ((comps 7 (6 - i)).all fun c => okA (1 :: 1 :: (i + 2) :: c))) = true := by decide +kernel
theorem A111 : ((comps 7 7).all fun c => okA (1 :: 1 :: 1 :: c)) = true := by decide +kernel
theorem B1 : ((parts 10 10 10).all fun s => s.isEmpty || good s) = true := by decide +kernel
theorem comps_cons {f n a : Nat} {s : List Nat} (h : a :: s ∈ comps (f + 1) n) : 1 ≤ a ∧ a ≤ n ∧ s ∈ comps f (n - a) := by
  rcases List.mem_cons.mp h with h | h
  · cases h
  · obtain ⟨i, hi, hm⟩ := List.mem_flatMap.mp h
    obtain ⟨c, hc, e⟩ := List.mem_map.mp hm
    injection e with e1 e2
    subst e1 e2
    rw [upto_eq, List.mem_range'] at hi
    obtain ⟨k, hk, rfl⟩ := hi
    refine ⟨by omega, by omega, hc⟩
theorem mem_upto {i n : Nat} (h : i < n) : i ∈ upto n 0 := by
  rw [upto_eq, List.mem_range']
  exact ⟨i, h, by omega⟩
theorem comps_okA {s : List Nat} (h : s ∈ comps 10 10) (hne : s ≠ []) : okA s = true := by
  cases s with
  | nil => exact absurd rfl hne
  | cons a s =>
    obtain ⟨h1, h2, h3⟩ := comps_cons h
    by_cases ha : a = 1
    · subst ha
      cases s with
      | nil => exact A1
      | cons b s =>
        obtain ⟨k1, k2, k3⟩ := comps_cons h3
        by_cases hb : b = 1
        · subst hb
          cases s with
          | nil => exact A11
          | cons c s =>
            obtain ⟨j1, j2, j3⟩ := comps_cons k3
            by_cases hc : c = 1
            · subst hc
              exact List.all_eq_true.mp A111 s j3
            · have := List.all_eq_true.mp (List.all_eq_true.mp A112 (c - 2) (mem_upto (by omega))) s (by rw [show 6 - (c - 2) = 10 - 1 - 1 - c by omega]; exact j3)
              rw [show c - 2 + 2 = c by omega] at this
              exact this
        · have := List.all_eq_true.mp (List.all_eq_true.mp A12 (b - 2) (mem_upto (by omega))) s (by rw [show 7 - (b - 2) = 10 - 1 - b by omega]; exact k3)
          rw [show b - 2 + 2 = b by omega] at this
          exact this
    · have := List.all_eq_true.mp (List.all_eq_true.mp A2 (a - 2) (mem_upto (by omega))) s (by rw [show 8 - (a - 2) = 10 - a by omega]; exact h3)
      rw [show a - 2 + 2 = a by omega] at this
      exact this
end Sol
namespace Sol
open PySem PySem.Spec PySem.Calls PyProof.Rows PySem.W PySem.W.X
noncomputable def cutP : List Nat → Nat → List (List Nat)
  | [], _ => []
  | m :: ms, c => cut48 c m :: cutP ms (c + m)
structure OkA (s : List Nat) : Prop where
  row : rowS (stpF s.sum) s = spec (stpF s.sum) (norm s)
  mv : norm (mvS s) = norm (mvS (norm s))
  dsc : dsc 10 (norm s) = true
  sum : (norm s).sum = s.sum
theorem okA_iff {s : List Nat} (h : okA s = true) : OkA s := by
  unfold okA at h
  simp only [Bool.and_eq_true] at h
  exact ⟨eqL_eq h.1, eqL_eq h.2.1, h.2.2.1, Nat.eq_of_beq_eq_true h.2.2.2⟩
theorem OkSz.mem {s : List Nat} (h : OkSz s) : s ∈ comps 10 10 := comps_mem 10 10 s h.pos h.sum h.len
theorem OkSz.okA {s : List Nat} (h : OkSz s) : OkA s := okA_iff (comps_okA h.mem h.ne)
theorem mvC_sz (C : List (List Nat)) : (mvC' C).map List.length = mvS (C.map List.length) := by
  unfold mvC' mvS
  have e : ∀ l : List (List Nat), (l.filter fun x => Nat.blt 0 x.length).map List.length = (l.map List.length).filter fun n => Nat.blt 0 n := by
    intro l
    induction l with
    | nil => rfl
    | cons a l ih =>
      rw [List.map_cons, List.filter_cons, List.filter_cons]
      split
      · rw [List.map_cons, ih]
      · exact ih
  rw [e]
  congr 1
  rw [List.map_append, List.map_map, List.map_map]
  congr 1
  · exact List.map_congr_left fun l _ => List.length_dropLast
  · show [(C.map fun l => l.getLastD 0).length] = _
    rw [List.length_map, List.length_map]
theorem loop_len (st : Nat) : ∀ (f : Nat) (rows : List (List Nat)) (C : List (List Nat)), rows.length ≤ (loopF st f rows C).1.length
  | 0, _, _ => Nat.le_refl _
  | f + 1, rows, C => by
    unfold loopF
    split
    · exact Nat.le_refl _
    · have := loop_len st f (rows ++ [rowS st (C.map List.length)]) (mvC' C)
      rw [List.length_append] at this
      exact Nat.le_trans (Nat.le_add_right _ _) this
theorem loop_ok (st : Nat) : ∀ (f : Nat) (rows : List (List Nat)) (C : List (List Nat)), (loopF st f rows C).1.length < 14 → 14 ≤ rows.length + f → loopOk st f rows (C.map List.length) = true
  | 0, rows, C, h, hf => by
    have : (loopF st 0 rows C).1 = rows := rfl
    rw [this] at h; omega
  | f + 1, rows, C, h, hf => by
    unfold loopOk
    unfold loopF at h
    cases hc : rows.any (fun b => decide (b = rowS st (C.map List.length))) with
    | true => rfl
    | false =>
      rw [hc] at h
      have l1 := loop_len st f (rows ++ [rowS st (C.map List.length)]) (mvC' C)
      have h' : (loopF st f (rows ++ [rowS st (C.map List.length)]) (mvC' C)).1.length < 14 := h
      rw [List.length_append, List.length_singleton] at l1
      have := loop_ok st f (rows ++ [rowS st (C.map List.length)]) (mvC' C) h' (by rw [List.length_append, List.length_singleton]; omega)
      rw [mvC_sz] at this
      show (Nat.blt rows.length 13 && _) = true
      rw [this, Bool.and_true]
      exact Nat.blt_eq.mpr (by omega)
theorem loop_eq {st : Nat} : ∀ (f : Nat) (rows : List (List Nat)) (C : List (List Nat)), OkSz (C.map List.length) → stpF (C.map List.length).sum = st →
    (loopF st f rows C).1 = (loopN st f rows (norm (C.map List.length))).1 ∧ rowS st ((loopF st f rows C).2.map List.length) = spec st (loopN st f rows (norm (C.map List.length))).2 ∧ OkSz ((loopF st f rows C).2.map List.length)
  | 0, rows, C, h, hs => by
    have a := h.okA
    refine ⟨rfl, ?_, h⟩
    have := a.row
    rw [hs] at this
    exact this
  | f + 1, rows, C, h, hs => by
    have a := h.okA
    have e := a.row
    rw [hs] at e
    unfold loopF loopN
    rw [← e]
    cases hc : rows.any (fun b => decide (b = rowS st (C.map List.length))) with
    | true => exact ⟨rfl, e, h⟩
    | false =>
      have ih := loop_eq (st := st) f (rows ++ [rowS st (C.map List.length)]) (mvC' C) (by rw [mvC_sz]; exact mvS_ok h) (by rw [mvC_sz, mvS_sum h.pos]; exact hs)
      rw [mvC_sz, a.mv] at ih
      exact ih
theorem last_perm : ∀ {C : List (List Nat)}, (∀ l ∈ C, l ≠ []) → ((C.map List.dropLast).flatten ++ C.map fun l => l.getLastD 0).Perm C.flatten
  | [], _ => .refl _
  | l :: C, h => by
    have ih := last_perm (C := C) fun x hx => h x (.tail _ hx)
    have hl := h l (.head _)
    have e : l = l.dropLast ++ [l.getLastD 0] := by
      rw [List.getLastD_eq_getLast?, List.getLast?_eq_some_getLast hl]
      exact (List.dropLast_concat_getLast hl).symm
    show ((l.dropLast ++ (C.map List.dropLast).flatten) ++ (l.getLastD 0 :: C.map fun l => l.getLastD 0)).Perm (l ++ C.flatten)
    have e2 : l ++ C.flatten = l.dropLast ++ (l.getLastD 0 :: C.flatten) := by
      conv => lhs; rw [e]
      rw [List.append_assoc]; rfl
    rw [e2, List.append_assoc]
    refine List.Perm.append_left _ ?_
    exact List.perm_middle.trans (ih.cons _)
theorem filter_flat : ∀ C : List (List Nat), (C.filter fun l => Nat.blt 0 l.length).flatten = C.flatten
  | [] => rfl
  | l :: C => by
    rw [List.filter_cons]
    split
    · rw [List.flatten_cons, List.flatten_cons, filter_flat C]
    · rename_i h
      cases l with
      | nil => exact filter_flat C
      | cons a l => exact absurd (Nat.blt_eq.mpr (by simp)) h
theorem mvC_perm {C : List (List Nat)} (h : ∀ l ∈ C, l ≠ []) : (mvC' C).flatten.Perm C.flatten := by
  unfold mvC'
  rw [filter_flat, List.flatten_append, List.flatten_singleton]
  exact last_perm h
theorem OkSz.nn {C : List (List Nat)} (h : OkSz (C.map List.length)) : ∀ l ∈ C, l ≠ [] := fun l hl e => by
  have := h.pos _ (List.mem_map_of_mem hl)
  rw [e] at this
  exact absurd this (by decide)
theorem loop_perm (st : Nat) : ∀ (f : Nat) (rows : List (List Nat)) (C : List (List Nat)), OkSz (C.map List.length) → (loopF st f rows C).2.flatten.Perm C.flatten
  | 0, _, _, _ => .refl _
  | f + 1, rows, C, h => by
    unfold loopF
    split
    · exact .refl _
    · exact (loop_perm st f _ (mvC' C) (by rw [mvC_sz]; exact mvS_ok h)).trans (mvC_perm h.nn)
theorem cutP_sz : ∀ (s : List Nat) (c : Nat), (cutP s c).map List.length = s
  | [], _ => rfl
  | m :: s, c => by
    unfold cutP
    rw [List.map_cons, cut48_len, cutP_sz s]
theorem cut48_app (c a b : Nat) : cut48 c a ++ cut48 (c + a) b = cut48 c (a + b) := by
  unfold cut48
  rw [upto_eq, upto_eq, upto_eq]
  apply List.ext_getElem
  · simp
  · intro i h1 h2
    simp only [List.length_append, List.length_map, List.length_range'] at h1
    rw [List.getElem_append]
    split
    · simp
    · rename_i h
      simp only [List.length_map, List.length_range'] at h
      simp
      omega
theorem cutP_flat : ∀ (s : List Nat) (c : Nat), (cutP s c).flatten = cut48 c s.sum
  | [], _ => rfl
  | m :: s, c => by
    unfold cutP
    rw [List.flatten_cons, cutP_flat s, cut48_app, List.sum_cons]
theorem okRowB_iff {s : Nat} {R : List Nat} (h : okRowB s R = true) : okRow s R := by
  unfold okRowB at h
  simp only [Bool.and_eq_true, List.all_eq_true] at h
  refine ⟨fun x hx => ?_, Nat.blt_eq.mp h.2.1, Nat.ble_eq.mp h.2.2⟩
  have a := Nat.ble_eq.mp (h.1 x hx).1
  have b := Nat.ble_eq.mp (h.1 x hx).2
  exact ⟨x - 97, by omega, by omega⟩
theorem findJ_no {R : List Nat} : ∀ {rows : List (List Nat)} {m : Nat}, m < findJ R rows → rows[m]? ≠ some R
  | [], _, h => absurd h (Nat.not_lt_zero _)
  | a :: l, m, h => by
    unfold findJ at h
    by_cases e : a = R
    · rw [decide_eq_true e] at h; exact absurd h (Nat.not_lt_zero _)
    · rw [decide_eq_false e] at h
      cases m with
      | zero => simpa using e
      | succ m =>
        have := findJ_no (rows := l) (m := m) (Nat.lt_of_succ_lt_succ h)
        simpa using this
theorem findJ_hit {R : List Nat} : ∀ {rows : List (List Nat)}, findJ R rows < rows.length → rows[findJ R rows]? = some R
  | [], h => absurd h (Nat.not_lt_zero _)
  | a :: l, h => by
    unfold findJ at h ⊢
    by_cases e : a = R
    · rw [decide_eq_true e, e]; rfl
    · rw [decide_eq_false e] at h ⊢
      have := findJ_hit (R := R) (rows := l) (Nat.lt_of_succ_lt_succ h)
      simpa using this
theorem stp_le (n : Nat) : 1 ≤ stpF n ∧ stpF n ≤ 4 := by
  unfold stpF
  repeat' split
  all_goals decide
theorem plain_of {s : List Nat} (h : OkSz s) : ∃ j, Plain (stpF s.sum) s.sum (cutP s 0) j := by
  have a := h.okA
  have hC : OkSz ((cutP s 0).map List.length) := by rw [cutP_sz]; exact h
  have hne : norm s ≠ [] := fun e => by
    have e1 := a.sum
    rw [e] at e1
    have e2 := h.pos
    have e3 : s.sum = 0 := e1.symm
    cases s with
    | nil => exact h.ne rfl
    | cons x s => have := e2 x (.head _); rw [List.sum_cons] at e3; omega
  have dl : ∀ {m : Nat} {l : List Nat}, dsc m l = true → l.length ≤ l.sum := by
    intro m l
    induction l generalizing m with
    | nil => intro _; exact Nat.le_refl _
    | cons x l ih =>
      intro hd
      unfold dsc at hd
      simp only [Bool.and_eq_true] at hd
      have h1 := Nat.blt_eq.mp hd.1
      have h2 := ih hd.2.2
      rw [List.length_cons, List.sum_cons]; omega
  have hn : (norm s).sum ≤ 10 := by rw [a.sum]; exact h.sum
  have g := List.all_eq_true.mp B1 (norm s) (parts_mem 10 10 10 _ a.dsc hn (Nat.le_trans (dl a.dsc) hn))
  have he : (norm s).isEmpty = false := by
    cases e : norm s with
    | nil => exact absurd e hne
    | cons x l => rfl
  rw [he, Bool.false_or] at g
  unfold good good1 good2 at g
  rw [a.sum] at g
  simp only [Bool.and_eq_true] at g
  obtain ⟨g1, g2, g3, g4, g5⟩ := g
  have L := loop_eq (st := stpF s.sum) 15 [] (cutP s 0) hC (by rw [cutP_sz])
  have P := loop_perm (stpF s.sum) 15 [] (cutP s 0) hC
  rw [cutP_sz] at L
  obtain ⟨l1, l2, l3⟩ := L
  rw [← l1, ← l2] at g2 g3 g5
  rw [← l2] at g4
  rw [← l1] at g1
  have st := stp_le s.sum
  refine ⟨findJ (rowF' (stpF s.sum) (cutP s 0)) (rowsF (stpF s.sum) (cutP s 0)), ⟨?_, h.sum, st.1, st.2, rfl, hC, ?_, Nat.blt_eq.mp g1, ?_, Nat.blt_eq.mp g3, findJ_hit (Nat.blt_eq.mp g3), fun m hm => findJ_no hm, Nat.eq_of_beq_eq_true g4, g5, l3, ?_⟩⟩
  · exact Nat.le_trans (by cases s with | nil => exact absurd rfl h.ne | cons x l => exact Nat.succ_pos _) (len_le_sum h.pos)
  · exact loop_ok _ 15 [] (cutP s 0) (Nat.blt_eq.mp g1) (by decide)
  · intro R hR
    exact okRowB_iff (List.all_eq_true.mp g2 R hR)
  · rw [cutP_flat] at P
    exact P
theorem deal_eq : ∀ (ms : List Nat) (c : Nat) (C : List (List Nat)), c ≤ 10 → ∃ s, dealF ms c C = (c + s.sum, C ++ cutP s c) ∧ (∀ n ∈ s, 1 ≤ n) ∧ c + s.sum ≤ 10
  | [], c, C, h => ⟨[], (by rw [List.sum_nil, Nat.add_zero]; unfold dealF cutP; rw [List.append_nil]), (fun _ hn => absurd hn List.not_mem_nil), h⟩
  | m :: ms, c, C, h => by
    unfold dealF
    cases hb : Nat.ble (c + 1 + m) 10 with
    | true =>
      have hb' := Nat.ble_eq.mp hb
      obtain ⟨s, e1, e2, e3⟩ := deal_eq ms (c + 1 + m) (C ++ [cut48 c (m + 1)]) hb'
      refine ⟨(m + 1) :: s, ?_, ?_, ?_⟩
      · show dealF ms (c + 1 + m) (C ++ [cut48 c (m + 1)]) = _
        rw [e1, List.sum_cons, cutP, show c + (m + 1) = c + 1 + m by omega, show c + (m + 1 + s.sum) = c + 1 + m + s.sum by omega, List.append_assoc]
        rfl
      · intro n hn
        rcases List.mem_cons.mp hn with rfl | hn
        · omega
        · exact e2 n hn
      · rw [List.sum_cons]; omega
    | false => exact deal_eq ms c C h
theorem deal_ok {m : Nat} {ms : List Nat} (hm : m < 10) : ∃ s, dealF (m :: ms) 0 [] = (s.sum, cutP s 0) ∧ OkSz s := by
  have e : dealF (m :: ms) 0 [] = dealF ms (0 + 1 + m) ([] ++ [cut48 0 (m + 1)]) := by
    rw [dealF]
    rw [show Nat.ble (0 + 1 + m) 10 = true from Nat.ble_eq.mpr (by omega)]
  obtain ⟨s, e1, e2, e3⟩ := deal_eq ms (0 + 1 + m) ([] ++ [cut48 0 (m + 1)]) (by omega)
  refine ⟨(m + 1) :: s, ?_, ?_, ?_, fun h => by cases h⟩
  · rw [e, e1, List.sum_cons, cutP, show 0 + (m + 1) = 0 + 1 + m by omega, show m + 1 + s.sum = 0 + 1 + m + s.sum by omega]
    rfl
  · intro n hn
    rcases List.mem_cons.mp hn with rfl | hn
    · omega
    · exact e2 n hn
  · rw [List.sum_cons]; omega
theorem plain_deal {m : Nat} {ms : List Nat} (hm : m < 10) : ∃ j, Plain (stpF (dealF (m :: ms) 0 []).1) (dealF (m :: ms) 0 []).1 (dealF (m :: ms) 0 []).2 j := by
  obtain ⟨s, e, ok⟩ := deal_ok (ms := ms) hm
  rw [e]
  exact plain_of ok
end Sol
namespace Sol
open PySem PySem.Spec PySem.Calls PyProof.Rows PySem.W PySem.W.X
theorem lay_are {R : WRecords} {cl : Str → Option Addr} {P : Params} {ord : List DictEntry → List DictEntry} : ∀ (ns : List Int) (s : Shared) (r : List Value × Shared), 1 ≤ s.toks → layAllW R cl P ord (ofPys (ns.map PyData.int)) s = some r → IntsAre r.1 ns ∧ 1 ≤ r.2.toks
  | [], s, r, h, e => by
    have : layAllW R cl P ord (ofPys (List.map PyData.int [])) s = some ([], s) := by simp [ofPys, layAllW]
    rw [this] at e
    cases e; exact ⟨trivial, h⟩
  | n :: ns, s, r, h, e => by
    simp only [List.map_cons, ofPys, ofPy, layAllW, layW] at e
    cases q : layAllW R cl P ord (ofPys (ns.map PyData.int)) { s with toks := s.toks + 1 } with
    | none => rw [q] at e; cases e
    | some r' =>
      rw [q] at e
      cases e
      have z := lay_are ns { s with toks := s.toks + 1 } r' (Nat.le_add_left 1 s.toks) q
      exact ⟨⟨⟨s.toks - 1, by rw [Nat.sub_add_cancel h]⟩, z.1⟩, z.2⟩
theorem script_is {R : WRecords} {w : World} {s₀ s₁ : Shared} {ns : List Int} {a : Addr} {as : List Addr} (L : Laid R w s₀ s₁ [ofPy (PyData.list (ns.map PyData.int))] [.ref a] as) (h : 1 ≤ s₀.toks) :
    ∃ vs, IntsAre vs ns ∧ a = s₀.heap.objs.size ∧ s₁.heap = s₀.heap.push (lsO vs 0) ∧ 1 ≤ s₁.toks := by
  obtain ⟨ord, _, e⟩ := L.laid
  simp only [ofPy, layAllW, layW] at e
  cases q : layAllW R (classAt s₀.heap) w.params ord (ofPys (List.map PyData.int ns)) s₀ with
  | none => rw [q] at e; cases e
  | some r =>
    rw [q] at e
    have h1 := lay_are ns s₀ r h q
    have h2 := lay_ints ns s₀ r q
    simp only [Option.some.injEq, Prod.mk.injEq, List.cons.injEq, Value.ref.injEq] at e
    obtain ⟨⟨ea, _⟩, es⟩ := e
    refine ⟨r.1, h1.1, ?_, ?_, ?_⟩
    · rw [← ea, h2]
    · rw [← es, ← h2]; rfl
    · rw [← es]; exact h1.2
noncomputable def tabRef (o : Option Obj) : Option Value := match o with
  | none => none
  | some o => match o.data with
    | .fields vs => vs[11]?
    | _ => none
noncomputable def clsOf (o : Option Obj) : Option Value := match o with
  | none => none
  | some o => some o.cls
structure TopOk (t : KT) : Prop where
  a80 : t.get 80 = some (tabO [])
  a87 : t.get 87 = some (tabO [])
  a148 : t.get 148 = some (tabO [])
  a209 : t.get 209 = none
  c80 : tabRef (t.get 84) = some (.ref 80) ∧ clsOf (t.get 84) = some (.type "code")
  c87 : tabRef (t.get 91) = some (.ref 87) ∧ clsOf (t.get 91) = some (.type "code")
  c148 : tabRef (t.get 152) = some (.ref 148) ∧ clsOf (t.get 152) = some (.type "code")
theorem isTab {h : Heap} {t : KT} (H : KT.Holds h 1 0 t) {c P : Nat} (C : tabRef (t.get c) = some (.ref P) ∧ clsOf (t.get c) = some (.type "code")) : isCodeTable h P := by
  obtain ⟨C1, C2⟩ := C
  cases e : t.get c with
  | none => rw [e] at C1; cases C1
  | some o =>
    rw [e] at C1 C2
    unfold tabRef at C1
    unfold clsOf at C2
    simp only at C1 C2
    split at C1
    · rename_i vs hd
      exact ⟨c, o, vs, kt_at H e, Option.some.inj C2, hd, C1⟩
    · cases C1
theorem plain_any (ms : List Int) (hne : ms ≠ []) : ∃ j, Plain (stpF (dealF ((ms.take 10).map mo) 0 []).1) (dealF ((ms.take 10).map mo) 0 []).1 (dealF ((ms.take 10).map mo) 0 []).2 j := by
  cases ms with
  | nil => exact absurd rfl hne
  | cons m ms => exact plain_deal (m := mo m) (ms := (ms.take 9).map mo) (mo_lt m)
theorem tab_grow {h h' : Heap} {b : Nat} {l : List Value} (hc : isCodeTable h b) (e : h'.get? b = some (tabO l)) : asItWas h h' b (tabO []) :=
  .inr (.inl ⟨hc, rfl, #[], l.toArray, rfl, by rw [e]; show _ = some ({ cls := .none, data := .fields (#[] ++ l.toArray) } : Obj); rw [Array.empty_append]; rfl⟩)
theorem law_any {prog : Program} {w : World} {b1 b2 b3 : Bool} {K : KT} (hE : (⟨prog, w, ktDel (ktDel (ktDel K 80) 87) 148, b1, b2, b3⟩ : Sol.Env).Ok) (R : LawRuns ⟨prog, w, ktDel (ktDel (ktDel K 80) 87) 148, b1, b2, b3⟩) (T : TopOk K)
    {c : ClaimW} {cl : Str → Option Addr} {mean : ExcName → Option Value} {Rr : WRecords} {s₀ s₁ : Shared} {ns : List Int} {as : List Addr}
    (L : Laid Rr w s₀ s₁ [ofPy (PyData.list (ns.map PyData.int))] [.ref 209] as) (hz : s₀.heap.objs.size = 209) (ht : s₀.toks = 697) (H : KT.Holds s₁.heap 1 0 K)
    (hr : ∀ x, c.raises [ofPy (PyData.list (ns.map PyData.int))] x = false) (hp : c.post [ofPy (PyData.list (ns.map PyData.int))] (.bool true) [ofPy (PyData.list (ns.map PyData.int))] = true) :
    codeAny (model prog w) callerA (.call (.ref 208) ⟨[.ref 209], []⟩) (GoodWG c cl mean [ofPy (PyData.list (ns.map PyData.int))] s₁) s₁ := by
  obtain ⟨vs, hI, ha, hh, ht1⟩ := script_is L (by rw [ht]; decide)
  have hs : s₁.heap.objs.size = 210 := by rw [hh, Heap.size_push, hz]
  have h209 : s₁.heap.get? 209 = some (lsO vs 0) := by
    rw [hh, ← hz]
    exact Heap.get?_push_size _ rfl
  have h80 := kt_at H T.a80
  have h87 := kt_at H T.a87
  have h148 := kt_at H T.a148
  have gt : ∀ j, (ktDel (ktDel (ktDel K 80) 87) 148).get j = if j = 148 then none else if j = 87 then none else if j = 80 then none else K.get j := fun j => by
    rw [ktDel_get, ktDel_get, ktDel_get]
  have hdm : (gK ⟨prog, w, ktDel (ktDel (ktDel K 80) 87) 148, b1, b2, b3⟩ s₁.os 215 0).up.up.up.up.up.up.Lim := ⟨(by show 215 + 95 + 95 + 95 + 95 + 95 + 95 ≤ 805; decide), (by show 0 + 270 + 270 + 270 + 270 + 270 + 270 ≤ 9000; decide)⟩
  have W : RawR (gK ⟨prog, w, ktDel (ktDel (ktDel K 80) 87) 148, b1, b2, b3⟩ s₁.os 215 0) (.call (.ref 208) ⟨[.ref (0 + 209)], []⟩) [0 + 209, 148] [lsO vs 0, tabO []] (gA [] none none) (lawEnd vs 0) := by
    cases ns with
    | nil =>
      cases vs with
      | nil =>
        obtain ⟨j, P⟩ := plain_any [3, 3] (by intro e; cases e)
        exact law_okE hE hdm R (j := j) P
      | cons v vs => exact hI.elim
    | cons n ns =>
      obtain ⟨j, P⟩ := plain_any (n :: ns) (by intro e; cases e)
      exact law_okT hE hdm R hI (by cases vs with | nil => exact hI.elim | cons v vs => intro e; cases e) P
  have inG : ∀ b, b ∈ olA (gA [] none none) → b = 80 ∨ b = 87 := fun b hb => by
    rcases List.mem_cons.mp hb with rfl | hb
    · exact .inl rfl
    · rcases List.mem_cons.mp hb with rfl | hb
      · exact .inr rfl
      · cases hb
  have I : RawIn (gK ⟨prog, w, ktDel (ktDel (ktDel K 80) 87) 148, b1, b2, b3⟩ s₁.os 215 0) (rawK (.call (.ref 208) ⟨[.ref (0 + 209)], []⟩) [0 + 209, 148] [lsO vs 0, tabO []] (gA [] none none) (.error .none) [] [] (gA [] none none)) callerA s₁.heap [] := by
    refine ⟨by rw [hs]; decide, rfl, (by show 1 + 300 ≤ 215 + 90; decide), (by show 4 ≤ 0 + 260; decide), fun a o e => ?_, fun a o e f => ?_, fun i a o h1 h2 => ?_, fun a ha => ⟨fun f => ?_, ?_⟩, (by show ([209, 148] : List Nat).Nodup; decide), ⟨fun p hp => ?_, by show ([80, 87] : List Nat).Nodup; decide⟩, fun y hy => nomatch hy⟩
    · have e' : (ktDel (ktDel (ktDel K 80) 87) 148).get a = some o := e
      rw [gt] at e'
      split at e'
      · cases e'
      · split at e'
        · cases e'
        · split at e'
          · cases e'
          · exact kt_at H e'
    · have e' : (ktDel (ktDel (ktDel K 80) 87) 148).get a = some o := e
      rw [gt] at e'
      rcases inG a f with rfl | rfl <;> cases e'
    · match i with
      | 0 =>
        have e1 : 209 = a := by simpa [rawK] using h1
        have e2 : lsO vs 0 = o := by simpa [rawK] using h2
        rw [← e1, ← e2]; exact h209
      | 1 =>
        have e1 : 148 = a := by simpa [rawK] using h1
        have e2 : tabO [] = o := by simpa [rawK] using h2
        rw [← e1, ← e2]; exact h148
      | i + 2 => simp [rawK] at h1
    · have f' := inG a f
      have ha' : a = 209 ∨ a = 148 := by
        rcases List.mem_cons.mp ha with rfl | ha
        · exact .inl rfl
        · exact .inr (List.mem_singleton.mp ha)
      rcases ha' with rfl | rfl <;> rcases f' with f' | f' <;> cases f'
    · show (ktDel (ktDel (ktDel K 80) 87) 148).get a = none
      rw [gt]
      rcases List.mem_cons.mp ha with rfl | ha
      · exact T.a209
      · rw [List.mem_singleton.mp ha]; rfl
    · rcases List.mem_cons.mp hp with rfl | hp
      · exact h80
      · rcases List.mem_cons.mp hp with rfl | hp
        · exact h87
        · cases hp
  have C := W.2 callerA s₁.heap [] s₁.drawn (s₁.toks - 1) I
  have es : (⟨s₁.heap, ⟨[]⟩, s₁.drawn, s₁.toks - 1 + 1, s₁.os⟩ : Shared) = s₁ := by
    rw [Nat.sub_add_cancel ht1]
    have := L.gens
    cases s₁
    simp only at this
    subst this
    rfl
  have C' : codeAny (model prog w) callerA (.call (.ref 208) ⟨[.ref 209], []⟩) _ ⟨s₁.heap, ⟨[]⟩, s₁.drawn, s₁.toks - 1 + 1, s₁.os⟩ := C
  rw [es] at C'
  refine codeAny_mono C' ?_
  rintro r s' ⟨x, h', gb', d', ps, nw, g', rfl, ⟨rfl, a, rfl, x1, x2, rest, rfl⟩, Lf⟩
  have g209 : h'.get? 209 = some (lsO vs 0) := Lf.post 0 209 _ rfl rfl
  have g148 := Lf.post 1 148 _ rfl rfl
  have g80 := Lf.gh.1 (80, tab80 x1) (.head _)
  have g87 := Lf.gh.1 (87, tab87 x2) (.tail _ (.head _))
  have t80 : ∃ l, tab80 x1 = tabO l := by cases x1 <;> exact ⟨_, rfl⟩
  have t87 : ∃ l, tab87 x2 = tabO l := by cases x2 <;> exact ⟨_, rfl⟩
  obtain ⟨l80, e80⟩ := t80
  obtain ⟨l87, e87⟩ := t87
  have old : ∀ b o, s₁.heap.get? b = some o → asItWas s₁.heap h' b o := fun b o e => by
    by_cases q80 : b = 80
    · subst q80
      rw [h80] at e; cases e
      exact tab_grow (isTab H T.c80) (by rw [g80, e80])
    · by_cases q87 : b = 87
      · subst q87
        rw [h87] at e; cases e
        exact tab_grow (isTab H T.c87) (by rw [g87, e87])
      · by_cases q148 : b = 148
        · subst q148
          rw [h148] at e; cases e
          exact tab_grow (isTab H T.c148) g148
        · by_cases q209 : b = 209
          · subst q209
            rw [h209] at e; cases e
            exact .inl g209
          · refine .inl (Lf.keep b o e (fun f => ?_) fun hb => ?_)
            · rcases inG b f with f | f
              · exact q80 f
              · exact q87 f
            · rcases List.mem_cons.mp hb with f | f
              · exact q209 f
              · exact q148 (List.mem_singleton.mp f)
  refine ⟨.inl ⟨_, .bool true, [], rfl, hr, ReadsW.bool true, hp, fun _ => ⟨List.nodup_nil, fun _ hm => (nomatch hm)⟩⟩, ⟨old, fun b o e => ?_⟩, rfl, fun y hy => Lf.bare y (by simpa using hy)⟩
  rcases old b o e with q | ⟨_, _, vs, more, _, q⟩ | ⟨_, _, ⟨o', es, n, q, _⟩, _⟩
  · exact ⟨_, q⟩
  · exact ⟨_, q⟩
  · exact ⟨_, q⟩
end Sol
namespace Sol
open PySem PySem.W PySem.W.X PyProof.Rows
noncomputable def env0 (K : Params → KT) (w : World) (b1 b2 b3 : Bool) : Sol.Env := ⟨PySem.Challenge.rw_in0248_01.prog, w, ktTop K w.params, b1, b2, b3⟩
structure AllRuns (K : Params → KT) : Prop where
  r : ∀ w b1 b2 b3, LawRuns (env0 K w b1 b2 b3)
theorem prog_ok : ProgOk PySem.Challenge.rw_in0248_01.prog := ⟨by kernel_rfl, by kernel_rfl⟩
theorem post_ok (ns : List Int) : PySem.Challenge.rw_in0248_01.row.claim.post [ofPy (PyData.list (ns.map PyData.int))] (.bool true) [ofPy (PyData.list (ns.map PyData.int))] = true := by
  kernel_rfl
theorem raises_ok (ns : List Int) : ∀ x, PySem.Challenge.rw_in0248_01.row.claim.raises [ofPy (PyData.list (ns.map PyData.int))] x = false := by
  intro x
  rfl
theorem env_ok (K : Params → KT) (w : World) : (env0 K w (w.params.followText "special-get-raises") (w.params.followText "comprehension-iter-twice") (w.params.followText "fstring-hands-on-the-str")).Ok := ⟨prog_ok, normP_same w.params⟩
theorem law_env {K : Params → KT} (H : AllRuns K) {w : World} (T : TopOk (K w.params)) {cl : Str → Option Addr} {mean : ExcName → Option Value} {Rr : WRecords} {s₀ s₁ : Shared} {ns : List Int} {as : List Addr}
    (L : Laid Rr w s₀ s₁ [ofPy (PyData.list (ns.map PyData.int))] [.ref 209] as) (hz : s₀.heap.objs.size = 209) (ht : s₀.toks = 697) (hH : KT.Holds s₁.heap 1 0 (K w.params)) :
    codeAny (model PySem.Challenge.rw_in0248_01.row.prog w) callerA (.call (.ref 208) ⟨[.ref 209], []⟩) (GoodWG PySem.Challenge.rw_in0248_01.row.claim cl mean [ofPy (PyData.list (ns.map PyData.int))] s₁) s₁ :=
  law_any (env_ok K w) (H.r w _ _ _) T L hz ht hH (raises_ok _) (post_ok _)
end Sol
namespace Sol
open PySem PySem.W PySem.W.X
theorem s14 {P : Nat → Prop} (h1 : P 1) (h2 : P 2) (h3 : P 3) (h4 : P 4) : ∀ s, 1 ≤ s ∧ s ≤ 4 → P s := fun s h => lts5 (P := fun s => 1 ≤ s → P s) (fun h => absurd h (by decide)) (fun _ => h1) (fun _ => h2) (fun _ => h3) (fun _ => h4) s (Nat.lt_succ_of_le h.2) h.1
theorem n110 {P : Nat → Prop} (h1 : P 1) (h2 : P 2) (h3 : P 3) (h4 : P 4) (h5 : P 5) (h6 : P 6) (h7 : P 7) (h8 : P 8) (h9 : P 9) (h10 : P 10) : ∀ s, 1 ≤ s ∧ s ≤ 10 → P s := fun s h => lts11 (P := fun s => 1 ≤ s → P s) (fun h => absurd h (by decide)) (fun _ => h1) (fun _ => h2) (fun _ => h3) (fun _ => h4) (fun _ => h5) (fun _ => h6) (fun _ => h7) (fun _ => h8) (fun _ => h9) (fun _ => h10) s (Nat.lt_succ_of_le h.2) h.1
noncomputable def LenB1 (E : Sol.Env) (n : Nat) : Prop := ∀ (p d ep : Nat) (ts : List Nat) (g : OL) (gf : Nat → OL), RunQ (E.cfg (conL [fun s => (lenGQ (len85 p) p d ep ts n g gf).con [0]]) noCut) 60 (lenGQ (lenBC p) p d ep ts n g gf) [1, 0, 0, 0, 0, 1] lbX []
noncomputable def RwA1 (E : Sol.Env) (j : Nat) : Prop := ∀ (z : Rw) (m p : Int × Nat) (M L' : List (Int × Nat)) (i : Nat), RunT (E.cfg (conL (rwConA j z m p M L' i)) cutW) 300 (rwQ E z ((m :: M) ++ [p]) agR fun y => (z.to y (z.row ++ [97 + i]) (z.lep + 1)).pre E.w L') (fun _ => rwC E z.f)
  [1, 2, 3, 2, 1, 1, 0, 1, 0, 0, 0, 0, 4, 4, 0, 4, 2, 2, 2, 2, 2, 4, 4, 4, 2, 2, 0, 2, 3, 4, 2, 2, 2, 4, 4, 4, 4, 4, 2, 2, 5, 0, 4, 0, 6, 4, 0, 7, 8, 1, 1] fX
theorem mk_runs {K : Params → KT}
  (h_push0 : ∀ w b1 b2 b3, PushRun (env0 K w b1 b2 b3) 0)
  (h_push1 : ∀ w b1 b2 b3, PushRun (env0 K w b1 b2 b3) 1)
  (h_push2 : ∀ w b1 b2 b3, PushRun (env0 K w b1 b2 b3) 2)
  (h_push3 : ∀ w b1 b2 b3, PushRun (env0 K w b1 b2 b3) 3)
  (h_push4 : ∀ w b1 b2 b3, PushRun (env0 K w b1 b2 b3) 4)
  (h_push5 : ∀ w b1 b2 b3, PushRun (env0 K w b1 b2 b3) 5)
  (h_push6 : ∀ w b1 b2 b3, PushRun (env0 K w b1 b2 b3) 6)
  (h_push7 : ∀ w b1 b2 b3, PushRun (env0 K w b1 b2 b3) 7)
  (h_push8 : ∀ w b1 b2 b3, PushRun (env0 K w b1 b2 b3) 8)
  (h_push9 : ∀ w b1 b2 b3, PushRun (env0 K w b1 b2 b3) 9)
  (h_push10 : ∀ w b1 b2 b3, PushRun (env0 K w b1 b2 b3) 10)
  (h_count0 : ∀ w b1 b2 b3, CountRun (env0 K w b1 b2 b3) 0)
  (h_count1 : ∀ w b1 b2 b3, CountRun (env0 K w b1 b2 b3) 1)
  (h_count2 : ∀ w b1 b2 b3, CountRun (env0 K w b1 b2 b3) 2)
  (h_count3 : ∀ w b1 b2 b3, CountRun (env0 K w b1 b2 b3) 3)
  (h_count4 : ∀ w b1 b2 b3, CountRun (env0 K w b1 b2 b3) 4)
  (h_count5 : ∀ w b1 b2 b3, CountRun (env0 K w b1 b2 b3) 5)
  (h_count6 : ∀ w b1 b2 b3, CountRun (env0 K w b1 b2 b3) 6)
  (h_count7 : ∀ w b1 b2 b3, CountRun (env0 K w b1 b2 b3) 7)
  (h_count8 : ∀ w b1 b2 b3, CountRun (env0 K w b1 b2 b3) 8)
  (h_count9 : ∀ w b1 b2 b3, CountRun (env0 K w b1 b2 b3) 9)
  (h_count10 : ∀ w b1 b2 b3, CountRun (env0 K w b1 b2 b3) 10)
  (h_pop0 : ∀ w b1 b2 b3, PopRun (env0 K w b1 b2 b3) 0)
  (h_pop1 : ∀ w b1 b2 b3, PopRun (env0 K w b1 b2 b3) 1)
  (h_pop2 : ∀ w b1 b2 b3, PopRun (env0 K w b1 b2 b3) 2)
  (h_pop3 : ∀ w b1 b2 b3, PopRun (env0 K w b1 b2 b3) 3)
  (h_pop4 : ∀ w b1 b2 b3, PopRun (env0 K w b1 b2 b3) 4)
  (h_pop5 : ∀ w b1 b2 b3, PopRun (env0 K w b1 b2 b3) 5)
  (h_pop6 : ∀ w b1 b2 b3, PopRun (env0 K w b1 b2 b3) 6)
  (h_pop7 : ∀ w b1 b2 b3, PopRun (env0 K w b1 b2 b3) 7)
  (h_pop8 : ∀ w b1 b2 b3, PopRun (env0 K w b1 b2 b3) 8)
  (h_pop9 : ∀ w b1 b2 b3, PopRun (env0 K w b1 b2 b3) 9)
  (h_lenN0 : ∀ w b1 b2 b3, LenRun (env0 K w b1 b2 b3) 0 none)
  (h_lenN1 : ∀ w b1 b2 b3, LenRun (env0 K w b1 b2 b3) 1 none)
  (h_lenN2 : ∀ w b1 b2 b3, LenRun (env0 K w b1 b2 b3) 2 none)
  (h_lenN3 : ∀ w b1 b2 b3, LenRun (env0 K w b1 b2 b3) 3 none)
  (h_lenN4 : ∀ w b1 b2 b3, LenRun (env0 K w b1 b2 b3) 4 none)
  (h_lenN5 : ∀ w b1 b2 b3, LenRun (env0 K w b1 b2 b3) 5 none)
  (h_lenN6 : ∀ w b1 b2 b3, LenRun (env0 K w b1 b2 b3) 6 none)
  (h_lenN7 : ∀ w b1 b2 b3, LenRun (env0 K w b1 b2 b3) 7 none)
  (h_lenN8 : ∀ w b1 b2 b3, LenRun (env0 K w b1 b2 b3) 8 none)
  (h_lenN9 : ∀ w b1 b2 b3, LenRun (env0 K w b1 b2 b3) 9 none)
  (h_lenN10 : ∀ w b1 b2 b3, LenRun (env0 K w b1 b2 b3) 10 none)
  (h_lenS0 : ∀ w b1 b2 b3, ∀ a, LenRun (env0 K w b1 b2 b3) 0 (some a))
  (h_lenS1 : ∀ w b1 b2 b3, ∀ a, LenRun (env0 K w b1 b2 b3) 1 (some a))
  (h_lenS2 : ∀ w b1 b2 b3, ∀ a, LenRun (env0 K w b1 b2 b3) 2 (some a))
  (h_lenS3 : ∀ w b1 b2 b3, ∀ a, LenRun (env0 K w b1 b2 b3) 3 (some a))
  (h_lenS4 : ∀ w b1 b2 b3, ∀ a, LenRun (env0 K w b1 b2 b3) 4 (some a))
  (h_lenS5 : ∀ w b1 b2 b3, ∀ a, LenRun (env0 K w b1 b2 b3) 5 (some a))
  (h_lenS6 : ∀ w b1 b2 b3, ∀ a, LenRun (env0 K w b1 b2 b3) 6 (some a))
  (h_lenS7 : ∀ w b1 b2 b3, ∀ a, LenRun (env0 K w b1 b2 b3) 7 (some a))
  (h_lenS8 : ∀ w b1 b2 b3, ∀ a, LenRun (env0 K w b1 b2 b3) 8 (some a))
  (h_lenS9 : ∀ w b1 b2 b3, ∀ a, LenRun (env0 K w b1 b2 b3) 9 (some a))
  (h_lenS10 : ∀ w b1 b2 b3, ∀ a, LenRun (env0 K w b1 b2 b3) 10 (some a))
  (h_strN0 : ∀ w b1 b2 b3, StrRun (env0 K w b1 b2 b3) 0 none)
  (h_strN1 : ∀ w b1 b2 b3, StrRun (env0 K w b1 b2 b3) 1 none)
  (h_strN2 : ∀ w b1 b2 b3, StrRun (env0 K w b1 b2 b3) 2 none)
  (h_strN3 : ∀ w b1 b2 b3, StrRun (env0 K w b1 b2 b3) 3 none)
  (h_strN4 : ∀ w b1 b2 b3, StrRun (env0 K w b1 b2 b3) 4 none)
  (h_strN5 : ∀ w b1 b2 b3, StrRun (env0 K w b1 b2 b3) 5 none)
  (h_strN6 : ∀ w b1 b2 b3, StrRun (env0 K w b1 b2 b3) 6 none)
  (h_strN7 : ∀ w b1 b2 b3, StrRun (env0 K w b1 b2 b3) 7 none)
  (h_strN8 : ∀ w b1 b2 b3, StrRun (env0 K w b1 b2 b3) 8 none)
  (h_strN9 : ∀ w b1 b2 b3, StrRun (env0 K w b1 b2 b3) 9 none)
  (h_strN10 : ∀ w b1 b2 b3, StrRun (env0 K w b1 b2 b3) 10 none)
  (h_strS0 : ∀ w b1 b2 b3, ∀ a, StrRun (env0 K w b1 b2 b3) 0 (some a))
  (h_strS1 : ∀ w b1 b2 b3, ∀ a, StrRun (env0 K w b1 b2 b3) 1 (some a))
  (h_strS2 : ∀ w b1 b2 b3, ∀ a, StrRun (env0 K w b1 b2 b3) 2 (some a))
  (h_strS3 : ∀ w b1 b2 b3, ∀ a, StrRun (env0 K w b1 b2 b3) 3 (some a))
  (h_strS4 : ∀ w b1 b2 b3, ∀ a, StrRun (env0 K w b1 b2 b3) 4 (some a))
  (h_strS5 : ∀ w b1 b2 b3, ∀ a, StrRun (env0 K w b1 b2 b3) 5 (some a))
  (h_strS6 : ∀ w b1 b2 b3, ∀ a, StrRun (env0 K w b1 b2 b3) 6 (some a))
  (h_strS7 : ∀ w b1 b2 b3, ∀ a, StrRun (env0 K w b1 b2 b3) 7 (some a))
  (h_strS8 : ∀ w b1 b2 b3, ∀ a, StrRun (env0 K w b1 b2 b3) 8 (some a))
  (h_strS9 : ∀ w b1 b2 b3, ∀ a, StrRun (env0 K w b1 b2 b3) 9 (some a))
  (h_strS10 : ∀ w b1 b2 b3, ∀ a, StrRun (env0 K w b1 b2 b3) 10 (some a))
  (h_new : ∀ w b1 b2 b3, NewRun (env0 K w b1 b2 b3))
  (h_hq_d1 : ∀ w b1 b2 b3, SdEnd (env0 K w b1 b2 b3))
  (h_hq_d2 : ∀ w b1 b2 b3, SdBrk (env0 K w b1 b2 b3))
  (h_hq_d3 : ∀ w b1 b2 b3, SdMov (env0 K w b1 b2 b3))
  (h_hq_u1 : ∀ w b1 b2 b3, SuEnd (env0 K w b1 b2 b3))
  (h_hq_u2 : ∀ w b1 b2 b3, SuOnly (env0 K w b1 b2 b3))
  (h_hq_u3 : ∀ w b1 b2 b3, SuLeft (env0 K w b1 b2 b3))
  (h_hq_u4 : ∀ w b1 b2 b3, SuRight (env0 K w b1 b2 b3))
  (h_hq_fn : ∀ w b1 b2 b3, SuFn (env0 K w b1 b2 b3))
  (h_lenB0 : ∀ w b1 b2 b3, LenB1 (env0 K w b1 b2 b3) 0)
  (h_lenB1 : ∀ w b1 b2 b3, LenB1 (env0 K w b1 b2 b3) 1)
  (h_lenB2 : ∀ w b1 b2 b3, LenB1 (env0 K w b1 b2 b3) 2)
  (h_lenB3 : ∀ w b1 b2 b3, LenB1 (env0 K w b1 b2 b3) 3)
  (h_lenB4 : ∀ w b1 b2 b3, LenB1 (env0 K w b1 b2 b3) 4)
  (h_lenB5 : ∀ w b1 b2 b3, LenB1 (env0 K w b1 b2 b3) 5)
  (h_lenB6 : ∀ w b1 b2 b3, LenB1 (env0 K w b1 b2 b3) 6)
  (h_lenB7 : ∀ w b1 b2 b3, LenB1 (env0 K w b1 b2 b3) 7)
  (h_lenB8 : ∀ w b1 b2 b3, LenB1 (env0 K w b1 b2 b3) 8)
  (h_lenB9 : ∀ w b1 b2 b3, LenB1 (env0 K w b1 b2 b3) 9)
  (h_lenB10 : ∀ w b1 b2 b3, LenB1 (env0 K w b1 b2 b3) 10)
  (h_rcTurn : ∀ w b1 b2 b3, RcTurn (env0 K w b1 b2 b3))
  (h_rcEnd : ∀ w b1 b2 b3, RcEnd (env0 K w b1 b2 b3))
  (h_rcStart : ∀ w b1 b2 b3, RcStart (env0 K w b1 b2 b3))
  (h_rwEnd : ∀ w b1 b2 b3, RwEnd (env0 K w b1 b2 b3))
  (h_rwA0 : ∀ w b1 b2 b3, RwA1 (env0 K w b1 b2 b3) 0)
  (h_rwA1 : ∀ w b1 b2 b3, RwA1 (env0 K w b1 b2 b3) 1)
  (h_rwA2 : ∀ w b1 b2 b3, RwA1 (env0 K w b1 b2 b3) 2)
  (h_rwA3 : ∀ w b1 b2 b3, RwA1 (env0 K w b1 b2 b3) 3)
  (h_rwA4 : ∀ w b1 b2 b3, RwA1 (env0 K w b1 b2 b3) 4)
  (h_rwA5 : ∀ w b1 b2 b3, RwA1 (env0 K w b1 b2 b3) 5)
  (h_rwA6 : ∀ w b1 b2 b3, RwA1 (env0 K w b1 b2 b3) 6)
  (h_rwA7 : ∀ w b1 b2 b3, RwA1 (env0 K w b1 b2 b3) 7)
  (h_rwA8 : ∀ w b1 b2 b3, RwA1 (env0 K w b1 b2 b3) 8)
  (h_rwA9 : ∀ w b1 b2 b3, RwA1 (env0 K w b1 b2 b3) 9)
  (h_rwA10 : ∀ w b1 b2 b3, RwA1 (env0 K w b1 b2 b3) 10)
  (h_rwB : ∀ w b1 b2 b3, RwB (env0 K w b1 b2 b3))
  (h_hp0 : ∀ w b1 b2 b3, HpRunN (env0 K w b1 b2 b3) 0)
  (h_hp1 : ∀ w b1 b2 b3, HpRunN (env0 K w b1 b2 b3) 1)
  (h_hp2 : ∀ w b1 b2 b3, HpRunN (env0 K w b1 b2 b3) 2)
  (h_hp3 : ∀ w b1 b2 b3, HpRunN (env0 K w b1 b2 b3) 3)
  (h_hp4 : ∀ w b1 b2 b3, HpRunN (env0 K w b1 b2 b3) 4)
  (h_hp5 : ∀ w b1 b2 b3, HpRunN (env0 K w b1 b2 b3) 5)
  (h_hp6 : ∀ w b1 b2 b3, HpRunN (env0 K w b1 b2 b3) 6)
  (h_hp7 : ∀ w b1 b2 b3, HpRunN (env0 K w b1 b2 b3) 7)
  (h_hp8 : ∀ w b1 b2 b3, HpRunN (env0 K w b1 b2 b3) 8)
  (h_hp9 : ∀ w b1 b2 b3, HpRunN (env0 K w b1 b2 b3) 9)
  (h_hp10 : ∀ w b1 b2 b3, HpRunN (env0 K w b1 b2 b3) 10)
  (h_rowR : ∀ w b1 b2 b3, RowRun (env0 K w b1 b2 b3))
  (h_mvTurn : ∀ w b1 b2 b3, MvTurn (env0 K w b1 b2 b3))
  (h_mvEnd : ∀ w b1 b2 b3, MvEnd (env0 K w b1 b2 b3))
  (h_mcTurn : ∀ w b1 b2 b3, McTurn (env0 K w b1 b2 b3))
  (h_mcEnd : ∀ w b1 b2 b3, McEnd (env0 K w b1 b2 b3))
  (h_mcStart : ∀ w b1 b2 b3, McStart (env0 K w b1 b2 b3))
  (h_moveR : ∀ w b1 b2 b3, MoveRun (env0 K w b1 b2 b3))
  (h_lwT : ∀ w b1 b2 b3, LwTurn (env0 K w b1 b2 b3))
  (h_lwE : ∀ w b1 b2 b3, LwEnd (env0 K w b1 b2 b3))
  (h_mkA : ∀ w b1 b2 b3, MkA (env0 K w b1 b2 b3))
  (h_mkB : ∀ w b1 b2 b3, MkB (env0 K w b1 b2 b3))
  (h_mkE1 : ∀ w b1 b2 b3, MkE1 (env0 K w b1 b2 b3))
  (h_mkE2 : ∀ w b1 b2 b3, MkE2 (env0 K w b1 b2 b3))
  (h_mkS : ∀ w b1 b2 b3, MkS (env0 K w b1 b2 b3))
  (h_m1_1 : ∀ w b1 b2 b3, MarksR1 (env0 K w b1 b2 b3) 1)
  (h_m1_2 : ∀ w b1 b2 b3, MarksR1 (env0 K w b1 b2 b3) 2)
  (h_m1_3 : ∀ w b1 b2 b3, MarksR1 (env0 K w b1 b2 b3) 3)
  (h_m1_4 : ∀ w b1 b2 b3, MarksR1 (env0 K w b1 b2 b3) 4)
  (h_m2_1 : ∀ w b1 b2 b3, MarksR2 (env0 K w b1 b2 b3) 1)
  (h_m2_2 : ∀ w b1 b2 b3, MarksR2 (env0 K w b1 b2 b3) 2)
  (h_m2_3 : ∀ w b1 b2 b3, MarksR2 (env0 K w b1 b2 b3) 3)
  (h_m2_4 : ∀ w b1 b2 b3, MarksR2 (env0 K w b1 b2 b3) 4)
  (h_m3_1 : ∀ w b1 b2 b3, MarksR3 (env0 K w b1 b2 b3) 1)
  (h_m3_2 : ∀ w b1 b2 b3, MarksR3 (env0 K w b1 b2 b3) 2)
  (h_m3_3 : ∀ w b1 b2 b3, MarksR3 (env0 K w b1 b2 b3) 3)
  (h_m3_4 : ∀ w b1 b2 b3, MarksR3 (env0 K w b1 b2 b3) 4)
  (h_fk1_1 : ∀ w b1 b2 b3, Fk1 (env0 K w b1 b2 b3) 1)
  (h_fk1_2 : ∀ w b1 b2 b3, Fk1 (env0 K w b1 b2 b3) 2)
  (h_fk1_3 : ∀ w b1 b2 b3, Fk1 (env0 K w b1 b2 b3) 3)
  (h_fk1_4 : ∀ w b1 b2 b3, Fk1 (env0 K w b1 b2 b3) 4)
  (h_fk2_1 : ∀ w b1 b2 b3, Fk2 (env0 K w b1 b2 b3) 1)
  (h_fk2_2 : ∀ w b1 b2 b3, Fk2 (env0 K w b1 b2 b3) 2)
  (h_fk2_3 : ∀ w b1 b2 b3, Fk2 (env0 K w b1 b2 b3) 3)
  (h_fk2_4 : ∀ w b1 b2 b3, Fk2 (env0 K w b1 b2 b3) 4)
  (h_fk3_1 : ∀ w b1 b2 b3, Fk3 (env0 K w b1 b2 b3) 1)
  (h_fk3_2 : ∀ w b1 b2 b3, Fk3 (env0 K w b1 b2 b3) 2)
  (h_fk3_3 : ∀ w b1 b2 b3, Fk3 (env0 K w b1 b2 b3) 3)
  (h_fk3_4 : ∀ w b1 b2 b3, Fk3 (env0 K w b1 b2 b3) 4)
  (h_fkE : ∀ w b1 b2 b3, FkE (env0 K w b1 b2 b3))
  (h_fi6 : ∀ w b1 b2 b3, FiTurn (env0 K w b1 b2 b3) 6)
  (h_fi7 : ∀ w b1 b2 b3, FiTurn (env0 K w b1 b2 b3) 7)
  (h_fiE : ∀ w b1 b2 b3, FiEnd (env0 K w b1 b2 b3))
  (h_fo3 : ∀ w b1 b2 b3, FoTurn (env0 K w b1 b2 b3) 3 6)
  (h_fo7 : ∀ w b1 b2 b3, FoTurn (env0 K w b1 b2 b3) 7 7)
  (h_foP : ∀ w b1 b2 b3, FoPass (env0 K w b1 b2 b3))
  (h_foE : ∀ w b1 b2 b3, FoEnd (env0 K w b1 b2 b3))
  (h_c1_1 : ∀ w b1 b2 b3, C1Run (env0 K w b1 b2 b3) 1 1)
  (h_c1_2 : ∀ w b1 b2 b3, C1Run (env0 K w b1 b2 b3) 2 1)
  (h_c1_3 : ∀ w b1 b2 b3, C1Run (env0 K w b1 b2 b3) 3 2)
  (h_c1_4 : ∀ w b1 b2 b3, C1Run (env0 K w b1 b2 b3) 4 2)
  (h_c1_5 : ∀ w b1 b2 b3, C1Run (env0 K w b1 b2 b3) 5 2)
  (h_c1_6 : ∀ w b1 b2 b3, C1Run (env0 K w b1 b2 b3) 6 3)
  (h_c1_7 : ∀ w b1 b2 b3, C1Run (env0 K w b1 b2 b3) 7 3)
  (h_c1_8 : ∀ w b1 b2 b3, C1Run (env0 K w b1 b2 b3) 8 3)
  (h_c1_9 : ∀ w b1 b2 b3, C1Run (env0 K w b1 b2 b3) 9 3)
  (h_c1_10 : ∀ w b1 b2 b3, C1Run (env0 K w b1 b2 b3) 10 4)
  (h_c2_1 : ∀ w b1 b2 b3, C2Run (env0 K w b1 b2 b3) 1)
  (h_c2_2 : ∀ w b1 b2 b3, C2Run (env0 K w b1 b2 b3) 2)
  (h_c2_3 : ∀ w b1 b2 b3, C2Run (env0 K w b1 b2 b3) 3)
  (h_c2_4 : ∀ w b1 b2 b3, C2Run (env0 K w b1 b2 b3) 4)
  (h_tr_1 : ∀ w b1 b2 b3, TrRun (env0 K w b1 b2 b3) 1)
  (h_tr_2 : ∀ w b1 b2 b3, TrRun (env0 K w b1 b2 b3) 2)
  (h_tr_3 : ∀ w b1 b2 b3, TrRun (env0 K w b1 b2 b3) 3)
  (h_tr_4 : ∀ w b1 b2 b3, TrRun (env0 K w b1 b2 b3) 4)
  (h_strB : ∀ w b1 b2 b3, StrBRun (env0 K w b1 b2 b3))
  (h_scT : ∀ w b1 b2 b3, ScTurn (env0 K w b1 b2 b3))
  (h_scE : ∀ w b1 b2 b3, ScEnd (env0 K w b1 b2 b3))
  (h_scS : ∀ w b1 b2 b3, ScStart (env0 K w b1 b2 b3))
  (h_law_1 : ∀ w b1 b2 b3, LawRun (env0 K w b1 b2 b3) true 1)
  (h_law_2 : ∀ w b1 b2 b3, LawRun (env0 K w b1 b2 b3) true 2)
  (h_law_3 : ∀ w b1 b2 b3, LawRun (env0 K w b1 b2 b3) true 3)
  (h_law_4 : ∀ w b1 b2 b3, LawRun (env0 K w b1 b2 b3) true 4)
  (h_lawE : ∀ w b1 b2 b3, LawRun (env0 K w b1 b2 b3) false 3)
  : AllRuns K := AllRuns.mk fun w b1 b2 b3 => by
  have cls : ClsRuns (env0 K w b1 b2 b3) := by
    refine ⟨fun k h => ?_, fun k h => ?_, fun k h => ?_, h_new w b1 b2 b3, fun k h T => ?_, fun k h T => ?_⟩
    · exact lts11 (P := PushRun (env0 K w b1 b2 b3)) (h_push0 w b1 b2 b3) (h_push1 w b1 b2 b3) (h_push2 w b1 b2 b3) (h_push3 w b1 b2 b3) (h_push4 w b1 b2 b3) (h_push5 w b1 b2 b3) (h_push6 w b1 b2 b3) (h_push7 w b1 b2 b3) (h_push8 w b1 b2 b3) (h_push9 w b1 b2 b3) (h_push10 w b1 b2 b3) k h
    · exact lts11 (P := CountRun (env0 K w b1 b2 b3)) (h_count0 w b1 b2 b3) (h_count1 w b1 b2 b3) (h_count2 w b1 b2 b3) (h_count3 w b1 b2 b3) (h_count4 w b1 b2 b3) (h_count5 w b1 b2 b3) (h_count6 w b1 b2 b3) (h_count7 w b1 b2 b3) (h_count8 w b1 b2 b3) (h_count9 w b1 b2 b3) (h_count10 w b1 b2 b3) k h
    · exact lts10 (P := fun k => PopRun (env0 K w b1 b2 b3) k) (h_pop0 w b1 b2 b3) (h_pop1 w b1 b2 b3) (h_pop2 w b1 b2 b3) (h_pop3 w b1 b2 b3) (h_pop4 w b1 b2 b3) (h_pop5 w b1 b2 b3) (h_pop6 w b1 b2 b3) (h_pop7 w b1 b2 b3) (h_pop8 w b1 b2 b3) (h_pop9 w b1 b2 b3) k h
    · cases T with
      | none => exact lts11 (P := fun k => LenRun (env0 K w b1 b2 b3) k none) (h_lenN0 w b1 b2 b3) (h_lenN1 w b1 b2 b3) (h_lenN2 w b1 b2 b3) (h_lenN3 w b1 b2 b3) (h_lenN4 w b1 b2 b3) (h_lenN5 w b1 b2 b3) (h_lenN6 w b1 b2 b3) (h_lenN7 w b1 b2 b3) (h_lenN8 w b1 b2 b3) (h_lenN9 w b1 b2 b3) (h_lenN10 w b1 b2 b3) k h
      | some a => exact lts11 (P := fun k => LenRun (env0 K w b1 b2 b3) k (some a)) (h_lenS0 w b1 b2 b3 a) (h_lenS1 w b1 b2 b3 a) (h_lenS2 w b1 b2 b3 a) (h_lenS3 w b1 b2 b3 a) (h_lenS4 w b1 b2 b3 a) (h_lenS5 w b1 b2 b3 a) (h_lenS6 w b1 b2 b3 a) (h_lenS7 w b1 b2 b3 a) (h_lenS8 w b1 b2 b3 a) (h_lenS9 w b1 b2 b3 a) (h_lenS10 w b1 b2 b3 a) k h
    · cases T with
      | none => exact lts11 (P := fun k => StrRun (env0 K w b1 b2 b3) k none) (h_strN0 w b1 b2 b3) (h_strN1 w b1 b2 b3) (h_strN2 w b1 b2 b3) (h_strN3 w b1 b2 b3) (h_strN4 w b1 b2 b3) (h_strN5 w b1 b2 b3) (h_strN6 w b1 b2 b3) (h_strN7 w b1 b2 b3) (h_strN8 w b1 b2 b3) (h_strN9 w b1 b2 b3) (h_strN10 w b1 b2 b3) k h
      | some a => exact lts11 (P := fun k => StrRun (env0 K w b1 b2 b3) k (some a)) (h_strS0 w b1 b2 b3 a) (h_strS1 w b1 b2 b3 a) (h_strS2 w b1 b2 b3 a) (h_strS3 w b1 b2 b3 a) (h_strS4 w b1 b2 b3 a) (h_strS5 w b1 b2 b3 a) (h_strS6 w b1 b2 b3 a) (h_strS7 w b1 b2 b3 a) (h_strS8 w b1 b2 b3 a) (h_strS9 w b1 b2 b3 a) (h_strS10 w b1 b2 b3 a) k h
  have hq : HqRuns (env0 K w b1 b2 b3) := ⟨h_hq_d1 w b1 b2 b3, h_hq_d2 w b1 b2 b3, h_hq_d3 w b1 b2 b3, h_hq_u1 w b1 b2 b3, h_hq_u2 w b1 b2 b3, h_hq_u3 w b1 b2 b3, h_hq_u4 w b1 b2 b3, h_hq_fn w b1 b2 b3⟩
  have lb : LenBRun (env0 K w b1 b2 b3) := fun k h => lts11 (P := LenB1 (env0 K w b1 b2 b3)) (h_lenB0 w b1 b2 b3) (h_lenB1 w b1 b2 b3) (h_lenB2 w b1 b2 b3) (h_lenB3 w b1 b2 b3) (h_lenB4 w b1 b2 b3) (h_lenB5 w b1 b2 b3) (h_lenB6 w b1 b2 b3) (h_lenB7 w b1 b2 b3) (h_lenB8 w b1 b2 b3) (h_lenB9 w b1 b2 b3) (h_lenB10 w b1 b2 b3) k h
  have ra : RwA (env0 K w b1 b2 b3) := fun k h => lts11 (P := RwA1 (env0 K w b1 b2 b3)) (h_rwA0 w b1 b2 b3) (h_rwA1 w b1 b2 b3) (h_rwA2 w b1 b2 b3) (h_rwA3 w b1 b2 b3) (h_rwA4 w b1 b2 b3) (h_rwA5 w b1 b2 b3) (h_rwA6 w b1 b2 b3) (h_rwA7 w b1 b2 b3) (h_rwA8 w b1 b2 b3) (h_rwA9 w b1 b2 b3) (h_rwA10 w b1 b2 b3) k h
  have hp : HpRun (env0 K w b1 b2 b3) := fun k h => lts11 (P := HpRunN (env0 K w b1 b2 b3)) (h_hp0 w b1 b2 b3) (h_hp1 w b1 b2 b3) (h_hp2 w b1 b2 b3) (h_hp3 w b1 b2 b3) (h_hp4 w b1 b2 b3) (h_hp5 w b1 b2 b3) (h_hp6 w b1 b2 b3) (h_hp7 w b1 b2 b3) (h_hp8 w b1 b2 b3) (h_hp9 w b1 b2 b3) (h_hp10 w b1 b2 b3) k h
  have row : RowRuns (env0 K w b1 b2 b3) := ⟨cls, hq, hp, ⟨h_rwEnd w b1 b2 b3, ra, h_rwB w b1 b2 b3⟩, lb, h_rcTurn w b1 b2 b3, h_rcEnd w b1 b2 b3, h_rcStart w b1 b2 b3, h_rowR w b1 b2 b3⟩
  have move : MoveRuns (env0 K w b1 b2 b3) := ⟨cls, h_mvTurn w b1 b2 b3, h_mvEnd w b1 b2 b3, h_mcStart w b1 b2 b3, h_mcTurn w b1 b2 b3, h_mcEnd w b1 b2 b3, h_moveR w b1 b2 b3⟩
  have m1 : ∀ s, 1 ≤ s ∧ s ≤ 4 → MarksR1 (env0 K w b1 b2 b3) s := fun s h => s14 (P := fun k => MarksR1 (env0 K w b1 b2 b3) k) (h_m1_1 w b1 b2 b3) (h_m1_2 w b1 b2 b3) (h_m1_3 w b1 b2 b3) (h_m1_4 w b1 b2 b3) s h
  have m2 : ∀ s, 1 ≤ s ∧ s ≤ 4 → MarksR2 (env0 K w b1 b2 b3) s := fun s h => s14 (P := fun k => MarksR2 (env0 K w b1 b2 b3) k) (h_m2_1 w b1 b2 b3) (h_m2_2 w b1 b2 b3) (h_m2_3 w b1 b2 b3) (h_m2_4 w b1 b2 b3) s h
  have m3 : ∀ s, 1 ≤ s ∧ s ≤ 4 → MarksR3 (env0 K w b1 b2 b3) s := fun s h => s14 (P := fun k => MarksR3 (env0 K w b1 b2 b3) k) (h_m3_1 w b1 b2 b3) (h_m3_2 w b1 b2 b3) (h_m3_3 w b1 b2 b3) (h_m3_4 w b1 b2 b3) s h
  have f1 : ∀ s, 1 ≤ s ∧ s ≤ 4 → Fk1 (env0 K w b1 b2 b3) s := fun s h => s14 (P := fun k => Fk1 (env0 K w b1 b2 b3) k) (h_fk1_1 w b1 b2 b3) (h_fk1_2 w b1 b2 b3) (h_fk1_3 w b1 b2 b3) (h_fk1_4 w b1 b2 b3) s h
  have f2 : ∀ s, 1 ≤ s ∧ s ≤ 4 → Fk2 (env0 K w b1 b2 b3) s := fun s h => s14 (P := fun k => Fk2 (env0 K w b1 b2 b3) k) (h_fk2_1 w b1 b2 b3) (h_fk2_2 w b1 b2 b3) (h_fk2_3 w b1 b2 b3) (h_fk2_4 w b1 b2 b3) s h
  have f3 : ∀ s, 1 ≤ s ∧ s ≤ 4 → Fk3 (env0 K w b1 b2 b3) s := fun s h => s14 (P := fun k => Fk3 (env0 K w b1 b2 b3) k) (h_fk3_1 w b1 b2 b3) (h_fk3_2 w b1 b2 b3) (h_fk3_3 w b1 b2 b3) (h_fk3_4 w b1 b2 b3) s h
  have fk : FkRuns (env0 K w b1 b2 b3) := ⟨⟨⟨h_mkS w b1 b2 b3, h_mkA w b1 b2 b3, h_mkB w b1 b2 b3, h_mkE1 w b1 b2 b3, h_mkE2 w b1 b2 b3⟩, m1, m2, m3⟩, f1, f2, f3, h_fkE w b1 b2 b3⟩
  have fo : FoRuns (env0 K w b1 b2 b3) := ⟨⟨cls, h_fi6 w b1 b2 b3, h_fi7 w b1 b2 b3, h_fiE w b1 b2 b3⟩, h_fo3 w b1 b2 b3, h_fo7 w b1 b2 b3, h_foP w b1 b2 b3, h_foE w b1 b2 b3⟩
  have c1 : ∀ n, 1 ≤ n ∧ n ≤ 10 → C1Run (env0 K w b1 b2 b3) n (stpF n) := fun n h => n110 (P := fun k => C1Run (env0 K w b1 b2 b3) k (stpF k)) (h_c1_1 w b1 b2 b3) (h_c1_2 w b1 b2 b3) (h_c1_3 w b1 b2 b3) (h_c1_4 w b1 b2 b3) (h_c1_5 w b1 b2 b3) (h_c1_6 w b1 b2 b3) (h_c1_7 w b1 b2 b3) (h_c1_8 w b1 b2 b3) (h_c1_9 w b1 b2 b3) (h_c1_10 w b1 b2 b3) n h
  have c2 : ∀ s, 1 ≤ s ∧ s ≤ 4 → C2Run (env0 K w b1 b2 b3) s := fun s h => s14 (P := fun k => C2Run (env0 K w b1 b2 b3) k) (h_c2_1 w b1 b2 b3) (h_c2_2 w b1 b2 b3) (h_c2_3 w b1 b2 b3) (h_c2_4 w b1 b2 b3) s h
  have tr : ∀ s, 1 ≤ s ∧ s ≤ 4 → TrRun (env0 K w b1 b2 b3) s := fun s h => s14 (P := fun k => TrRun (env0 K w b1 b2 b3) k) (h_tr_1 w b1 b2 b3) (h_tr_2 w b1 b2 b3) (h_tr_3 w b1 b2 b3) (h_tr_4 w b1 b2 b3) s h
  have lw : ∀ s, 1 ≤ s ∧ s ≤ 4 → LawRun (env0 K w b1 b2 b3) true s := fun s h => s14 (P := fun k => LawRun (env0 K w b1 b2 b3) true k) (h_law_1 w b1 b2 b3) (h_law_2 w b1 b2 b3) (h_law_3 w b1 b2 b3) (h_law_4 w b1 b2 b3) s h
  exact ⟨fo, c1, c2, tr, ⟨row, move, h_lwT w b1 b2 b3, h_lwE w b1 b2 b3⟩, fk, ⟨cls, h_strB w b1 b2 b3, h_scT w b1 b2 b3, h_scE w b1 b2 b3, h_scS w b1 b2 b3⟩, lw, h_lawE w b1 b2 b3⟩
end Sol
namespace Sol
open PySem PySem.W PySem.W.X PyProof.Rows
theorem said0 : PySem.Challenge.rw_in0248_01.wellSaid = true := by decide +kernel
theorem law_of (h : PySem.Challenge.rw_in0248_01.row.wellSaid = true → PySem.Challenge.rw_in0248_01.row.Holds) : PySem.Challenge.rw_in0248_01.Holds := holds_law said0 h
end Sol
namespace Sol
open PySem PySem.W PySem.W.X PyProof.Rows
noncomputable def kE (P : Params) (s : List Nat) (t : Nat) (v : Value) : DictEntry := ⟨PySem.PyData.keyHash P ⟨⟨s⟩⟩, .str ⟨⟨s⟩⟩ t, v⟩
noncomputable def nthT : List Stmt → Nat → Stmt
  | s :: _, 0 => s
  | _ :: l, n + 1 => nthT l n
  | [], _ => .Pass default
noncomputable def st1 (i : Nat) : Stmt := nthT PySem.Challenge.pw_in0248_01.main.body i
noncomputable def clsB : Stmt → List Stmt
  | .ClassDef _ _ _ b _ _ _ _ _ _ _ => b
  | _ => []
noncomputable def st2 (i j : Nat) : Stmt := nthT (clsB (st1 i)) j
noncomputable def fdA : Stmt → Arguments
  | .FunctionDef _ a _ _ _ _ _ _ _ _ => a
  | _ => default
noncomputable def fdB : Stmt → FuncBody
  | .FunctionDef _ _ b _ _ _ _ _ _ _ => .stmts b
  | _ => default
noncomputable def fdS : Stmt → Scope
  | .FunctionDef _ _ _ _ _ _ s _ _ _ => s
  | _ => default
noncomputable def o0 (P : Params) : Obj := ⟨(.type PySem.W.SZ.s14018661285674007319x4), none, (.dict ⟨[kE P [95, 95, 110, 97, 109, 101, 95, 95] 1 (.str ⟨⟨[98, 117, 105, 108, 116, 105, 110, 115]⟩⟩ 160), kE P [95, 95, 100, 111, 99, 95, 95] 2 (.builtin "builtins.__doc__:str#opaque"), kE P [95, 95, 112, 97, 99, 107, 97, 103, 101, 95, 95] 3 (.builtin "builtins.__package__:str#opaque"), kE P [95, 95, 108, 111, 97, 100, 101, 114, 95, 95] 4 (.builtin "builtins.__loader__:shared#opaque"), kE P [95, 95, 115, 112, 101, 99, 95, 95] 5 (.builtin PySem.W.SZ.s11665532747177232413x24), kE P [95, 95, 98, 117, 105, 108, 100, 95, 99, 108, 97, 115, 115, 95, 95] 6 (.builtin PySem.W.SZ.s15183661809925369436x15), kE P [95, 95, 105, 109, 112, 111, 114, 116, 95, 95] 7 (.builtin PySem.W.SZ.s13915890719876406383x10), kE P [97, 98, 115] 8 (.builtin PySem.W.SZ.s13459172003223722735x3), kE P [97, 108, 108] 9 (.builtin PySem.W.SZ.s10557405761357834076x3), kE P [97, 110, 121] 10 (.builtin PySem.W.SZ.s4233737765568776869x3), kE P [97, 115, 99, 105, 105] 11 (.builtin PySem.W.SZ.s2508922471967985374x5), kE P [98, 105, 110] 12 (.builtin PySem.W.SZ.s15574269061696679450x3), kE P [98, 114, 101, 97, 107, 112, 111, 105, 110, 116] 13 (.builtin PySem.W.SZ.s6016482663378992977x10), kE P [99, 97, 108, 108, 97, 98, 108, 101] 14 (.builtin PySem.W.SZ.s5596568736180474577x8), kE P [99, 104, 114] 15 (.builtin PySem.W.SZ.s2839554839881490554x3), kE P [99, 111, 109, 112, 105, 108, 101] 16 (.builtin PySem.W.SZ.s725004073602090463x7), kE P [100, 101, 108, 97, 116, 116, 114] 17 (.builtin PySem.W.SZ.s9436932552931045734x7), kE P [100, 105, 114] 18 (.builtin PySem.W.SZ.s2754603736356183583x3), kE P [100, 105, 118, 109, 111, 100] 19 (.builtin PySem.W.SZ.s15185746759980889043x6), kE P [101, 118, 97, 108] 20 (.builtin PySem.W.SZ.s8192189862530294059x4), kE P [101, 120, 101, 99] 21 (.builtin PySem.W.SZ.s7038307821325472102x4), kE P [102, 111, 114, 109, 97, 116] 22 (.builtin PySem.W.SZ.s5662562618415449548x6), kE P [103, 101, 116, 97, 116, 116, 114] 23 (.builtin PySem.W.SZ.s15281542589158584767x7), kE P [103, 108, 111, 98, 97, 108, 115] 24 (.builtin PySem.W.SZ.s17651547275483570877x7), kE P [104, 97, 115, 97, 116, 116, 114] 25 (.builtin PySem.W.SZ.s4036449017235975746x7), kE P [104, 97, 115, 104] 26 (.builtin PySem.W.SZ.s8879979712987360175x4), kE P [104, 101, 120] 27 (.builtin PySem.W.SZ.s1801250619170735830x3), kE P [105, 100] 28 (.builtin PySem.W.SZ.s17659931425627118568x2), kE P [105, 110, 112, 117, 116] 29 (.builtin PySem.W.SZ.s6063217899685152688x5), kE P [105, 115, 105, 110, 115, 116, 97, 110, 99, 101] 30 (.builtin PySem.W.SZ.s8008927332132565319x10), kE P [105, 115, 115, 117, 98, 99, 108, 97, 115, 115] 31 (.builtin PySem.W.SZ.s3544116645089599534x10), kE P [105, 116, 101, 114] 32 (.builtin PySem.W.SZ.s13761710972054866084x4), kE P [97, 105, 116, 101, 114] 33 (.builtin PySem.W.SZ.s12896375587409280029x5), kE P [108, 101, 110] 34 (.builtin PySem.W.SZ.s13014049009108672802x3), kE P [108, 111, 99, 97, 108, 115] 35 (.builtin PySem.W.SZ.s13935586738268321596x6), kE P [109, 97, 120] 36 (.builtin PySem.W.SZ.s8200498257699607233x3), kE P [109, 105, 110] 37 (.builtin PySem.W.SZ.s14114244577727609259x3), kE P [110, 101, 120, 116] 38 (.builtin PySem.W.SZ.s1499430450269397089x4), kE P [97, 110, 101, 120, 116] 39 (.builtin PySem.W.SZ.s8755793994789770505x5), kE P [111, 99, 116] 40 (.builtin PySem.W.SZ.s15725212667919936108x3), kE P [111, 114, 100] 41 (.builtin PySem.W.SZ.s15791221867095933363x3), kE P [112, 111, 119] 42 (.builtin PySem.W.SZ.s81309575031448614x3), kE P [112, 114, 105, 110, 116] 43 (.builtin PySem.W.SZ.s8069831620301644142x5), kE P [114, 101, 112, 114] 44 (.builtin PySem.W.SZ.s10061844253413749634x4), kE P [114, 111, 117, 110, 100] 45 (.builtin PySem.W.SZ.s9496514870978017513x5), kE P [115, 101, 116, 97, 116, 116, 114] 46 (.builtin PySem.W.SZ.s8899691144933366716x7), kE P [115, 111, 114, 116, 101, 100] 47 (.builtin PySem.W.SZ.s15201008993051130160x6), kE P [115, 117, 109] 48 (.builtin PySem.W.SZ.s741896355592496720x3), kE P [118, 97, 114, 115] 49 (.builtin PySem.W.SZ.s17925004256654032244x4), kE P [78, 111, 110, 101] 50 .none, kE P [69, 108, 108, 105, 112, 115, 105, 115] 51 .ellipsis, kE P [78, 111, 116, 73, 109, 112, 108, 101, 109, 101, 110, 116, 101, 100] 52 .notImplemented, kE P [70, 97, 108, 115, 101] 53 (.bool false), kE P [84, 114, 117, 101] 54 (.bool true), kE P [98, 111, 111, 108] 55 (.type PySem.W.SZ.s11695548795398191787x4), kE P [109, 101, 109, 111, 114, 121, 118, 105, 101, 119] 56 (.type PySem.W.SZ.s4156966113859768872x10), kE P [98, 121, 116, 101, 97, 114, 114, 97, 121] 57 (.type PySem.W.SZ.s9501651726347032510x9), kE P [98, 121, 116, 101, 115] 58 (.type PySem.W.SZ.s15722918466584999320x5), kE P [99, 108, 97, 115, 115, 109, 101, 116, 104, 111, 100] 59 (.type PySem.W.SZ.s591115383303110208x11), kE P [99, 111, 109, 112, 108, 101, 120] 60 (.type PySem.W.SZ.s15721156781594690315x7), kE P [100, 105, 99, 116] 61 (.type PySem.W.SZ.s14018661285674007319x4), kE P [101, 110, 117, 109, 101, 114, 97, 116, 101] 62 (.type PySem.W.SZ.s14340494229221121180x9), kE P [102, 105, 108, 116, 101, 114] 63 (.type PySem.W.SZ.s13429844117177748173x6), kE P [102, 108, 111, 97, 116] 64 (.type PySem.W.SZ.s16463266125957815391x5), kE P [102, 114, 111, 122, 101, 110, 115, 101, 116] 65 (.type PySem.W.SZ.s4922535414793169389x9), kE P [112, 114, 111, 112, 101, 114, 116, 121] 66 (.type PySem.W.SZ.s8101838861749082086x8), kE P [105, 110, 116] 67 (.type PySem.W.SZ.s7066276694103001551x3), kE P [108, 105, 115, 116] 68 (.type PySem.W.SZ.s9222952809800978799x4), kE P [109, 97, 112] 69 (.type PySem.W.SZ.s462964344163437139x3), kE P [111, 98, 106, 101, 99, 116] 70 (.type PySem.W.SZ.s2742458400755230247x6), kE P [114, 97, 110, 103, 101] 71 (.type PySem.W.SZ.s1438033511350832697x5), kE P [114, 101, 118, 101, 114, 115, 101, 100] 72 (.type PySem.W.SZ.s14365286008749172514x8), kE P [115, 101, 116] 73 (.type PySem.W.SZ.s3642769012341782148x3), kE P [115, 108, 105, 99, 101] 74 (.type PySem.W.SZ.s4674234679698826739x5), kE P [115, 116, 97, 116, 105, 99, 109, 101, 116, 104, 111, 100] 75 (.type PySem.W.SZ.s16656946322747308186x12), kE P [115, 116, 114] 76 (.type PySem.W.SZ.s10796804682411823810x3), kE P [115, 117, 112, 101, 114] 77 (.type PySem.W.SZ.s4290257624100764138x5), kE P [116, 117, 112, 108, 101] 78 (.type PySem.W.SZ.s2766695959194262286x5), kE P [116, 121, 112, 101] 79 (.type PySem.W.SZ.s17162191345867700912x4), kE P [122, 105, 112] 80 (.type PySem.W.SZ.s14339709457334898076x3), kE P [95, 95, 100, 101, 98, 117, 103, 95, 95] 81 (.bool true), kE P [66, 97, 115, 101, 69, 120, 99, 101, 112, 116, 105, 111, 110] 82 (.type PySem.W.SZ.s4278001404047624695x13), kE P [66, 97, 115, 101, 69, 120, 99, 101, 112, 116, 105, 111, 110, 71, 114, 111, 117, 112] 83 (.type PySem.W.SZ.s6585700554429387442x18), kE P [69, 120, 99, 101, 112, 116, 105, 111, 110] 84 (.type PySem.W.SZ.s5946037652744460706x9), kE P [71, 101, 110, 101, 114, 97, 116, 111, 114, 69, 120, 105, 116] 85 (.type PySem.W.SZ.s7410770068591931388x13), kE P [75, 101, 121, 98, 111, 97, 114, 100, 73, 110, 116, 101, 114, 114, 117, 112, 116] 86 (.type PySem.W.SZ.s11817881795495490833x17), kE P [83, 121, 115, 116, 101, 109, 69, 120, 105, 116] 87 (.type PySem.W.SZ.s15679963881808890155x10), kE P [65, 114, 105, 116, 104, 109, 101, 116, 105, 99, 69, 114, 114, 111, 114] 88 (.type PySem.W.SZ.s3871700062485845797x15), kE P [65, 115, 115, 101, 114, 116, 105, 111, 110, 69, 114, 114, 111, 114] 89 (.type PySem.W.SZ.s7689518266570723881x14), kE P [65, 116, 116, 114, 105, 98, 117, 116, 101, 69, 114, 114, 111, 114] 90 (.type PySem.W.SZ.s9001593270443806431x14), kE P [66, 117, 102, 102, 101, 114, 69, 114, 114, 111, 114] 91 (.type PySem.W.SZ.s6882542574934516792x11), kE P [69, 79, 70, 69, 114, 114, 111, 114] 92 (.type PySem.W.SZ.s14403400214490484960x8), kE P [73, 109, 112, 111, 114, 116, 69, 114, 114, 111, 114] 93 (.type PySem.W.SZ.s14457978657717015782x11), kE P [76, 111, 111, 107, 117, 112, 69, 114, 114, 111, 114] 94 (.type PySem.W.SZ.s1753610191782819921x11), kE P [77, 101, 109, 111, 114, 121, 69, 114, 114, 111, 114] 95 (.type PySem.W.SZ.s14119380538032626715x11), kE P [78, 97, 109, 101, 69, 114, 114, 111, 114] 96 (.type PySem.W.SZ.s11437920000406562045x9), kE P [79, 83, 69, 114, 114, 111, 114] 97 (.type PySem.W.SZ.s10852414792293593619x7), kE P [82, 101, 102, 101, 114, 101, 110, 99, 101, 69, 114, 114, 111, 114] 98 (.type PySem.W.SZ.s14816307405966870543x14), kE P [82, 117, 110, 116, 105, 109, 101, 69, 114, 114, 111, 114] 99 (.type PySem.W.SZ.s8682627914449686677x12), kE P [83, 116, 111, 112, 65, 115, 121, 110, 99, 73, 116, 101, 114, 97, 116, 105, 111, 110] 100 (.type PySem.W.SZ.s4428170145600203450x18), kE P [83, 116, 111, 112, 73, 116, 101, 114, 97, 116, 105, 111, 110] 101 (.type PySem.W.SZ.s5991306692159431302x13), kE P [83, 121, 110, 116, 97, 120, 69, 114, 114, 111, 114] 102 (.type PySem.W.SZ.s16067994140765818257x11), kE P [83, 121, 115, 116, 101, 109, 69, 114, 114, 111, 114] 103 (.type PySem.W.SZ.s2327743974964600596x11), kE P [84, 121, 112, 101, 69, 114, 114, 111, 114] 104 (.type PySem.W.SZ.s2804747833354056582x9), kE P [86, 97, 108, 117, 101, 69, 114, 114, 111, 114] 105 (.type PySem.W.SZ.s6070975301684473832x10), kE P [87, 97, 114, 110, 105, 110, 103] 106 (.type PySem.W.SZ.s14270485950484850486x7), kE P [70, 108, 111, 97, 116, 105, 110, 103, 80, 111, 105, 110, 116, 69, 114, 114, 111, 114] 107 (.type PySem.W.SZ.s12041534306414923332x18), kE P [79, 118, 101, 114, 102, 108, 111, 119, 69, 114, 114, 111, 114] 108 (.type PySem.W.SZ.s2531307568338490285x13), kE P [90, 101, 114, 111, 68, 105, 118, 105, 115, 105, 111, 110, 69, 114, 114, 111, 114] 109 (.type PySem.W.SZ.s631175304937289666x17), kE P [66, 121, 116, 101, 115, 87, 97, 114, 110, 105, 110, 103] 110 (.type PySem.W.SZ.s5144983644357021410x12), kE P [68, 101, 112, 114, 101, 99, 97, 116, 105, 111, 110, 87, 97, 114, 110, 105, 110, 103] 111 (.type PySem.W.SZ.s18039099521571816885x18), kE P [69, 110, 99, 111, 100, 105, 110, 103, 87, 97, 114, 110, 105, 110, 103] 112 (.type PySem.W.SZ.s6011586214260557989x15), kE P [70, 117, 116, 117, 114, 101, 87, 97, 114, 110, 105, 110, 103] 113 (.type PySem.W.SZ.s5430567037509283100x13), kE P [73, 109, 112, 111, 114, 116, 87, 97, 114, 110, 105, 110, 103] 114 (.type PySem.W.SZ.s8117915138073963741x13), kE P [80, 101, 110, 100, 105, 110, 103, 68, 101, 112, 114, 101, 99, 97, 116, 105, 111, 110, 87, 97, 114, 110, 105, 110, 103] 115 (.type PySem.W.SZ.s3423317712779056401x25), kE P [82, 101, 115, 111, 117, 114, 99, 101, 87, 97, 114, 110, 105, 110, 103] 116 (.type PySem.W.SZ.s2007317383269046180x15), kE P [82, 117, 110, 116, 105, 109, 101, 87, 97, 114, 110, 105, 110, 103] 117 (.type PySem.W.SZ.s17481586968713580700x14), kE P [83, 121, 110, 116, 97, 120, 87, 97, 114, 110, 105, 110, 103] 118 (.type PySem.W.SZ.s2450899226349176912x13), kE P [85, 110, 105, 99, 111, 100, 101, 87, 97, 114, 110, 105, 110, 103] 119 (.type PySem.W.SZ.s16626165730633575011x14), kE P [85, 115, 101, 114, 87, 97, 114, 110, 105, 110, 103] 120 (.type PySem.W.SZ.s14288496050688921416x11), kE P [66, 108, 111, 99, 107, 105, 110, 103, 73, 79, 69, 114, 114, 111, 114] 121 (.type PySem.W.SZ.s5735081916595925998x15), kE P [67, 104, 105, 108, 100, 80, 114, 111, 99, 101, 115, 115, 69, 114, 114, 111, 114] 122 (.type PySem.W.SZ.s3865607918536308442x17), kE P [67, 111, 110, 110, 101, 99, 116, 105, 111, 110, 69, 114, 114, 111, 114] 123 (.type PySem.W.SZ.s13337502604062700212x15), kE P [70, 105, 108, 101, 69, 120, 105, 115, 116, 115, 69, 114, 114, 111, 114] 124 (.type PySem.W.SZ.s13114017843053701147x15), kE P [70, 105, 108, 101, 78, 111, 116, 70, 111, 117, 110, 100, 69, 114, 114, 111, 114] 125 (.type PySem.W.SZ.s17467278006356818441x17), kE P [73, 110, 116, 101, 114, 114, 117, 112, 116, 101, 100, 69, 114, 114, 111, 114] 126 (.type PySem.W.SZ.s17722149559621369488x16), kE P [73, 115, 65, 68, 105, 114, 101, 99, 116, 111, 114, 121, 69, 114, 114, 111, 114] 127 (.type PySem.W.SZ.s7855274175708717672x17), kE P [78, 111, 116, 65, 68, 105, 114, 101, 99, 116, 111, 114, 121, 69, 114, 114, 111, 114] 128 (.type PySem.W.SZ.s13351283678309829046x18), kE P [80, 101, 114, 109, 105, 115, 115, 105, 111, 110, 69, 114, 114, 111, 114] 129 (.type PySem.W.SZ.s6668348653404991179x15), kE P [80, 114, 111, 99, 101, 115, 115, 76, 111, 111, 107, 117, 112, 69, 114, 114, 111, 114] 130 (.type PySem.W.SZ.s12913350958174193794x18), kE P [84, 105, 109, 101, 111, 117, 116, 69, 114, 114, 111, 114] 131 (.type PySem.W.SZ.s16115879512475548326x12), kE P [73, 110, 100, 101, 110, 116, 97, 116, 105, 111, 110, 69, 114, 114, 111, 114] 132 (.type PySem.W.SZ.s15920661018069861047x16), kE P [95, 73, 110, 99, 111, 109, 112, 108, 101, 116, 101, 73, 110, 112, 117, 116, 69, 114, 114, 111, 114] 133 (.type PySem.W.SZ.s10779130036587390575x21), kE P [73, 110, 100, 101, 120, 69, 114, 114, 111, 114] 134 (.type PySem.W.SZ.s7801419657504700863x10), kE P [75, 101, 121, 69, 114, 114, 111, 114] 135 (.type PySem.W.SZ.s1688129525768580628x8), kE P [77, 111, 100, 117, 108, 101, 78, 111, 116, 70, 111, 117, 110, 100, 69, 114, 114, 111, 114] 136 (.type PySem.W.SZ.s1031832959479892071x19), kE P [78, 111, 116, 73, 109, 112, 108, 101, 109, 101, 110, 116, 101, 100, 69, 114, 114, 111, 114] 137 (.type PySem.W.SZ.s8991790508128307865x19), kE P [80, 121, 116, 104, 111, 110, 70, 105, 110, 97, 108, 105, 122, 97, 116, 105, 111, 110, 69, 114, 114, 111, 114] 138 (.type PySem.W.SZ.s14539662485746970245x23), kE P [82, 101, 99, 117, 114, 115, 105, 111, 110, 69, 114, 114, 111, 114] 139 (.type PySem.W.SZ.s11643622729373238714x14), kE P [85, 110, 98, 111, 117, 110, 100, 76, 111, 99, 97, 108, 69, 114, 114, 111, 114] 140 (.type PySem.W.SZ.s3386828779285465597x17), kE P [85, 110, 105, 99, 111, 100, 101, 69, 114, 114, 111, 114] 141 (.type PySem.W.SZ.s13042696260734638735x12), kE P [66, 114, 111, 107, 101, 110, 80, 105, 112, 101, 69, 114, 114, 111, 114] 142 (.type PySem.W.SZ.s18239426817015966623x15), kE P [67, 111, 110, 110, 101, 99, 116, 105, 111, 110, 65, 98, 111, 114, 116, 101, 100, 69, 114, 114, 111, 114] 143 (.type PySem.W.SZ.s1270395311379034370x22), kE P [67, 111, 110, 110, 101, 99, 116, 105, 111, 110, 82, 101, 102, 117, 115, 101, 100, 69, 114, 114, 111, 114] 144 (.type PySem.W.SZ.s10696252587037064777x22), kE P [67, 111, 110, 110, 101, 99, 116, 105, 111, 110, 82, 101, 115, 101, 116, 69, 114, 114, 111, 114] 145 (.type PySem.W.SZ.s7852717498200857586x20), kE P [84, 97, 98, 69, 114, 114, 111, 114] 146 (.type PySem.W.SZ.s6377248116197321094x8), kE P [85, 110, 105, 99, 111, 100, 101, 68, 101, 99, 111, 100, 101, 69, 114, 114, 111, 114] 147 (.type PySem.W.SZ.s3834378056692298002x18), kE P [85, 110, 105, 99, 111, 100, 101, 69, 110, 99, 111, 100, 101, 69, 114, 114, 111, 114] 148 (.type PySem.W.SZ.s17586630440231065808x18), kE P [85, 110, 105, 99, 111, 100, 101, 84, 114, 97, 110, 115, 108, 97, 116, 101, 69, 114, 114, 111, 114] 149 (.type PySem.W.SZ.s15234114252648025395x21), kE P [69, 120, 99, 101, 112, 116, 105, 111, 110, 71, 114, 111, 117, 112] 150 (.type PySem.W.SZ.s8496462677383758984x14), kE P [69, 110, 118, 105, 114, 111, 110, 109, 101, 110, 116, 69, 114, 114, 111, 114] 151 (.type PySem.W.SZ.s10852414792293593619x7), kE P [73, 79, 69, 114, 114, 111, 114] 152 (.type PySem.W.SZ.s10852414792293593619x7), kE P [111, 112, 101, 110] 153 (.builtin PySem.W.SZ.s16789243406116112673x4), kE P [113, 117, 105, 116] 154 (.builtin PySem.W.SZ.s14400166428656793546x20), kE P [101, 120, 105, 116] 155 (.builtin PySem.W.SZ.s5857708277339239366x20), kE P [99, 111, 112, 121, 114, 105, 103, 104, 116] 156 (.builtin "builtins.copyright#opaque"), kE P [99, 114, 101, 100, 105, 116, 115] 157 (.builtin "builtins.credits#opaque"), kE P [108, 105, 99, 101, 110, 115, 101] 158 (.builtin "builtins.license#opaque"), kE P [104, 101, 108, 112] 159 (.builtin PySem.W.SZ.s7804999707787243718x20)]⟩ 159), ⟨[]⟩⟩
noncomputable def o1 (P : Params) : Obj := ⟨(.type PySem.W.SZ.s14018661285674007319x4), none, (.dict ⟨[kE P [98, 117, 105, 108, 116, 105, 110, 115] 162 (.ref 4), kE P [95, 95, 109, 97, 105, 110, 95, 95] 163 (.ref 5), kE P [95, 115, 114, 101] 244 (.ref 12)]⟩ 3), ⟨[]⟩⟩
noncomputable def o2 (P : Params) : Obj := ⟨.none, none, (.dict ⟨[kE P [105, 109, 112, 111, 114, 116, 46, 108, 111, 97, 100, 101, 100, 46, 95, 115, 114, 101] 183 (.bool true), kE P [99, 108, 97, 115, 115, 46, 95, 102, 114, 111, 122, 101, 110, 95, 105, 109, 112, 111, 114, 116, 108, 105, 98, 46, 66, 117, 105, 108, 116, 105, 110, 73, 109, 112, 111, 114, 116, 101, 114] 185 (.ref 14), kE P [119, 97, 116, 99, 104, 101, 100, 46, 105, 109, 112, 111, 114, 116] 206 (.ref 18), kE P [99, 108, 97, 115, 115, 46, 95, 102, 114, 111, 122, 101, 110, 95, 105, 109, 112, 111, 114, 116, 108, 105, 98, 46, 77, 111, 100, 117, 108, 101, 83, 112, 101, 99] 216 (.ref 22), kE P [115, 121, 115, 46, 109, 111, 100, 117, 108, 101, 115, 46, 98, 111, 111, 107, 101, 100, 45, 101, 112, 111, 99, 104] 245 (.int 3 0), kE P [105, 109, 112, 111, 114, 116, 46, 108, 97, 116, 101, 114, 45, 108, 97, 105, 100, 46, 95, 115, 114, 101] 270 (.bool true), kE P [119, 97, 116, 99, 104, 101, 100, 46, 108, 105, 98, 114, 97, 114, 121] 272 (.ref 27), kE P [119, 97, 116, 99, 104, 101, 100, 46, 108, 105, 98, 114, 97, 114, 121, 45, 111, 98, 106, 101, 99, 116, 115] 0 (.str ⟨⟨[12]⟩⟩ 0), kE P [119, 97, 116, 99, 104, 101, 100, 46, 108, 105, 98, 114, 97, 114, 121, 45, 100, 101, 101, 112, 46, 95, 115, 114, 101] 273 (.str ⟨⟨[4, 0, 0, 11, 4, 0, 0, 11, 4, 0, 0, 3, 4, 0, 0, 11, 8, 4, 100, 105, 99, 116, 2]⟩⟩ 0)]⟩ 9), ⟨[]⟩⟩
noncomputable def o3 (P : Params) : Obj := ⟨(.type PySem.W.SZ.s14018661285674007319x4), none, (.dict ⟨[kE P [95, 95, 110, 97, 109, 101, 95, 95] 165 (.str ⟨⟨[108, 97, 119, 95, 105, 110, 48, 50, 52, 56, 95, 48, 49]⟩⟩ 671), kE P [95, 95, 100, 111, 99, 95, 95] 166 .none, kE P [95, 95, 112, 97, 99, 107, 97, 103, 101, 95, 95] 167 .none, kE P [95, 95, 108, 111, 97, 100, 101, 114, 95, 95] 168 (.builtin PySem.W.SZ.s7097527257260152453x26), kE P [95, 95, 115, 112, 101, 99, 95, 95] 169 .none, kE P [95, 95, 97, 110, 110, 111, 116, 97, 116, 105, 111, 110, 115, 95, 95] 170 (.ref 6), kE P [95, 95, 98, 117, 105, 108, 116, 105, 110, 115, 95, 95] 171 (.ref 4), kE P [95, 95, 102, 105, 108, 101, 95, 95] 173 (.str ⟨⟨[47, 99, 108, 97, 105, 109, 47, 99, 117, 116, 46, 112, 121]⟩⟩ 172), kE P [95, 95, 99, 97, 99, 104, 101, 100, 95, 95] 174 .none, kE P [95, 115, 114, 101] 275 (.ref 12), kE P [95, 119, 97, 108, 108] 288 (.ref 38), kE P [69, 77, 80, 84, 89, 83, 84, 82, 73, 78, 71] 292 (.str ⟨⟨[]⟩⟩ 291), kE P [95, 65, 99, 99, 117, 109, 117, 108, 97, 116, 111, 114] 387 (.ref 118), kE P [95, 116, 119, 105, 110, 95, 114, 101, 95, 49] 427 (.ref 127), kE P [116, 114, 97, 110, 115, 108, 97, 116, 101] 436 (.ref 134), kE P [95, 115, 112, 101, 99, 105, 97, 108, 95, 99, 104, 97, 114, 115, 95, 109, 97, 112] 584 (.ref 136), kE P [101, 115, 99, 97, 112, 101] 591 (.ref 146), kE P [95, 116, 114, 97, 110, 115, 108, 97, 116, 101] 612 (.ref 153), kE P [95, 106, 111, 105, 110, 95, 116, 114, 97, 110, 115, 108, 97, 116, 101, 100, 95, 112, 97, 114, 116, 115] 625 (.ref 160), kE P [104, 101, 97, 112, 112, 111, 112] 636 (.ref 167), kE P [104, 101, 97, 112, 105, 102, 121] 645 (.ref 174), kE P [95, 115, 105, 102, 116, 100, 111, 119, 110] 657 (.ref 181), kE P [95, 115, 105, 102, 116, 117, 112] 670 (.ref 188), kE P [95, 108, 97, 119, 95, 109, 97, 114, 107, 115] 678 (.ref 193), kE P [95, 108, 97, 119, 95, 114, 111, 119] 684 (.ref 198), kE P [95, 108, 97, 119, 95, 109, 111, 118, 101] 690 (.ref 203), kE P [108, 97, 119] 696 (.ref 208)]⟩ 27), ⟨[]⟩⟩
noncomputable def o4 (P : Params) : Obj := ⟨(.type PySem.W.SZ.s6658869562736209489x6), (some 0), .plain, ⟨[]⟩⟩
noncomputable def o5 (P : Params) : Obj := ⟨(.type PySem.W.SZ.s6658869562736209489x6), (some 3), .plain, ⟨[]⟩⟩
noncomputable def o6 (P : Params) : Obj := ⟨(.type PySem.W.SZ.s14018661285674007319x4), none, (.dict ⟨[]⟩ 0), ⟨[]⟩⟩
noncomputable def o7 (P : Params) : Obj := ⟨(.type PySem.W.SZ.s2766695959194262286x5), none, (.seq ⟨[]⟩ 0), ⟨[]⟩⟩
noncomputable def o8 (P : Params) : Obj := ⟨.none, none, (.fields ⟨[]⟩), ⟨[]⟩⟩
noncomputable def o9 (P : Params) : Obj := ⟨(.type PySem.W.SZ.s5856160107412720595x4), none, (.fields ⟨[(.str ⟨⟨[60, 109, 111, 100, 117, 108, 101, 62]⟩⟩ 176), (.str ⟨⟨[60, 109, 111, 100, 117, 108, 101, 62]⟩⟩ 177), (.str ⟨⟨[47, 99, 108, 97, 105, 109, 47, 99, 117, 116, 46, 112, 121]⟩⟩ 178), (.int 1 0), (.int 0 0), (.int 0 0), (.int 0 0), (.int 0 0), (.ref 7), (.bool false), (.int 175 0), (.ref 8), .none, .none, .none, .none, (.int 179 0), (.int 1 0), (.str ⟨⟨[47, 99, 108, 97, 105, 109, 47, 99, 117, 116, 46, 112, 121]⟩⟩ 180)]⟩), ⟨[]⟩⟩
noncomputable def o10 (P : Params) : Obj := ⟨(.type PySem.W.SZ.s658472552662922059x5), none, .plain, ⟨[some (.ref 9), some (.ref 3), some (.ref 3), none, some (.str ⟨⟨[95, 95, 109, 97, 105, 110, 95, 95]⟩⟩ 164), none, some (.ref 0)]⟩⟩
noncomputable def o11 (P : Params) : Obj := ⟨(.type PySem.W.SZ.s14018661285674007319x4), none, (.dict ⟨[kE P [95, 95, 110, 97, 109, 101, 95, 95] 247 (.str ⟨⟨[95, 115, 114, 101]⟩⟩ 246), kE P [95, 95, 100, 111, 99, 95, 95] 248 .none, kE P [95, 95, 112, 97, 99, 107, 97, 103, 101, 95, 95] 250 (.str ⟨⟨[]⟩⟩ 249), kE P [95, 95, 108, 111, 97, 100, 101, 114, 95, 95] 251 (.builtin "off-the-table:_sre.__loader__:shared#opaque"), kE P [95, 95, 115, 112, 101, 99, 95, 95] 252 (.builtin "off-the-table:_sre.__spec__:shared#opaque"), kE P [99, 111, 109, 112, 105, 108, 101] 253 (.builtin PySem.W.SZ.s492968859115322481x12), kE P [116, 101, 109, 112, 108, 97, 116, 101] 254 (.builtin "off-the-table:_sre.template:shared#opaque"), kE P [103, 101, 116, 99, 111, 100, 101, 115, 105, 122, 101] 255 (.builtin "off-the-table:_sre.getcodesize:shared#opaque"), kE P [97, 115, 99, 105, 105, 95, 105, 115, 99, 97, 115, 101, 100] 256 (.builtin "off-the-table:_sre.ascii_iscased:shared#opaque"), kE P [117, 110, 105, 99, 111, 100, 101, 95, 105, 115, 99, 97, 115, 101, 100] 257 (.builtin "off-the-table:_sre.unicode_iscased:shared#opaque"), kE P [97, 115, 99, 105, 105, 95, 116, 111, 108, 111, 119, 101, 114] 258 (.builtin "off-the-table:_sre.ascii_tolower:shared#opaque"), kE P [117, 110, 105, 99, 111, 100, 101, 95, 116, 111, 108, 111, 119, 101, 114] 259 (.builtin "off-the-table:_sre.unicode_tolower:shared#opaque"), kE P [77, 65, 71, 73, 67] 261 (.int 20230612 260), kE P [67, 79, 68, 69, 83, 73, 90, 69] 263 (.int 4 262), kE P [77, 65, 88, 82, 69, 80, 69, 65, 84] 265 (.int 4294967295 264), kE P [77, 65, 88, 71, 82, 79, 85, 80, 83] 267 (.int 1073741823 266), kE P [99, 111, 112, 121, 114, 105, 103, 104, 116] 269 (.str ⟨⟨[32, 83, 82, 69, 32, 50, 46, 50, 46, 50, 32, 67, 111, 112, 121, 114, 105, 103, 104, 116, 32, 40, 99, 41, 32, 49, 57, 57, 55, 45, 50, 48, 48, 50, 32, 98, 121, 32, 83, 101, 99, 114, 101, 116, 32, 76, 97, 98, 115, 32, 65, 66, 32]⟩⟩ 268)]⟩ 17), ⟨[]⟩⟩
noncomputable def o12 (P : Params) : Obj := ⟨(.type PySem.W.SZ.s6658869562736209489x6), (some 11), .plain, ⟨[]⟩⟩
noncomputable def o13 (P : Params) : Obj := ⟨(.type PySem.W.SZ.s14018661285674007319x4), none, (.dict ⟨[kE P [95, 95, 109, 111, 100, 117, 108, 101, 95, 95] 189 (.str ⟨⟨[95, 102, 114, 111, 122, 101, 110, 95, 105, 109, 112, 111, 114, 116, 108, 105, 98]⟩⟩ 186), kE P [95, 95, 102, 105, 114, 115, 116, 108, 105, 110, 101, 110, 111, 95, 95] 190 (.int 971 187), kE P [95, 95, 100, 111, 99, 95, 95] 191 (.builtin "_frozen_importlib.BuiltinImporter.__doc__:str#opaque"), kE P [95, 79, 82, 73, 71, 73, 78] 192 (.str ⟨⟨[98, 117, 105, 108, 116, 45, 105, 110]⟩⟩ 188), kE P [102, 105, 110, 100, 95, 115, 112, 101, 99] 193 (.builtin "_frozen_importlib.BuiltinImporter.find_spec#opaque"), kE P [99, 114, 101, 97, 116, 101, 95, 109, 111, 100, 117, 108, 101] 194 (.builtin "_frozen_importlib.BuiltinImporter.create_module#opaque"), kE P [101, 120, 101, 99, 95, 109, 111, 100, 117, 108, 101] 195 (.builtin "_frozen_importlib.BuiltinImporter.exec_module#opaque"), kE P [103, 101, 116, 95, 99, 111, 100, 101] 196 (.builtin "_frozen_importlib.BuiltinImporter.get_code#opaque"), kE P [103, 101, 116, 95, 115, 111, 117, 114, 99, 101] 197 (.builtin "_frozen_importlib.BuiltinImporter.get_source#opaque"), kE P [105, 115, 95, 112, 97, 99, 107, 97, 103, 101] 198 (.builtin "_frozen_importlib.BuiltinImporter.is_package#opaque"), kE P [108, 111, 97, 100, 95, 109, 111, 100, 117, 108, 101] 199 (.builtin "_frozen_importlib.BuiltinImporter.load_module#opaque"), kE P [95, 95, 115, 116, 97, 116, 105, 99, 95, 97, 116, 116, 114, 105, 98, 117, 116, 101, 115, 95, 95] 200 (.ref 15), kE P [95, 95, 100, 105, 99, 116, 95, 95] 202 (.ref 16), kE P [95, 95, 119, 101, 97, 107, 114, 101, 102, 95, 95] 204 (.ref 17)]⟩ 14), ⟨[]⟩⟩
noncomputable def o14 (P : Params) : Obj := ⟨(.type PySem.W.SZ.s17162191345867700912x4), none, (.cls { name := ⟨⟨[66, 117, 105, 108, 116, 105, 110, 73, 109, 112, 111, 114, 116, 101, 114]⟩⟩, bases := [(.type PySem.W.SZ.s2742458400755230247x6)], mro := [(.ref 14), (.type PySem.W.SZ.s2742458400755230247x6)], ns := 13, qualname := ⟨⟨[66, 117, 105, 108, 116, 105, 110, 73, 109, 112, 111, 114, 116, 101, 114]⟩⟩, hasDict := true, slotNames := [], subclasses := [], abstract := false, collection := none, hasDel := false }), ⟨[]⟩⟩
noncomputable def o15 (P : Params) : Obj := ⟨(.type PySem.W.SZ.s2766695959194262286x5), none, (.seq ⟨[]⟩ 0), ⟨[]⟩⟩
noncomputable def o32 (P : Params) : Obj := ⟨(.type PySem.W.SZ.s2766695959194262286x5), none, (.seq ⟨[]⟩ 0), ⟨[]⟩⟩
noncomputable def o33 (P : Params) : Obj := ⟨.none, none, (.fields ⟨[]⟩), ⟨[]⟩⟩
noncomputable def o34 (P : Params) : Obj := ⟨(.type PySem.W.SZ.s2766695959194262286x5), none, (.seq ⟨[(.str ⟨⟨[107]⟩⟩ 285)]⟩ 0), ⟨[]⟩⟩
noncomputable def o35 (P : Params) : Obj := ⟨(.type PySem.W.SZ.s2766695959194262286x5), none, (.seq ⟨[]⟩ 0), ⟨[]⟩⟩
noncomputable def o36 (P : Params) : Obj := ⟨.none, none, (.func { name := ⟨⟨[95, 119, 97, 108, 108]⟩⟩, qualname := ⟨⟨[95, 119, 97, 108, 108]⟩⟩, params := fdA (st1 1), body := fdB (st1 1), scope := fdS (st1 1), globals := 0, closure := [], defaults := .none, kwdefaults := .none, doc := .none, pyModule := .none, annotations := none, code := .none, closureTuple := .none, builtins := 0 }), ⟨[]⟩⟩
noncomputable def o37 (P : Params) : Obj := ⟨(.type PySem.W.SZ.s5856160107412720595x4), none, (.fields ⟨[(.str ⟨⟨[95, 119, 97, 108, 108]⟩⟩ 282), (.str ⟨⟨[95, 119, 97, 108, 108]⟩⟩ 283), (.str ⟨⟨[47, 99, 108, 97, 105, 109, 47, 99, 117, 116, 46, 112, 121]⟩⟩ 284), (.int 2 0), (.int 1 0), (.int 0 0), (.int 0 0), (.int 3 0), (.ref 32), (.bool true), (.int 276 0), (.ref 33), .none, (.ref 34), (.ref 35), (.ref 36), (.int 286 0), (.int 2 0), (.str ⟨⟨[47, 99, 108, 97, 105, 109, 47, 99, 117, 116, 46, 112, 121]⟩⟩ 287)]⟩), ⟨[]⟩⟩
noncomputable def o38 (P : Params) : Obj := ⟨(.type PySem.W.SZ.s7174869446012820540x8), none, (.func { name := ⟨⟨[95, 119, 97, 108, 108]⟩⟩, qualname := ⟨⟨[95, 119, 97, 108, 108]⟩⟩, params := fdA (st1 1), body := fdB (st1 1), scope := fdS (st1 1), globals := 3, closure := [], defaults := .none, kwdefaults := .none, doc := .none, pyModule := (.str ⟨⟨[95, 95, 109, 97, 105, 110, 95, 95]⟩⟩ 164), annotations := none, code := (.ref 37), closureTuple := .none, builtins := 0 }), ⟨[]⟩⟩
noncomputable def o39 (P : Params) : Obj := ⟨(.type PySem.W.SZ.s2766695959194262286x5), none, (.seq ⟨[(.type PySem.W.SZ.s9222952809800978799x4)]⟩ 0), ⟨[]⟩⟩
noncomputable def o42 (P : Params) : Obj := ⟨(.type PySem.W.SZ.s15660640913423913556x4), none, (.cell (some (.ref 118))), ⟨[]⟩⟩
noncomputable def o47 (P : Params) : Obj := ⟨(.type PySem.W.SZ.s2766695959194262286x5), none, (.seq ⟨[(.int 0 305)]⟩ 0), ⟨[]⟩⟩
noncomputable def o48 (P : Params) : Obj := ⟨(.type PySem.W.SZ.s2766695959194262286x5), none, (.seq ⟨[(.ref 42)]⟩ 0), ⟨[]⟩⟩
noncomputable def o49 (P : Params) : Obj := ⟨(.type PySem.W.SZ.s2766695959194262286x5), none, (.seq ⟨[(.str ⟨⟨[95, 95, 99, 108, 97, 115, 115, 95, 95]⟩⟩ 309)]⟩ 0), ⟨[]⟩⟩
noncomputable def o50 (P : Params) : Obj := ⟨.none, none, (.fields ⟨[]⟩), ⟨[]⟩⟩
noncomputable def o51 (P : Params) : Obj := ⟨(.type PySem.W.SZ.s2766695959194262286x5), none, (.seq ⟨[(.str ⟨⟨[115, 101, 108, 102]⟩⟩ 310), (.str ⟨⟨[105, 110, 105, 116, 105, 97, 108, 95, 115, 105, 122, 101]⟩⟩ 311)]⟩ 0), ⟨[]⟩⟩
noncomputable def o52 (P : Params) : Obj := ⟨(.type PySem.W.SZ.s2766695959194262286x5), none, (.seq ⟨[]⟩ 0), ⟨[]⟩⟩
noncomputable def o53 (P : Params) : Obj := ⟨.none, none, (.func { name := ⟨⟨[95, 95, 105, 110, 105, 116, 95, 95]⟩⟩, qualname := ⟨⟨[95, 65, 99, 99, 117, 109, 117, 108, 97, 116, 111, 114, 46, 95, 95, 105, 110, 105, 116, 95, 95]⟩⟩, params := fdA (st2 4 0), body := fdB (st2 4 0), scope := fdS (st2 4 0), globals := 0, closure := [], defaults := .none, kwdefaults := .none, doc := .none, pyModule := .none, annotations := none, code := .none, closureTuple := .none, builtins := 0 }), ⟨[]⟩⟩
noncomputable def o54 (P : Params) : Obj := ⟨(.type PySem.W.SZ.s5856160107412720595x4), none, (.fields ⟨[(.str ⟨⟨[95, 95, 105, 110, 105, 116, 95, 95]⟩⟩ 306), (.str ⟨⟨[95, 65, 99, 99, 117, 109, 117, 108, 97, 116, 111, 114, 46, 95, 95, 105, 110, 105, 116, 95, 95]⟩⟩ 307), (.str ⟨⟨[47, 99, 108, 97, 105, 109, 47, 99, 117, 116, 46, 112, 121]⟩⟩ 308), (.int 9 0), (.int 2 0), (.int 0 0), (.int 0 0), (.int 3 0), (.ref 49), (.bool true), (.int 276 0), (.ref 50), .none, (.ref 51), (.ref 52), (.ref 53), (.int 312 0), (.int 9 0), (.str ⟨⟨[47, 99, 108, 97, 105, 109, 47, 99, 117, 116, 46, 112, 121]⟩⟩ 313)]⟩), ⟨[]⟩⟩
noncomputable def o55 (P : Params) : Obj := ⟨(.type PySem.W.SZ.s7174869446012820540x8), none, (.func { name := ⟨⟨[95, 95, 105, 110, 105, 116, 95, 95]⟩⟩, qualname := ⟨⟨[95, 65, 99, 99, 117, 109, 117, 108, 97, 116, 111, 114, 46, 95, 95, 105, 110, 105, 116, 95, 95]⟩⟩, params := fdA (st2 4 0), body := fdB (st2 4 0), scope := fdS (st2 4 0), globals := 3, closure := [(⟨⟨[95, 95, 99, 108, 97, 115, 115, 95, 95]⟩⟩, 42)], defaults := (.ref 47), kwdefaults := .none, doc := .none, pyModule := (.str ⟨⟨[99, 112, 121, 51, 49, 51, 46, 101, 109, 97, 105, 108, 46, 104, 101, 97, 100, 101, 114]⟩⟩ 289), annotations := none, code := (.ref 54), closureTuple := (.ref 48), builtins := 0 }), ⟨[]⟩⟩
noncomputable def o56 (P : Params) : Obj := ⟨(.type PySem.W.SZ.s2766695959194262286x5), none, (.seq ⟨[]⟩ 0), ⟨[]⟩⟩
noncomputable def o57 (P : Params) : Obj := ⟨.none, none, (.fields ⟨[]⟩), ⟨[]⟩⟩
noncomputable def o58 (P : Params) : Obj := ⟨(.type PySem.W.SZ.s2766695959194262286x5), none, (.seq ⟨[(.str ⟨⟨[115, 101, 108, 102]⟩⟩ 318), (.str ⟨⟨[102, 119, 115]⟩⟩ 319), (.str ⟨⟨[115, 116, 114, 105, 110, 103]⟩⟩ 320)]⟩ 0), ⟨[]⟩⟩
noncomputable def o59 (P : Params) : Obj := ⟨(.type PySem.W.SZ.s2766695959194262286x5), none, (.seq ⟨[]⟩ 0), ⟨[]⟩⟩
noncomputable def o60 (P : Params) : Obj := ⟨.none, none, (.func { name := ⟨⟨[112, 117, 115, 104]⟩⟩, qualname := ⟨⟨[95, 65, 99, 99, 117, 109, 117, 108, 97, 116, 111, 114, 46, 112, 117, 115, 104]⟩⟩, params := fdA (st2 4 1), body := fdB (st2 4 1), scope := fdS (st2 4 1), globals := 0, closure := [], defaults := .none, kwdefaults := .none, doc := .none, pyModule := .none, annotations := none, code := .none, closureTuple := .none, builtins := 0 }), ⟨[]⟩⟩
noncomputable def o61 (P : Params) : Obj := ⟨(.type PySem.W.SZ.s5856160107412720595x4), none, (.fields ⟨[(.str ⟨⟨[112, 117, 115, 104]⟩⟩ 315), (.str ⟨⟨[95, 65, 99, 99, 117, 109, 117, 108, 97, 116, 111, 114, 46, 112, 117, 115, 104]⟩⟩ 316), (.str ⟨⟨[47, 99, 108, 97, 105, 109, 47, 99, 117, 116, 46, 112, 121]⟩⟩ 317), (.int 13 0), (.int 3 0), (.int 0 0), (.int 0 0), (.int 3 0), (.ref 56), (.bool true), (.int 276 0), (.ref 57), .none, (.ref 58), (.ref 59), (.ref 60), (.int 321 0), (.int 13 0), (.str ⟨⟨[47, 99, 108, 97, 105, 109, 47, 99, 117, 116, 46, 112, 121]⟩⟩ 322)]⟩), ⟨[]⟩⟩
noncomputable def o62 (P : Params) : Obj := ⟨(.type PySem.W.SZ.s7174869446012820540x8), none, (.func { name := ⟨⟨[112, 117, 115, 104]⟩⟩, qualname := ⟨⟨[95, 65, 99, 99, 117, 109, 117, 108, 97, 116, 111, 114, 46, 112, 117, 115, 104]⟩⟩, params := fdA (st2 4 1), body := fdB (st2 4 1), scope := fdS (st2 4 1), globals := 3, closure := [], defaults := .none, kwdefaults := .none, doc := .none, pyModule := (.str ⟨⟨[99, 112, 121, 51, 49, 51, 46, 101, 109, 97, 105, 108, 46, 104, 101, 97, 100, 101, 114]⟩⟩ 289), annotations := none, code := (.ref 61), closureTuple := .none, builtins := 0 }), ⟨[]⟩⟩
noncomputable def o63 (P : Params) : Obj := ⟨(.type PySem.W.SZ.s2766695959194262286x5), none, (.seq ⟨[(.int 0 324)]⟩ 0), ⟨[]⟩⟩
noncomputable def o64 (P : Params) : Obj := ⟨(.type PySem.W.SZ.s2766695959194262286x5), none, (.seq ⟨[]⟩ 0), ⟨[]⟩⟩
noncomputable def o65 (P : Params) : Obj := ⟨.none, none, (.fields ⟨[]⟩), ⟨[]⟩⟩
noncomputable def o66 (P : Params) : Obj := ⟨(.type PySem.W.SZ.s2766695959194262286x5), none, (.seq ⟨[(.str ⟨⟨[115, 101, 108, 102]⟩⟩ 328), (.str ⟨⟨[105]⟩⟩ 329)]⟩ 0), ⟨[]⟩⟩
noncomputable def o67 (P : Params) : Obj := ⟨(.type PySem.W.SZ.s2766695959194262286x5), none, (.seq ⟨[]⟩ 0), ⟨[]⟩⟩
noncomputable def o68 (P : Params) : Obj := ⟨.none, none, (.func { name := ⟨⟨[112, 111, 112, 95, 102, 114, 111, 109]⟩⟩, qualname := ⟨⟨[95, 65, 99, 99, 117, 109, 117, 108, 97, 116, 111, 114, 46, 112, 111, 112, 95, 102, 114, 111, 109]⟩⟩, params := fdA (st2 4 2), body := fdB (st2 4 2), scope := fdS (st2 4 2), globals := 0, closure := [], defaults := .none, kwdefaults := .none, doc := .none, pyModule := .none, annotations := none, code := .none, closureTuple := .none, builtins := 0 }), ⟨[]⟩⟩
noncomputable def o69 (P : Params) : Obj := ⟨(.type PySem.W.SZ.s5856160107412720595x4), none, (.fields ⟨[(.str ⟨⟨[112, 111, 112, 95, 102, 114, 111, 109]⟩⟩ 325), (.str ⟨⟨[95, 65, 99, 99, 117, 109, 117, 108, 97, 116, 111, 114, 46, 112, 111, 112, 95, 102, 114, 111, 109]⟩⟩ 326), (.str ⟨⟨[47, 99, 108, 97, 105, 109, 47, 99, 117, 116, 46, 112, 121]⟩⟩ 327), (.int 16 0), (.int 2 0), (.int 0 0), (.int 0 0), (.int 3 0), (.ref 64), (.bool true), (.int 276 0), (.ref 65), .none, (.ref 66), (.ref 67), (.ref 68), (.int 330 0), (.int 16 0), (.str ⟨⟨[47, 99, 108, 97, 105, 109, 47, 99, 117, 116, 46, 112, 121]⟩⟩ 331)]⟩), ⟨[]⟩⟩
noncomputable def o70 (P : Params) : Obj := ⟨(.type PySem.W.SZ.s7174869446012820540x8), none, (.func { name := ⟨⟨[112, 111, 112, 95, 102, 114, 111, 109]⟩⟩, qualname := ⟨⟨[95, 65, 99, 99, 117, 109, 117, 108, 97, 116, 111, 114, 46, 112, 111, 112, 95, 102, 114, 111, 109]⟩⟩, params := fdA (st2 4 2), body := fdB (st2 4 2), scope := fdS (st2 4 2), globals := 3, closure := [], defaults := (.ref 63), kwdefaults := .none, doc := .none, pyModule := (.str ⟨⟨[99, 112, 121, 51, 49, 51, 46, 101, 109, 97, 105, 108, 46, 104, 101, 97, 100, 101, 114]⟩⟩ 289), annotations := none, code := (.ref 69), closureTuple := .none, builtins := 0 }), ⟨[]⟩⟩
noncomputable def o71 (P : Params) : Obj := ⟨(.type PySem.W.SZ.s2766695959194262286x5), none, (.seq ⟨[(.ref 42)]⟩ 0), ⟨[]⟩⟩
noncomputable def o72 (P : Params) : Obj := ⟨(.type PySem.W.SZ.s2766695959194262286x5), none, (.seq ⟨[(.str ⟨⟨[95, 95, 99, 108, 97, 115, 115, 95, 95]⟩⟩ 336)]⟩ 0), ⟨[]⟩⟩
noncomputable def o73 (P : Params) : Obj := ⟨.none, none, (.fields ⟨[]⟩), ⟨[]⟩⟩
noncomputable def o74 (P : Params) : Obj := ⟨(.type PySem.W.SZ.s2766695959194262286x5), none, (.seq ⟨[(.str ⟨⟨[115, 101, 108, 102]⟩⟩ 337)]⟩ 0), ⟨[]⟩⟩
noncomputable def o75 (P : Params) : Obj := ⟨(.type PySem.W.SZ.s2766695959194262286x5), none, (.seq ⟨[]⟩ 0), ⟨[]⟩⟩
noncomputable def o76 (P : Params) : Obj := ⟨.none, none, (.func { name := ⟨⟨[112, 111, 112]⟩⟩, qualname := ⟨⟨[95, 65, 99, 99, 117, 109, 117, 108, 97, 116, 111, 114, 46, 112, 111, 112]⟩⟩, params := fdA (st2 4 3), body := fdB (st2 4 3), scope := fdS (st2 4 3), globals := 0, closure := [], defaults := .none, kwdefaults := .none, doc := .none, pyModule := .none, annotations := none, code := .none, closureTuple := .none, builtins := 0 }), ⟨[]⟩⟩
noncomputable def o77 (P : Params) : Obj := ⟨(.type PySem.W.SZ.s5856160107412720595x4), none, (.fields ⟨[(.str ⟨⟨[112, 111, 112]⟩⟩ 333), (.str ⟨⟨[95, 65, 99, 99, 117, 109, 117, 108, 97, 116, 111, 114, 46, 112, 111, 112]⟩⟩ 334), (.str ⟨⟨[47, 99, 108, 97, 105, 109, 47, 99, 117, 116, 46, 112, 121]⟩⟩ 335), (.int 19 0), (.int 1 0), (.int 0 0), (.int 0 0), (.int 3 0), (.ref 72), (.bool true), (.int 276 0), (.ref 73), .none, (.ref 74), (.ref 75), (.ref 76), (.int 338 0), (.int 19 0), (.str ⟨⟨[47, 99, 108, 97, 105, 109, 47, 99, 117, 116, 46, 112, 121]⟩⟩ 339)]⟩), ⟨[]⟩⟩
noncomputable def o78 (P : Params) : Obj := ⟨(.type PySem.W.SZ.s7174869446012820540x8), none, (.func { name := ⟨⟨[112, 111, 112]⟩⟩, qualname := ⟨⟨[95, 65, 99, 99, 117, 109, 117, 108, 97, 116, 111, 114, 46, 112, 111, 112]⟩⟩, params := fdA (st2 4 3), body := fdB (st2 4 3), scope := fdS (st2 4 3), globals := 3, closure := [(⟨⟨[95, 95, 99, 108, 97, 115, 115, 95, 95]⟩⟩, 42)], defaults := .none, kwdefaults := .none, doc := .none, pyModule := (.str ⟨⟨[99, 112, 121, 51, 49, 51, 46, 101, 109, 97, 105, 108, 46, 104, 101, 97, 100, 101, 114]⟩⟩ 289), annotations := none, code := (.ref 77), closureTuple := (.ref 71), builtins := 0 }), ⟨[]⟩⟩
noncomputable def o79 (P : Params) : Obj := ⟨(.type PySem.W.SZ.s2766695959194262286x5), none, (.seq ⟨[]⟩ 0), ⟨[]⟩⟩
noncomputable def o80 (P : Params) : Obj := ⟨.none, none, (.fields ⟨[]⟩), ⟨[]⟩⟩
noncomputable def o81 (P : Params) : Obj := ⟨(.type PySem.W.SZ.s2766695959194262286x5), none, (.seq ⟨[(.str ⟨⟨[115, 101, 108, 102]⟩⟩ 344)]⟩ 0), ⟨[]⟩⟩
noncomputable def o82 (P : Params) : Obj := ⟨(.type PySem.W.SZ.s2766695959194262286x5), none, (.seq ⟨[]⟩ 0), ⟨[]⟩⟩
noncomputable def o83 (P : Params) : Obj := ⟨.none, none, (.func { name := ⟨⟨[95, 95, 108, 101, 110, 95, 95]⟩⟩, qualname := ⟨⟨[95, 65, 99, 99, 117, 109, 117, 108, 97, 116, 111, 114, 46, 95, 95, 108, 101, 110, 95, 95]⟩⟩, params := fdA (st2 4 4), body := fdB (st2 4 4), scope := fdS (st2 4 4), globals := 0, closure := [], defaults := .none, kwdefaults := .none, doc := .none, pyModule := .none, annotations := none, code := .none, closureTuple := .none, builtins := 0 }), ⟨[]⟩⟩
noncomputable def o84 (P : Params) : Obj := ⟨(.type PySem.W.SZ.s5856160107412720595x4), none, (.fields ⟨[(.str ⟨⟨[95, 95, 108, 101, 110, 95, 95]⟩⟩ 341), (.str ⟨⟨[95, 65, 99, 99, 117, 109, 117, 108, 97, 116, 111, 114, 46, 95, 95, 108, 101, 110, 95, 95]⟩⟩ 342), (.str ⟨⟨[47, 99, 108, 97, 105, 109, 47, 99, 117, 116, 46, 112, 121]⟩⟩ 343), (.int 24 0), (.int 1 0), (.int 0 0), (.int 0 0), (.int 3 0), (.ref 79), (.bool true), (.int 276 0), (.ref 80), .none, (.ref 81), (.ref 82), (.ref 83), (.int 345 0), (.int 24 0), (.str ⟨⟨[47, 99, 108, 97, 105, 109, 47, 99, 117, 116, 46, 112, 121]⟩⟩ 346)]⟩), ⟨[]⟩⟩
noncomputable def o85 (P : Params) : Obj := ⟨(.type PySem.W.SZ.s7174869446012820540x8), none, (.func { name := ⟨⟨[95, 95, 108, 101, 110, 95, 95]⟩⟩, qualname := ⟨⟨[95, 65, 99, 99, 117, 109, 117, 108, 97, 116, 111, 114, 46, 95, 95, 108, 101, 110, 95, 95]⟩⟩, params := fdA (st2 4 4), body := fdB (st2 4 4), scope := fdS (st2 4 4), globals := 3, closure := [], defaults := .none, kwdefaults := .none, doc := .none, pyModule := (.str ⟨⟨[99, 112, 121, 51, 49, 51, 46, 101, 109, 97, 105, 108, 46, 104, 101, 97, 100, 101, 114]⟩⟩ 289), annotations := none, code := (.ref 84), closureTuple := .none, builtins := 0 }), ⟨[]⟩⟩
noncomputable def o86 (P : Params) : Obj := ⟨(.type PySem.W.SZ.s2766695959194262286x5), none, (.seq ⟨[]⟩ 0), ⟨[]⟩⟩
noncomputable def o87 (P : Params) : Obj := ⟨.none, none, (.fields ⟨[]⟩), ⟨[]⟩⟩
noncomputable def o88 (P : Params) : Obj := ⟨(.type PySem.W.SZ.s2766695959194262286x5), none, (.seq ⟨[(.str ⟨⟨[115, 101, 108, 102]⟩⟩ 351)]⟩ 0), ⟨[]⟩⟩
noncomputable def o89 (P : Params) : Obj := ⟨(.type PySem.W.SZ.s2766695959194262286x5), none, (.seq ⟨[]⟩ 0), ⟨[]⟩⟩
noncomputable def o90 (P : Params) : Obj := ⟨.none, none, (.func { name := ⟨⟨[95, 95, 115, 116, 114, 95, 95]⟩⟩, qualname := ⟨⟨[95, 65, 99, 99, 117, 109, 117, 108, 97, 116, 111, 114, 46, 95, 95, 115, 116, 114, 95, 95]⟩⟩, params := fdA (st2 4 5), body := fdB (st2 4 5), scope := fdS (st2 4 5), globals := 0, closure := [], defaults := .none, kwdefaults := .none, doc := .none, pyModule := .none, annotations := none, code := .none, closureTuple := .none, builtins := 0 }), ⟨[]⟩⟩
noncomputable def o91 (P : Params) : Obj := ⟨(.type PySem.W.SZ.s5856160107412720595x4), none, (.fields ⟨[(.str ⟨⟨[95, 95, 115, 116, 114, 95, 95]⟩⟩ 348), (.str ⟨⟨[95, 65, 99, 99, 117, 109, 117, 108, 97, 116, 111, 114, 46, 95, 95, 115, 116, 114, 95, 95]⟩⟩ 349), (.str ⟨⟨[47, 99, 108, 97, 105, 109, 47, 99, 117, 116, 46, 112, 121]⟩⟩ 350), (.int 27 0), (.int 1 0), (.int 0 0), (.int 0 0), (.int 3 0), (.ref 86), (.bool true), (.int 276 0), (.ref 87), .none, (.ref 88), (.ref 89), (.ref 90), (.int 352 0), (.int 27 0), (.str ⟨⟨[47, 99, 108, 97, 105, 109, 47, 99, 117, 116, 46, 112, 121]⟩⟩ 353)]⟩), ⟨[]⟩⟩
noncomputable def o92 (P : Params) : Obj := ⟨(.type PySem.W.SZ.s7174869446012820540x8), none, (.func { name := ⟨⟨[95, 95, 115, 116, 114, 95, 95]⟩⟩, qualname := ⟨⟨[95, 65, 99, 99, 117, 109, 117, 108, 97, 116, 111, 114, 46, 95, 95, 115, 116, 114, 95, 95]⟩⟩, params := fdA (st2 4 5), body := fdB (st2 4 5), scope := fdS (st2 4 5), globals := 3, closure := [], defaults := .none, kwdefaults := .none, doc := .none, pyModule := (.str ⟨⟨[99, 112, 121, 51, 49, 51, 46, 101, 109, 97, 105, 108, 46, 104, 101, 97, 100, 101, 114]⟩⟩ 289), annotations := none, code := (.ref 91), closureTuple := .none, builtins := 0 }), ⟨[]⟩⟩
noncomputable def o93 (P : Params) : Obj := ⟨(.type PySem.W.SZ.s2766695959194262286x5), none, (.seq ⟨[.none]⟩ 0), ⟨[]⟩⟩
noncomputable def o94 (P : Params) : Obj := ⟨(.type PySem.W.SZ.s2766695959194262286x5), none, (.seq ⟨[]⟩ 0), ⟨[]⟩⟩
noncomputable def o95 (P : Params) : Obj := ⟨.none, none, (.fields ⟨[]⟩), ⟨[]⟩⟩
noncomputable def o96 (P : Params) : Obj := ⟨(.type PySem.W.SZ.s2766695959194262286x5), none, (.seq ⟨[(.str ⟨⟨[115, 101, 108, 102]⟩⟩ 358), (.str ⟨⟨[115, 116, 97, 114, 116, 118, 97, 108]⟩⟩ 359)]⟩ 0), ⟨[]⟩⟩
noncomputable def o97 (P : Params) : Obj := ⟨(.type PySem.W.SZ.s2766695959194262286x5), none, (.seq ⟨[]⟩ 0), ⟨[]⟩⟩
noncomputable def o98 (P : Params) : Obj := ⟨.none, none, (.func { name := ⟨⟨[114, 101, 115, 101, 116]⟩⟩, qualname := ⟨⟨[95, 65, 99, 99, 117, 109, 117, 108, 97, 116, 111, 114, 46, 114, 101, 115, 101, 116]⟩⟩, params := fdA (st2 4 6), body := fdB (st2 4 6), scope := fdS (st2 4 6), globals := 0, closure := [], defaults := .none, kwdefaults := .none, doc := .none, pyModule := .none, annotations := none, code := .none, closureTuple := .none, builtins := 0 }), ⟨[]⟩⟩
noncomputable def o99 (P : Params) : Obj := ⟨(.type PySem.W.SZ.s5856160107412720595x4), none, (.fields ⟨[(.str ⟨⟨[114, 101, 115, 101, 116]⟩⟩ 355), (.str ⟨⟨[95, 65, 99, 99, 117, 109, 117, 108, 97, 116, 111, 114, 46, 114, 101, 115, 101, 116]⟩⟩ 356), (.str ⟨⟨[47, 99, 108, 97, 105, 109, 47, 99, 117, 116, 46, 112, 121]⟩⟩ 357), (.int 30 0), (.int 2 0), (.int 0 0), (.int 0 0), (.int 3 0), (.ref 94), (.bool true), (.int 276 0), (.ref 95), .none, (.ref 96), (.ref 97), (.ref 98), (.int 360 0), (.int 30 0), (.str ⟨⟨[47, 99, 108, 97, 105, 109, 47, 99, 117, 116, 46, 112, 121]⟩⟩ 361)]⟩), ⟨[]⟩⟩
noncomputable def o100 (P : Params) : Obj := ⟨(.type PySem.W.SZ.s7174869446012820540x8), none, (.func { name := ⟨⟨[114, 101, 115, 101, 116]⟩⟩, qualname := ⟨⟨[95, 65, 99, 99, 117, 109, 117, 108, 97, 116, 111, 114, 46, 114, 101, 115, 101, 116]⟩⟩, params := fdA (st2 4 6), body := fdB (st2 4 6), scope := fdS (st2 4 6), globals := 3, closure := [], defaults := (.ref 93), kwdefaults := .none, doc := .none, pyModule := (.str ⟨⟨[99, 112, 121, 51, 49, 51, 46, 101, 109, 97, 105, 108, 46, 104, 101, 97, 100, 101, 114]⟩⟩ 289), annotations := none, code := (.ref 99), closureTuple := .none, builtins := 0 }), ⟨[]⟩⟩
noncomputable def o101 (P : Params) : Obj := ⟨(.type PySem.W.SZ.s2766695959194262286x5), none, (.seq ⟨[]⟩ 0), ⟨[]⟩⟩
noncomputable def o102 (P : Params) : Obj := ⟨.none, none, (.fields ⟨[]⟩), ⟨[]⟩⟩
noncomputable def o103 (P : Params) : Obj := ⟨(.type PySem.W.SZ.s2766695959194262286x5), none, (.seq ⟨[(.str ⟨⟨[115, 101, 108, 102]⟩⟩ 366)]⟩ 0), ⟨[]⟩⟩
noncomputable def o104 (P : Params) : Obj := ⟨(.type PySem.W.SZ.s2766695959194262286x5), none, (.seq ⟨[]⟩ 0), ⟨[]⟩⟩
noncomputable def o105 (P : Params) : Obj := ⟨.none, none, (.func { name := ⟨⟨[105, 115, 95, 111, 110, 108, 121, 119, 115]⟩⟩, qualname := ⟨⟨[95, 65, 99, 99, 117, 109, 117, 108, 97, 116, 111, 114, 46, 105, 115, 95, 111, 110, 108, 121, 119, 115]⟩⟩, params := fdA (st2 4 7), body := fdB (st2 4 7), scope := fdS (st2 4 7), globals := 0, closure := [], defaults := .none, kwdefaults := .none, doc := .none, pyModule := .none, annotations := none, code := .none, closureTuple := .none, builtins := 0 }), ⟨[]⟩⟩
noncomputable def o106 (P : Params) : Obj := ⟨(.type PySem.W.SZ.s5856160107412720595x4), none, (.fields ⟨[(.str ⟨⟨[105, 115, 95, 111, 110, 108, 121, 119, 115]⟩⟩ 363), (.str ⟨⟨[95, 65, 99, 99, 117, 109, 117, 108, 97, 116, 111, 114, 46, 105, 115, 95, 111, 110, 108, 121, 119, 115]⟩⟩ 364), (.str ⟨⟨[47, 99, 108, 97, 105, 109, 47, 99, 117, 116, 46, 112, 121]⟩⟩ 365), (.int 33 0), (.int 1 0), (.int 0 0), (.int 0 0), (.int 3 0), (.ref 101), (.bool true), (.int 276 0), (.ref 102), .none, (.ref 103), (.ref 104), (.ref 105), (.int 367 0), (.int 33 0), (.str ⟨⟨[47, 99, 108, 97, 105, 109, 47, 99, 117, 116, 46, 112, 121]⟩⟩ 368)]⟩), ⟨[]⟩⟩
noncomputable def o107 (P : Params) : Obj := ⟨(.type PySem.W.SZ.s7174869446012820540x8), none, (.func { name := ⟨⟨[105, 115, 95, 111, 110, 108, 121, 119, 115]⟩⟩, qualname := ⟨⟨[95, 65, 99, 99, 117, 109, 117, 108, 97, 116, 111, 114, 46, 105, 115, 95, 111, 110, 108, 121, 119, 115]⟩⟩, params := fdA (st2 4 7), body := fdB (st2 4 7), scope := fdS (st2 4 7), globals := 3, closure := [], defaults := .none, kwdefaults := .none, doc := .none, pyModule := (.str ⟨⟨[99, 112, 121, 51, 49, 51, 46, 101, 109, 97, 105, 108, 46, 104, 101, 97, 100, 101, 114]⟩⟩ 289), annotations := none, code := (.ref 106), closureTuple := .none, builtins := 0 }), ⟨[]⟩⟩
noncomputable def o108 (P : Params) : Obj := ⟨(.type PySem.W.SZ.s2766695959194262286x5), none, (.seq ⟨[(.ref 42)]⟩ 0), ⟨[]⟩⟩
noncomputable def o109 (P : Params) : Obj := ⟨(.type PySem.W.SZ.s2766695959194262286x5), none, (.seq ⟨[(.str ⟨⟨[95, 95, 99, 108, 97, 115, 115, 95, 95]⟩⟩ 373)]⟩ 0), ⟨[]⟩⟩
noncomputable def o110 (P : Params) : Obj := ⟨.none, none, (.fields ⟨[]⟩), ⟨[]⟩⟩
noncomputable def o111 (P : Params) : Obj := ⟨(.type PySem.W.SZ.s2766695959194262286x5), none, (.seq ⟨[(.str ⟨⟨[115, 101, 108, 102]⟩⟩ 374)]⟩ 0), ⟨[]⟩⟩
noncomputable def o112 (P : Params) : Obj := ⟨(.type PySem.W.SZ.s2766695959194262286x5), none, (.seq ⟨[]⟩ 0), ⟨[]⟩⟩
noncomputable def o113 (P : Params) : Obj := ⟨.none, none, (.func { name := ⟨⟨[112, 97, 114, 116, 95, 99, 111, 117, 110, 116]⟩⟩, qualname := ⟨⟨[95, 65, 99, 99, 117, 109, 117, 108, 97, 116, 111, 114, 46, 112, 97, 114, 116, 95, 99, 111, 117, 110, 116]⟩⟩, params := fdA (st2 4 8), body := fdB (st2 4 8), scope := fdS (st2 4 8), globals := 0, closure := [], defaults := .none, kwdefaults := .none, doc := .none, pyModule := .none, annotations := none, code := .none, closureTuple := .none, builtins := 0 }), ⟨[]⟩⟩
noncomputable def o114 (P : Params) : Obj := ⟨(.type PySem.W.SZ.s5856160107412720595x4), none, (.fields ⟨[(.str ⟨⟨[112, 97, 114, 116, 95, 99, 111, 117, 110, 116]⟩⟩ 370), (.str ⟨⟨[95, 65, 99, 99, 117, 109, 117, 108, 97, 116, 111, 114, 46, 112, 97, 114, 116, 95, 99, 111, 117, 110, 116]⟩⟩ 371), (.str ⟨⟨[47, 99, 108, 97, 105, 109, 47, 99, 117, 116, 46, 112, 121]⟩⟩ 372), (.int 36 0), (.int 1 0), (.int 0 0), (.int 0 0), (.int 3 0), (.ref 109), (.bool true), (.int 276 0), (.ref 110), .none, (.ref 111), (.ref 112), (.ref 113), (.int 375 0), (.int 36 0), (.str ⟨⟨[47, 99, 108, 97, 105, 109, 47, 99, 117, 116, 46, 112, 121]⟩⟩ 376)]⟩), ⟨[]⟩⟩
noncomputable def o115 (P : Params) : Obj := ⟨(.type PySem.W.SZ.s7174869446012820540x8), none, (.func { name := ⟨⟨[112, 97, 114, 116, 95, 99, 111, 117, 110, 116]⟩⟩, qualname := ⟨⟨[95, 65, 99, 99, 117, 109, 117, 108, 97, 116, 111, 114, 46, 112, 97, 114, 116, 95, 99, 111, 117, 110, 116]⟩⟩, params := fdA (st2 4 8), body := fdB (st2 4 8), scope := fdS (st2 4 8), globals := 3, closure := [(⟨⟨[95, 95, 99, 108, 97, 115, 115, 95, 95]⟩⟩, 42)], defaults := .none, kwdefaults := .none, doc := .none, pyModule := (.str ⟨⟨[99, 112, 121, 51, 49, 51, 46, 101, 109, 97, 105, 108, 46, 104, 101, 97, 100, 101, 114]⟩⟩ 289), annotations := none, code := (.ref 114), closureTuple := (.ref 108), builtins := 0 }), ⟨[]⟩⟩
noncomputable def o116 (P : Params) : Obj := ⟨(.type PySem.W.SZ.s2766695959194262286x5), none, (.seq ⟨[(.str ⟨⟨[95, 105, 110, 105, 116, 105, 97, 108, 95, 115, 105, 122, 101]⟩⟩ 378)]⟩ 0), ⟨[]⟩⟩
noncomputable def o117 (P : Params) : Obj := ⟨(.type PySem.W.SZ.s14018661285674007319x4), none, (.dict ⟨[kE P [95, 95, 109, 111, 100, 117, 108, 101, 95, 95] 300 (.str ⟨⟨[99, 112, 121, 51, 49, 51, 46, 101, 109, 97, 105, 108, 46, 104, 101, 97, 100, 101, 114]⟩⟩ 289), kE P [95, 95, 102, 105, 114, 115, 116, 108, 105, 110, 101, 110, 111, 95, 95] 304 (.int 7 303), kE P [95, 95, 105, 110, 105, 116, 95, 95] 314 (.ref 55), kE P [112, 117, 115, 104] 323 (.ref 62), kE P [112, 111, 112, 95, 102, 114, 111, 109] 332 (.ref 70), kE P [112, 111, 112] 340 (.ref 78), kE P [95, 95, 108, 101, 110, 95, 95] 347 (.ref 85), kE P [95, 95, 115, 116, 114, 95, 95] 354 (.ref 92), kE P [114, 101, 115, 101, 116] 362 (.ref 100), kE P [105, 115, 95, 111, 110, 108, 121, 119, 115] 369 (.ref 107), kE P [112, 97, 114, 116, 95, 99, 111, 117, 110, 116] 377 (.ref 115), kE P [95, 95, 115, 116, 97, 116, 105, 99, 95, 97, 116, 116, 114, 105, 98, 117, 116, 101, 115, 95, 95] 379 (.ref 116), kE P [95, 95, 100, 105, 99, 116, 95, 95] 382 (.ref 119), kE P [95, 95, 119, 101, 97, 107, 114, 101, 102, 95, 95] 384 (.ref 120), kE P [95, 95, 100, 111, 99, 95, 95] 385 .none]⟩ 5), ⟨[]⟩⟩
noncomputable def o118 (P : Params) : Obj := ⟨(.type PySem.W.SZ.s17162191345867700912x4), none, (.cls { name := ⟨⟨[95, 65, 99, 99, 117, 109, 117, 108, 97, 116, 111, 114]⟩⟩, bases := [(.type PySem.W.SZ.s9222952809800978799x4)], mro := [(.ref 118), (.type PySem.W.SZ.s9222952809800978799x4), (.type PySem.W.SZ.s2742458400755230247x6)], ns := 117, qualname := ⟨⟨[95, 65, 99, 99, 117, 109, 117, 108, 97, 116, 111, 114]⟩⟩, hasDict := true, slotNames := [], subclasses := [], abstract := false, collection := none, hasDel := false }), ⟨[some (.ref 39), none, some (.str ⟨⟨[95, 65, 99, 99, 117, 109, 117, 108, 97, 116, 111, 114]⟩⟩ 293), some (.str ⟨⟨[95, 65, 99, 99, 117, 109, 117, 108, 97, 116, 111, 114]⟩⟩ 301), some (.builtin PySem.W.SZ.s896114127876100448x12), some (.bool true)]⟩⟩
noncomputable def o119 (P : Params) : Obj := ⟨(.type PySem.W.SZ.s14755015743595814543x17), none, (.fields ⟨[(.str ⟨⟨[95, 95, 100, 105, 99, 116, 95, 95]⟩⟩ 381), (.ref 118), (.builtin PySem.W.SZ.s6511155373996960695x17), (.builtin PySem.W.SZ.s12411053484034534018x21)]⟩), ⟨[]⟩⟩
noncomputable def o120 (P : Params) : Obj := ⟨(.type PySem.W.SZ.s14755015743595814543x17), none, (.fields ⟨[(.str ⟨⟨[95, 95, 119, 101, 97, 107, 114, 101, 102, 95, 95]⟩⟩ 383), (.ref 118), (.builtin PySem.W.SZ.s10220274742760427390x26), .none]⟩), ⟨[]⟩⟩
noncomputable def o126 (P : Params) : Obj := ⟨(.type PySem.W.SZ.s2766695959194262286x5), none, (.seq ⟨[(.int 14 0), (.int 14 0), (.int 4 0), (.int 1 0), (.int 1 0), (.int 9 0), (.int 0 0), (.int 64 0), (.int 0 0), (.int 1342177280 0), (.int 0 0), (.int 0 0), (.int 0 0), (.int 0 0), (.int 0 0), (.int 17 0), (.int 0 0), (.int 13 0), (.int 11 0), (.int 9 0), (.int 0 0), (.int 64 0), (.int 0 0), (.int 1342177280 0), (.int 0 0), (.int 0 0), (.int 0 0), (.int 0 0), (.int 0 0), (.int 17 0), (.int 1 0), (.int 1 0)]⟩ 0), ⟨[]⟩⟩
noncomputable def o127 (P : Params) : Obj := ⟨(.type PySem.W.SZ.s12171344214640291687x10), none, (.fields ⟨[(.str ⟨⟨[40, 91, 38, 126, 124, 93, 41]⟩⟩ 391), (.int 32 426), (.int 1 0), .none, .none, (.ref 126), (.int 0 0)]⟩), ⟨[]⟩⟩
noncomputable def o128 (P : Params) : Obj := ⟨(.type PySem.W.SZ.s2766695959194262286x5), none, (.seq ⟨[]⟩ 0), ⟨[]⟩⟩
noncomputable def o129 (P : Params) : Obj := ⟨.none, none, (.fields ⟨[]⟩), ⟨[]⟩⟩
noncomputable def o130 (P : Params) : Obj := ⟨(.type PySem.W.SZ.s2766695959194262286x5), none, (.seq ⟨[(.str ⟨⟨[112, 97, 116]⟩⟩ 431), (.str ⟨⟨[83, 84, 65, 82]⟩⟩ 432), (.str ⟨⟨[112, 97, 114, 116, 115]⟩⟩ 433)]⟩ 0), ⟨[]⟩⟩
noncomputable def o131 (P : Params) : Obj := ⟨(.type PySem.W.SZ.s2766695959194262286x5), none, (.seq ⟨[]⟩ 0), ⟨[]⟩⟩
noncomputable def o132 (P : Params) : Obj := ⟨.none, none, (.func { name := ⟨⟨[116, 114, 97, 110, 115, 108, 97, 116, 101]⟩⟩, qualname := ⟨⟨[116, 114, 97, 110, 115, 108, 97, 116, 101]⟩⟩, params := fdA (st1 7), body := fdB (st1 7), scope := fdS (st1 7), globals := 0, closure := [], defaults := .none, kwdefaults := .none, doc := .none, pyModule := .none, annotations := none, code := .none, closureTuple := .none, builtins := 0 }), ⟨[]⟩⟩
noncomputable def o133 (P : Params) : Obj := ⟨(.type PySem.W.SZ.s5856160107412720595x4), none, (.fields ⟨[(.str ⟨⟨[116, 114, 97, 110, 115, 108, 97, 116, 101]⟩⟩ 428), (.str ⟨⟨[116, 114, 97, 110, 115, 108, 97, 116, 101]⟩⟩ 429), (.str ⟨⟨[47, 99, 108, 97, 105, 109, 47, 99, 117, 116, 46, 112, 121]⟩⟩ 430), (.int 40 0), (.int 1 0), (.int 0 0), (.int 0 0), (.int 3 0), (.ref 128), (.bool true), (.int 276 0), (.ref 129), .none, (.ref 130), (.ref 131), (.ref 132), (.int 434 0), (.int 40 0), (.str ⟨⟨[47, 99, 108, 97, 105, 109, 47, 99, 117, 116, 46, 112, 121]⟩⟩ 435)]⟩), ⟨[]⟩⟩
noncomputable def o134 (P : Params) : Obj := ⟨(.type PySem.W.SZ.s7174869446012820540x8), none, (.func { name := ⟨⟨[116, 114, 97, 110, 115, 108, 97, 116, 101]⟩⟩, qualname := ⟨⟨[116, 114, 97, 110, 115, 108, 97, 116, 101]⟩⟩, params := fdA (st1 7), body := fdB (st1 7), scope := fdS (st1 7), globals := 3, closure := [], defaults := .none, kwdefaults := .none, doc := .none, pyModule := (.str ⟨⟨[99, 112, 121, 51, 49, 51, 46, 102, 110, 109, 97, 116, 99, 104]⟩⟩ 388), annotations := none, code := (.ref 133), closureTuple := .none, builtins := 0 }), ⟨[]⟩⟩
noncomputable def o136 (P : Params) : Obj := ⟨(.type PySem.W.SZ.s14018661285674007319x4), none, (.dict ⟨[⟨40, (.int 40 440), (.str ⟨⟨[92, 40]⟩⟩ 444)⟩, ⟨41, (.int 41 446), (.str ⟨⟨[92, 41]⟩⟩ 450)⟩, ⟨91, (.int 91 452), (.str ⟨⟨[92, 91]⟩⟩ 456)⟩, ⟨93, (.int 93 458), (.str ⟨⟨[92, 93]⟩⟩ 462)⟩, ⟨123, (.int 123 464), (.str ⟨⟨[92, 123]⟩⟩ 468)⟩, ⟨125, (.int 125 470), (.str ⟨⟨[92, 125]⟩⟩ 474)⟩, ⟨63, (.int 63 476), (.str ⟨⟨[92, 63]⟩⟩ 480)⟩, ⟨42, (.int 42 482), (.str ⟨⟨[92, 42]⟩⟩ 486)⟩, ⟨43, (.int 43 488), (.str ⟨⟨[92, 43]⟩⟩ 492)⟩, ⟨45, (.int 45 494), (.str ⟨⟨[92, 45]⟩⟩ 498)⟩, ⟨124, (.int 124 500), (.str ⟨⟨[92, 124]⟩⟩ 504)⟩, ⟨94, (.int 94 506), (.str ⟨⟨[92, 94]⟩⟩ 510)⟩, ⟨36, (.int 36 512), (.str ⟨⟨[92, 36]⟩⟩ 516)⟩, ⟨92, (.int 92 518), (.str ⟨⟨[92, 92]⟩⟩ 522)⟩, ⟨46, (.int 46 524), (.str ⟨⟨[92, 46]⟩⟩ 528)⟩, ⟨38, (.int 38 530), (.str ⟨⟨[92, 38]⟩⟩ 534)⟩, ⟨126, (.int 126 536), (.str ⟨⟨[92, 126]⟩⟩ 540)⟩, ⟨35, (.int 35 542), (.str ⟨⟨[92, 35]⟩⟩ 546)⟩, ⟨32, (.int 32 548), (.str ⟨⟨[92, 32]⟩⟩ 552)⟩, ⟨9, (.int 9 554), (.str ⟨⟨[92, 9]⟩⟩ 558)⟩, ⟨10, (.int 10 560), (.str ⟨⟨[92, 10]⟩⟩ 564)⟩, ⟨13, (.int 13 566), (.str ⟨⟨[92, 13]⟩⟩ 570)⟩, ⟨11, (.int 11 572), (.str ⟨⟨[92, 11]⟩⟩ 576)⟩, ⟨12, (.int 12 578), (.str ⟨⟨[92, 12]⟩⟩ 582)⟩]⟩ 24), ⟨[]⟩⟩
noncomputable def o140 (P : Params) : Obj := ⟨(.type PySem.W.SZ.s2766695959194262286x5), none, (.seq ⟨[]⟩ 0), ⟨[]⟩⟩
noncomputable def o141 (P : Params) : Obj := ⟨.none, none, (.fields ⟨[]⟩), ⟨[]⟩⟩
noncomputable def o142 (P : Params) : Obj := ⟨(.type PySem.W.SZ.s2766695959194262286x5), none, (.seq ⟨[(.str ⟨⟨[112, 97, 116, 116, 101, 114, 110]⟩⟩ 588)]⟩ 0), ⟨[]⟩⟩
noncomputable def o143 (P : Params) : Obj := ⟨(.type PySem.W.SZ.s2766695959194262286x5), none, (.seq ⟨[]⟩ 0), ⟨[]⟩⟩
noncomputable def o144 (P : Params) : Obj := ⟨.none, none, (.func { name := ⟨⟨[101, 115, 99, 97, 112, 101]⟩⟩, qualname := ⟨⟨[101, 115, 99, 97, 112, 101]⟩⟩, params := fdA (st1 10), body := fdB (st1 10), scope := fdS (st1 10), globals := 0, closure := [], defaults := .none, kwdefaults := .none, doc := .none, pyModule := .none, annotations := none, code := .none, closureTuple := .none, builtins := 0 }), ⟨[]⟩⟩
noncomputable def o145 (P : Params) : Obj := ⟨(.type PySem.W.SZ.s5856160107412720595x4), none, (.fields ⟨[(.str ⟨⟨[101, 115, 99, 97, 112, 101]⟩⟩ 585), (.str ⟨⟨[101, 115, 99, 97, 112, 101]⟩⟩ 586), (.str ⟨⟨[47, 99, 108, 97, 105, 109, 47, 99, 117, 116, 46, 112, 121]⟩⟩ 587), (.int 46 0), (.int 1 0), (.int 0 0), (.int 0 0), (.int 3 0), (.ref 140), (.bool true), (.int 276 0), (.ref 141), .none, (.ref 142), (.ref 143), (.ref 144), (.int 589 0), (.int 46 0), (.str ⟨⟨[47, 99, 108, 97, 105, 109, 47, 99, 117, 116, 46, 112, 121]⟩⟩ 590)]⟩), ⟨[]⟩⟩
noncomputable def o146 (P : Params) : Obj := ⟨(.type PySem.W.SZ.s7174869446012820540x8), none, (.func { name := ⟨⟨[101, 115, 99, 97, 112, 101]⟩⟩, qualname := ⟨⟨[101, 115, 99, 97, 112, 101]⟩⟩, params := fdA (st1 10), body := fdB (st1 10), scope := fdS (st1 10), globals := 3, closure := [], defaults := .none, kwdefaults := .none, doc := .none, pyModule := (.str ⟨⟨[114, 101]⟩⟩ 437), annotations := none, code := (.ref 145), closureTuple := .none, builtins := 0 }), ⟨[]⟩⟩
noncomputable def o147 (P : Params) : Obj := ⟨(.type PySem.W.SZ.s2766695959194262286x5), none, (.seq ⟨[]⟩ 0), ⟨[]⟩⟩
noncomputable def o148 (P : Params) : Obj := ⟨.none, none, (.fields ⟨[]⟩), ⟨[]⟩⟩
noncomputable def o149 (P : Params) : Obj := ⟨(.type PySem.W.SZ.s2766695959194262286x5), none, (.seq ⟨[(.str ⟨⟨[112, 97, 116]⟩⟩ 597), (.str ⟨⟨[83, 84, 65, 82]⟩⟩ 598), (.str ⟨⟨[81, 85, 69, 83, 84, 73, 79, 78, 95, 77, 65, 82, 75]⟩⟩ 599), (.str ⟨⟨[114, 101, 115]⟩⟩ 600), (.str ⟨⟨[97, 100, 100]⟩⟩ 601), (.str ⟨⟨[105]⟩⟩ 602), (.str ⟨⟨[110]⟩⟩ 603), (.str ⟨⟨[99]⟩⟩ 604), (.str ⟨⟨[106]⟩⟩ 605), (.str ⟨⟨[115, 116, 117, 102, 102]⟩⟩ 606), (.str ⟨⟨[99, 104, 117, 110, 107, 115]⟩⟩ 607), (.str ⟨⟨[107]⟩⟩ 608), (.str ⟨⟨[99, 104, 117, 110, 107]⟩⟩ 609)]⟩ 0), ⟨[]⟩⟩
noncomputable def o150 (P : Params) : Obj := ⟨(.type PySem.W.SZ.s2766695959194262286x5), none, (.seq ⟨[]⟩ 0), ⟨[]⟩⟩
noncomputable def o151 (P : Params) : Obj := ⟨.none, none, (.func { name := ⟨⟨[95, 116, 114, 97, 110, 115, 108, 97, 116, 101]⟩⟩, qualname := ⟨⟨[95, 116, 114, 97, 110, 115, 108, 97, 116, 101]⟩⟩, params := fdA (st1 12), body := fdB (st1 12), scope := fdS (st1 12), globals := 0, closure := [], defaults := .none, kwdefaults := .none, doc := .none, pyModule := .none, annotations := none, code := .none, closureTuple := .none, builtins := 0 }), ⟨[]⟩⟩
noncomputable def o152 (P : Params) : Obj := ⟨(.type PySem.W.SZ.s5856160107412720595x4), none, (.fields ⟨[(.str ⟨⟨[95, 116, 114, 97, 110, 115, 108, 97, 116, 101]⟩⟩ 594), (.str ⟨⟨[95, 116, 114, 97, 110, 115, 108, 97, 116, 101]⟩⟩ 595), (.str ⟨⟨[47, 99, 108, 97, 105, 109, 47, 99, 117, 116, 46, 112, 121]⟩⟩ 596), (.int 53 0), (.int 3 0), (.int 0 0), (.int 0 0), (.int 3 0), (.ref 147), (.bool true), (.int 276 0), (.ref 148), .none, (.ref 149), (.ref 150), (.ref 151), (.int 610 0), (.int 53 0), (.str ⟨⟨[47, 99, 108, 97, 105, 109, 47, 99, 117, 116, 46, 112, 121]⟩⟩ 611)]⟩), ⟨[]⟩⟩
noncomputable def o153 (P : Params) : Obj := ⟨(.type PySem.W.SZ.s7174869446012820540x8), none, (.func { name := ⟨⟨[95, 116, 114, 97, 110, 115, 108, 97, 116, 101]⟩⟩, qualname := ⟨⟨[95, 116, 114, 97, 110, 115, 108, 97, 116, 101]⟩⟩, params := fdA (st1 12), body := fdB (st1 12), scope := fdS (st1 12), globals := 3, closure := [], defaults := .none, kwdefaults := .none, doc := .none, pyModule := (.str ⟨⟨[99, 112, 121, 51, 49, 51, 46, 102, 110, 109, 97, 116, 99, 104]⟩⟩ 592), annotations := none, code := (.ref 152), closureTuple := .none, builtins := 0 }), ⟨[]⟩⟩
noncomputable def o154 (P : Params) : Obj := ⟨(.type PySem.W.SZ.s2766695959194262286x5), none, (.seq ⟨[]⟩ 0), ⟨[]⟩⟩
noncomputable def o155 (P : Params) : Obj := ⟨.none, none, (.fields ⟨[]⟩), ⟨[]⟩⟩
noncomputable def o156 (P : Params) : Obj := ⟨(.type PySem.W.SZ.s2766695959194262286x5), none, (.seq ⟨[(.str ⟨⟨[105, 110, 112]⟩⟩ 616), (.str ⟨⟨[83, 84, 65, 82]⟩⟩ 617), (.str ⟨⟨[114, 101, 115]⟩⟩ 618), (.str ⟨⟨[97, 100, 100]⟩⟩ 619), (.str ⟨⟨[105]⟩⟩ 620), (.str ⟨⟨[110]⟩⟩ 621), (.str ⟨⟨[102, 105, 120, 101, 100]⟩⟩ 622)]⟩ 0), ⟨[]⟩⟩
noncomputable def o157 (P : Params) : Obj := ⟨(.type PySem.W.SZ.s2766695959194262286x5), none, (.seq ⟨[]⟩ 0), ⟨[]⟩⟩
noncomputable def o158 (P : Params) : Obj := ⟨.none, none, (.func { name := ⟨⟨[95, 106, 111, 105, 110, 95, 116, 114, 97, 110, 115, 108, 97, 116, 101, 100, 95, 112, 97, 114, 116, 115]⟩⟩, qualname := ⟨⟨[95, 106, 111, 105, 110, 95, 116, 114, 97, 110, 115, 108, 97, 116, 101, 100, 95, 112, 97, 114, 116, 115]⟩⟩, params := fdA (st1 13), body := fdB (st1 13), scope := fdS (st1 13), globals := 0, closure := [], defaults := .none, kwdefaults := .none, doc := .none, pyModule := .none, annotations := none, code := .none, closureTuple := .none, builtins := 0 }), ⟨[]⟩⟩
noncomputable def o159 (P : Params) : Obj := ⟨(.type PySem.W.SZ.s5856160107412720595x4), none, (.fields ⟨[(.str ⟨⟨[95, 106, 111, 105, 110, 95, 116, 114, 97, 110, 115, 108, 97, 116, 101, 100, 95, 112, 97, 114, 116, 115]⟩⟩ 613), (.str ⟨⟨[95, 106, 111, 105, 110, 95, 116, 114, 97, 110, 115, 108, 97, 116, 101, 100, 95, 112, 97, 114, 116, 115]⟩⟩ 614), (.str ⟨⟨[47, 99, 108, 97, 105, 109, 47, 99, 117, 116, 46, 112, 121]⟩⟩ 615), (.int 115 0), (.int 2 0), (.int 0 0), (.int 0 0), (.int 3 0), (.ref 154), (.bool true), (.int 276 0), (.ref 155), .none, (.ref 156), (.ref 157), (.ref 158), (.int 623 0), (.int 115 0), (.str ⟨⟨[47, 99, 108, 97, 105, 109, 47, 99, 117, 116, 46, 112, 121]⟩⟩ 624)]⟩), ⟨[]⟩⟩
noncomputable def o160 (P : Params) : Obj := ⟨(.type PySem.W.SZ.s7174869446012820540x8), none, (.func { name := ⟨⟨[95, 106, 111, 105, 110, 95, 116, 114, 97, 110, 115, 108, 97, 116, 101, 100, 95, 112, 97, 114, 116, 115]⟩⟩, qualname := ⟨⟨[95, 106, 111, 105, 110, 95, 116, 114, 97, 110, 115, 108, 97, 116, 101, 100, 95, 112, 97, 114, 116, 115]⟩⟩, params := fdA (st1 13), body := fdB (st1 13), scope := fdS (st1 13), globals := 3, closure := [], defaults := .none, kwdefaults := .none, doc := .none, pyModule := (.str ⟨⟨[99, 112, 121, 51, 49, 51, 46, 102, 110, 109, 97, 116, 99, 104]⟩⟩ 592), annotations := none, code := (.ref 159), closureTuple := .none, builtins := 0 }), ⟨[]⟩⟩
noncomputable def o161 (P : Params) : Obj := ⟨(.type PySem.W.SZ.s2766695959194262286x5), none, (.seq ⟨[]⟩ 0), ⟨[]⟩⟩
noncomputable def o162 (P : Params) : Obj := ⟨.none, none, (.fields ⟨[]⟩), ⟨[]⟩⟩
noncomputable def o163 (P : Params) : Obj := ⟨(.type PySem.W.SZ.s2766695959194262286x5), none, (.seq ⟨[(.str ⟨⟨[104, 101, 97, 112]⟩⟩ 631), (.str ⟨⟨[108, 97, 115, 116, 101, 108, 116]⟩⟩ 632), (.str ⟨⟨[114, 101, 116, 117, 114, 110, 105, 116, 101, 109]⟩⟩ 633)]⟩ 0), ⟨[]⟩⟩
noncomputable def o164 (P : Params) : Obj := ⟨(.type PySem.W.SZ.s2766695959194262286x5), none, (.seq ⟨[]⟩ 0), ⟨[]⟩⟩
noncomputable def o165 (P : Params) : Obj := ⟨.none, none, (.func { name := ⟨⟨[104, 101, 97, 112, 112, 111, 112]⟩⟩, qualname := ⟨⟨[104, 101, 97, 112, 112, 111, 112]⟩⟩, params := fdA (st1 15), body := fdB (st1 15), scope := fdS (st1 15), globals := 0, closure := [], defaults := .none, kwdefaults := .none, doc := .none, pyModule := .none, annotations := none, code := .none, closureTuple := .none, builtins := 0 }), ⟨[]⟩⟩
noncomputable def o166 (P : Params) : Obj := ⟨(.type PySem.W.SZ.s5856160107412720595x4), none, (.fields ⟨[(.str ⟨⟨[104, 101, 97, 112, 112, 111, 112]⟩⟩ 628), (.str ⟨⟨[104, 101, 97, 112, 112, 111, 112]⟩⟩ 629), (.str ⟨⟨[47, 99, 108, 97, 105, 109, 47, 99, 117, 116, 46, 112, 121]⟩⟩ 630), (.int 143 0), (.int 1 0), (.int 0 0), (.int 0 0), (.int 3 0), (.ref 161), (.bool true), (.int 276 0), (.ref 162), .none, (.ref 163), (.ref 164), (.ref 165), (.int 634 0), (.int 143 0), (.str ⟨⟨[47, 99, 108, 97, 105, 109, 47, 99, 117, 116, 46, 112, 121]⟩⟩ 635)]⟩), ⟨[]⟩⟩
noncomputable def o167 (P : Params) : Obj := ⟨(.type PySem.W.SZ.s7174869446012820540x8), none, (.func { name := ⟨⟨[104, 101, 97, 112, 112, 111, 112]⟩⟩, qualname := ⟨⟨[104, 101, 97, 112, 112, 111, 112]⟩⟩, params := fdA (st1 15), body := fdB (st1 15), scope := fdS (st1 15), globals := 3, closure := [], defaults := .none, kwdefaults := .none, doc := .none, pyModule := (.str ⟨⟨[99, 112, 121, 51, 49, 51, 46, 104, 101, 97, 112, 113]⟩⟩ 626), annotations := none, code := (.ref 166), closureTuple := .none, builtins := 0 }), ⟨[]⟩⟩
noncomputable def o168 (P : Params) : Obj := ⟨(.type PySem.W.SZ.s2766695959194262286x5), none, (.seq ⟨[]⟩ 0), ⟨[]⟩⟩
noncomputable def o169 (P : Params) : Obj := ⟨.none, none, (.fields ⟨[]⟩), ⟨[]⟩⟩
noncomputable def o170 (P : Params) : Obj := ⟨(.type PySem.W.SZ.s2766695959194262286x5), none, (.seq ⟨[(.str ⟨⟨[120]⟩⟩ 640), (.str ⟨⟨[110]⟩⟩ 641), (.str ⟨⟨[105]⟩⟩ 642)]⟩ 0), ⟨[]⟩⟩
noncomputable def o171 (P : Params) : Obj := ⟨(.type PySem.W.SZ.s2766695959194262286x5), none, (.seq ⟨[]⟩ 0), ⟨[]⟩⟩
noncomputable def o172 (P : Params) : Obj := ⟨.none, none, (.func { name := ⟨⟨[104, 101, 97, 112, 105, 102, 121]⟩⟩, qualname := ⟨⟨[104, 101, 97, 112, 105, 102, 121]⟩⟩, params := fdA (st1 16), body := fdB (st1 16), scope := fdS (st1 16), globals := 0, closure := [], defaults := .none, kwdefaults := .none, doc := .none, pyModule := .none, annotations := none, code := .none, closureTuple := .none, builtins := 0 }), ⟨[]⟩⟩
noncomputable def o173 (P : Params) : Obj := ⟨(.type PySem.W.SZ.s5856160107412720595x4), none, (.fields ⟨[(.str ⟨⟨[104, 101, 97, 112, 105, 102, 121]⟩⟩ 637), (.str ⟨⟨[104, 101, 97, 112, 105, 102, 121]⟩⟩ 638), (.str ⟨⟨[47, 99, 108, 97, 105, 109, 47, 99, 117, 116, 46, 112, 121]⟩⟩ 639), (.int 151 0), (.int 1 0), (.int 0 0), (.int 0 0), (.int 3 0), (.ref 168), (.bool true), (.int 276 0), (.ref 169), .none, (.ref 170), (.ref 171), (.ref 172), (.int 643 0), (.int 151 0), (.str ⟨⟨[47, 99, 108, 97, 105, 109, 47, 99, 117, 116, 46, 112, 121]⟩⟩ 644)]⟩), ⟨[]⟩⟩
noncomputable def o174 (P : Params) : Obj := ⟨(.type PySem.W.SZ.s7174869446012820540x8), none, (.func { name := ⟨⟨[104, 101, 97, 112, 105, 102, 121]⟩⟩, qualname := ⟨⟨[104, 101, 97, 112, 105, 102, 121]⟩⟩, params := fdA (st1 16), body := fdB (st1 16), scope := fdS (st1 16), globals := 3, closure := [], defaults := .none, kwdefaults := .none, doc := .none, pyModule := (.str ⟨⟨[99, 112, 121, 51, 49, 51, 46, 104, 101, 97, 112, 113]⟩⟩ 626), annotations := none, code := (.ref 173), closureTuple := .none, builtins := 0 }), ⟨[]⟩⟩
noncomputable def o175 (P : Params) : Obj := ⟨(.type PySem.W.SZ.s2766695959194262286x5), none, (.seq ⟨[]⟩ 0), ⟨[]⟩⟩
noncomputable def o176 (P : Params) : Obj := ⟨.none, none, (.fields ⟨[]⟩), ⟨[]⟩⟩
noncomputable def o177 (P : Params) : Obj := ⟨(.type PySem.W.SZ.s2766695959194262286x5), none, (.seq ⟨[(.str ⟨⟨[104, 101, 97, 112]⟩⟩ 649), (.str ⟨⟨[115, 116, 97, 114, 116, 112, 111, 115]⟩⟩ 650), (.str ⟨⟨[112, 111, 115]⟩⟩ 651), (.str ⟨⟨[110, 101, 119, 105, 116, 101, 109]⟩⟩ 652), (.str ⟨⟨[112, 97, 114, 101, 110, 116, 112, 111, 115]⟩⟩ 653), (.str ⟨⟨[112, 97, 114, 101, 110, 116]⟩⟩ 654)]⟩ 0), ⟨[]⟩⟩
noncomputable def o178 (P : Params) : Obj := ⟨(.type PySem.W.SZ.s2766695959194262286x5), none, (.seq ⟨[]⟩ 0), ⟨[]⟩⟩
noncomputable def o179 (P : Params) : Obj := ⟨.none, none, (.func { name := ⟨⟨[95, 115, 105, 102, 116, 100, 111, 119, 110]⟩⟩, qualname := ⟨⟨[95, 115, 105, 102, 116, 100, 111, 119, 110]⟩⟩, params := fdA (st1 17), body := fdB (st1 17), scope := fdS (st1 17), globals := 0, closure := [], defaults := .none, kwdefaults := .none, doc := .none, pyModule := .none, annotations := none, code := .none, closureTuple := .none, builtins := 0 }), ⟨[]⟩⟩
noncomputable def o180 (P : Params) : Obj := ⟨(.type PySem.W.SZ.s5856160107412720595x4), none, (.fields ⟨[(.str ⟨⟨[95, 115, 105, 102, 116, 100, 111, 119, 110]⟩⟩ 646), (.str ⟨⟨[95, 115, 105, 102, 116, 100, 111, 119, 110]⟩⟩ 647), (.str ⟨⟨[47, 99, 108, 97, 105, 109, 47, 99, 117, 116, 46, 112, 121]⟩⟩ 648), (.int 155 0), (.int 3 0), (.int 0 0), (.int 0 0), (.int 3 0), (.ref 175), (.bool true), (.int 276 0), (.ref 176), .none, (.ref 177), (.ref 178), (.ref 179), (.int 655 0), (.int 155 0), (.str ⟨⟨[47, 99, 108, 97, 105, 109, 47, 99, 117, 116, 46, 112, 121]⟩⟩ 656)]⟩), ⟨[]⟩⟩
noncomputable def o181 (P : Params) : Obj := ⟨(.type PySem.W.SZ.s7174869446012820540x8), none, (.func { name := ⟨⟨[95, 115, 105, 102, 116, 100, 111, 119, 110]⟩⟩, qualname := ⟨⟨[95, 115, 105, 102, 116, 100, 111, 119, 110]⟩⟩, params := fdA (st1 17), body := fdB (st1 17), scope := fdS (st1 17), globals := 3, closure := [], defaults := .none, kwdefaults := .none, doc := .none, pyModule := (.str ⟨⟨[99, 112, 121, 51, 49, 51, 46, 104, 101, 97, 112, 113]⟩⟩ 626), annotations := none, code := (.ref 180), closureTuple := .none, builtins := 0 }), ⟨[]⟩⟩
noncomputable def o182 (P : Params) : Obj := ⟨(.type PySem.W.SZ.s2766695959194262286x5), none, (.seq ⟨[]⟩ 0), ⟨[]⟩⟩
noncomputable def o183 (P : Params) : Obj := ⟨.none, none, (.fields ⟨[]⟩), ⟨[]⟩⟩
noncomputable def o184 (P : Params) : Obj := ⟨(.type PySem.W.SZ.s2766695959194262286x5), none, (.seq ⟨[(.str ⟨⟨[104, 101, 97, 112]⟩⟩ 661), (.str ⟨⟨[112, 111, 115]⟩⟩ 662), (.str ⟨⟨[101, 110, 100, 112, 111, 115]⟩⟩ 663), (.str ⟨⟨[115, 116, 97, 114, 116, 112, 111, 115]⟩⟩ 664), (.str ⟨⟨[110, 101, 119, 105, 116, 101, 109]⟩⟩ 665), (.str ⟨⟨[99, 104, 105, 108, 100, 112, 111, 115]⟩⟩ 666), (.str ⟨⟨[114, 105, 103, 104, 116, 112, 111, 115]⟩⟩ 667)]⟩ 0), ⟨[]⟩⟩
noncomputable def o185 (P : Params) : Obj := ⟨(.type PySem.W.SZ.s2766695959194262286x5), none, (.seq ⟨[]⟩ 0), ⟨[]⟩⟩
noncomputable def o186 (P : Params) : Obj := ⟨.none, none, (.func { name := ⟨⟨[95, 115, 105, 102, 116, 117, 112]⟩⟩, qualname := ⟨⟨[95, 115, 105, 102, 116, 117, 112]⟩⟩, params := fdA (st1 18), body := fdB (st1 18), scope := fdS (st1 18), globals := 0, closure := [], defaults := .none, kwdefaults := .none, doc := .none, pyModule := .none, annotations := none, code := .none, closureTuple := .none, builtins := 0 }), ⟨[]⟩⟩
noncomputable def o187 (P : Params) : Obj := ⟨(.type PySem.W.SZ.s5856160107412720595x4), none, (.fields ⟨[(.str ⟨⟨[95, 115, 105, 102, 116, 117, 112]⟩⟩ 658), (.str ⟨⟨[95, 115, 105, 102, 116, 117, 112]⟩⟩ 659), (.str ⟨⟨[47, 99, 108, 97, 105, 109, 47, 99, 117, 116, 46, 112, 121]⟩⟩ 660), (.int 166 0), (.int 2 0), (.int 0 0), (.int 0 0), (.int 3 0), (.ref 182), (.bool true), (.int 276 0), (.ref 183), .none, (.ref 184), (.ref 185), (.ref 186), (.int 668 0), (.int 166 0), (.str ⟨⟨[47, 99, 108, 97, 105, 109, 47, 99, 117, 116, 46, 112, 121]⟩⟩ 669)]⟩), ⟨[]⟩⟩
noncomputable def o188 (P : Params) : Obj := ⟨(.type PySem.W.SZ.s7174869446012820540x8), none, (.func { name := ⟨⟨[95, 115, 105, 102, 116, 117, 112]⟩⟩, qualname := ⟨⟨[95, 115, 105, 102, 116, 117, 112]⟩⟩, params := fdA (st1 18), body := fdB (st1 18), scope := fdS (st1 18), globals := 3, closure := [], defaults := .none, kwdefaults := .none, doc := .none, pyModule := (.str ⟨⟨[99, 112, 121, 51, 49, 51, 46, 104, 101, 97, 112, 113]⟩⟩ 626), annotations := none, code := (.ref 187), closureTuple := .none, builtins := 0 }), ⟨[]⟩⟩
noncomputable def o189 (P : Params) : Obj := ⟨(.type PySem.W.SZ.s2766695959194262286x5), none, (.seq ⟨[]⟩ 0), ⟨[]⟩⟩
noncomputable def o190 (P : Params) : Obj := ⟨.none, none, (.fields ⟨[]⟩), ⟨[]⟩⟩
noncomputable def o191 (P : Params) : Obj := ⟨.none, none, (.func { name := ⟨⟨[95, 108, 97, 119, 95, 109, 97, 114, 107, 115]⟩⟩, qualname := ⟨⟨[95, 108, 97, 119, 95, 109, 97, 114, 107, 115]⟩⟩, params := fdA (st1 20), body := fdB (st1 20), scope := fdS (st1 20), globals := 0, closure := [], defaults := .none, kwdefaults := .none, doc := .none, pyModule := .none, annotations := none, code := .none, closureTuple := .none, builtins := 0 }), ⟨[]⟩⟩
noncomputable def o192 (P : Params) : Obj := ⟨(.type PySem.W.SZ.s5856160107412720595x4), none, (.fields ⟨[(.str ⟨⟨[95, 108, 97, 119, 95, 109, 97, 114, 107, 115]⟩⟩ 673), (.str ⟨⟨[95, 108, 97, 119, 95, 109, 97, 114, 107, 115]⟩⟩ 674), (.str ⟨⟨[47, 99, 108, 97, 105, 109, 47, 99, 117, 116, 46, 112, 121]⟩⟩ 675), (.int 181 0), (.int 2 0), (.int 0 0), (.int 0 0), (.int 3 0), (.ref 189), (.bool true), (.int 276 0), (.ref 190), .none, .none, .none, (.ref 191), (.int 676 0), (.int 181 0), (.str ⟨⟨[47, 99, 108, 97, 105, 109, 47, 99, 117, 116, 46, 112, 121]⟩⟩ 677)]⟩), ⟨[]⟩⟩
noncomputable def o193 (P : Params) : Obj := ⟨(.type PySem.W.SZ.s7174869446012820540x8), none, (.func { name := ⟨⟨[95, 108, 97, 119, 95, 109, 97, 114, 107, 115]⟩⟩, qualname := ⟨⟨[95, 108, 97, 119, 95, 109, 97, 114, 107, 115]⟩⟩, params := fdA (st1 20), body := fdB (st1 20), scope := fdS (st1 20), globals := 3, closure := [], defaults := .none, kwdefaults := .none, doc := .none, pyModule := (.str ⟨⟨[108, 97, 119, 95, 105, 110, 48, 50, 52, 56, 95, 48, 49]⟩⟩ 671), annotations := none, code := (.ref 192), closureTuple := .none, builtins := 0 }), ⟨[]⟩⟩
noncomputable def o194 (P : Params) : Obj := ⟨(.type PySem.W.SZ.s2766695959194262286x5), none, (.seq ⟨[]⟩ 0), ⟨[]⟩⟩
noncomputable def o195 (P : Params) : Obj := ⟨.none, none, (.fields ⟨[]⟩), ⟨[]⟩⟩
noncomputable def o196 (P : Params) : Obj := ⟨.none, none, (.func { name := ⟨⟨[95, 108, 97, 119, 95, 114, 111, 119]⟩⟩, qualname := ⟨⟨[95, 108, 97, 119, 95, 114, 111, 119]⟩⟩, params := fdA (st1 21), body := fdB (st1 21), scope := fdS (st1 21), globals := 0, closure := [], defaults := .none, kwdefaults := .none, doc := .none, pyModule := .none, annotations := none, code := .none, closureTuple := .none, builtins := 0 }), ⟨[]⟩⟩
noncomputable def o197 (P : Params) : Obj := ⟨(.type PySem.W.SZ.s5856160107412720595x4), none, (.fields ⟨[(.str ⟨⟨[95, 108, 97, 119, 95, 114, 111, 119]⟩⟩ 679), (.str ⟨⟨[95, 108, 97, 119, 95, 114, 111, 119]⟩⟩ 680), (.str ⟨⟨[47, 99, 108, 97, 105, 109, 47, 99, 117, 116, 46, 112, 121]⟩⟩ 681), (.int 187 0), (.int 2 0), (.int 0 0), (.int 0 0), (.int 3 0), (.ref 194), (.bool true), (.int 276 0), (.ref 195), .none, .none, .none, (.ref 196), (.int 682 0), (.int 187 0), (.str ⟨⟨[47, 99, 108, 97, 105, 109, 47, 99, 117, 116, 46, 112, 121]⟩⟩ 683)]⟩), ⟨[]⟩⟩
noncomputable def o198 (P : Params) : Obj := ⟨(.type PySem.W.SZ.s7174869446012820540x8), none, (.func { name := ⟨⟨[95, 108, 97, 119, 95, 114, 111, 119]⟩⟩, qualname := ⟨⟨[95, 108, 97, 119, 95, 114, 111, 119]⟩⟩, params := fdA (st1 21), body := fdB (st1 21), scope := fdS (st1 21), globals := 3, closure := [], defaults := .none, kwdefaults := .none, doc := .none, pyModule := (.str ⟨⟨[108, 97, 119, 95, 105, 110, 48, 50, 52, 56, 95, 48, 49]⟩⟩ 671), annotations := none, code := (.ref 197), closureTuple := .none, builtins := 0 }), ⟨[]⟩⟩
noncomputable def o199 (P : Params) : Obj := ⟨(.type PySem.W.SZ.s2766695959194262286x5), none, (.seq ⟨[]⟩ 0), ⟨[]⟩⟩
noncomputable def o200 (P : Params) : Obj := ⟨.none, none, (.fields ⟨[]⟩), ⟨[]⟩⟩
noncomputable def o201 (P : Params) : Obj := ⟨.none, none, (.func { name := ⟨⟨[95, 108, 97, 119, 95, 109, 111, 118, 101]⟩⟩, qualname := ⟨⟨[95, 108, 97, 119, 95, 109, 111, 118, 101]⟩⟩, params := fdA (st1 22), body := fdB (st1 22), scope := fdS (st1 22), globals := 0, closure := [], defaults := .none, kwdefaults := .none, doc := .none, pyModule := .none, annotations := none, code := .none, closureTuple := .none, builtins := 0 }), ⟨[]⟩⟩
noncomputable def o202 (P : Params) : Obj := ⟨(.type PySem.W.SZ.s5856160107412720595x4), none, (.fields ⟨[(.str ⟨⟨[95, 108, 97, 119, 95, 109, 111, 118, 101]⟩⟩ 685), (.str ⟨⟨[95, 108, 97, 119, 95, 109, 111, 118, 101]⟩⟩ 686), (.str ⟨⟨[47, 99, 108, 97, 105, 109, 47, 99, 117, 116, 46, 112, 121]⟩⟩ 687), (.int 194 0), (.int 1 0), (.int 0 0), (.int 0 0), (.int 3 0), (.ref 199), (.bool true), (.int 276 0), (.ref 200), .none, .none, .none, (.ref 201), (.int 688 0), (.int 194 0), (.str ⟨⟨[47, 99, 108, 97, 105, 109, 47, 99, 117, 116, 46, 112, 121]⟩⟩ 689)]⟩), ⟨[]⟩⟩
noncomputable def o203 (P : Params) : Obj := ⟨(.type PySem.W.SZ.s7174869446012820540x8), none, (.func { name := ⟨⟨[95, 108, 97, 119, 95, 109, 111, 118, 101]⟩⟩, qualname := ⟨⟨[95, 108, 97, 119, 95, 109, 111, 118, 101]⟩⟩, params := fdA (st1 22), body := fdB (st1 22), scope := fdS (st1 22), globals := 3, closure := [], defaults := .none, kwdefaults := .none, doc := .none, pyModule := (.str ⟨⟨[108, 97, 119, 95, 105, 110, 48, 50, 52, 56, 95, 48, 49]⟩⟩ 671), annotations := none, code := (.ref 202), closureTuple := .none, builtins := 0 }), ⟨[]⟩⟩
noncomputable def o204 (P : Params) : Obj := ⟨(.type PySem.W.SZ.s2766695959194262286x5), none, (.seq ⟨[]⟩ 0), ⟨[]⟩⟩
noncomputable def o205 (P : Params) : Obj := ⟨.none, none, (.fields ⟨[]⟩), ⟨[]⟩⟩
noncomputable def o206 (P : Params) : Obj := ⟨.none, none, (.func { name := ⟨⟨[108, 97, 119]⟩⟩, qualname := ⟨⟨[108, 97, 119]⟩⟩, params := fdA (st1 23), body := fdB (st1 23), scope := fdS (st1 23), globals := 0, closure := [], defaults := .none, kwdefaults := .none, doc := .none, pyModule := .none, annotations := none, code := .none, closureTuple := .none, builtins := 0 }), ⟨[]⟩⟩
noncomputable def o207 (P : Params) : Obj := ⟨(.type PySem.W.SZ.s5856160107412720595x4), none, (.fields ⟨[(.str ⟨⟨[108, 97, 119]⟩⟩ 691), (.str ⟨⟨[108, 97, 119]⟩⟩ 692), (.str ⟨⟨[47, 99, 108, 97, 105, 109, 47, 99, 117, 116, 46, 112, 121]⟩⟩ 693), (.int 200 0), (.int 1 0), (.int 0 0), (.int 0 0), (.int 3 0), (.ref 204), (.bool true), (.int 276 0), (.ref 205), .none, .none, .none, (.ref 206), (.int 694 0), (.int 200 0), (.str ⟨⟨[47, 99, 108, 97, 105, 109, 47, 99, 117, 116, 46, 112, 121]⟩⟩ 695)]⟩), ⟨[]⟩⟩
noncomputable def o208 (P : Params) : Obj := ⟨(.type PySem.W.SZ.s7174869446012820540x8), none, (.func { name := ⟨⟨[108, 97, 119]⟩⟩, qualname := ⟨⟨[108, 97, 119]⟩⟩, params := fdA (st1 23), body := fdB (st1 23), scope := fdS (st1 23), globals := 3, closure := [], defaults := .none, kwdefaults := .none, doc := .none, pyModule := (.str ⟨⟨[108, 97, 119, 95, 105, 110, 48, 50, 52, 56, 95, 48, 49]⟩⟩ 671), annotations := none, code := (.ref 207), closureTuple := .none, builtins := 0 }), ⟨[]⟩⟩
noncomputable def K0 (P : Params) : Frag := [(0, o0 P), (1, o1 P), (2, o2 P), (3, o3 P), (4, o4 P), (5, o5 P), (6, o6 P), (7, o7 P), (8, o8 P), (9, o9 P), (10, o10 P), (11, o11 P), (12, o12 P), (13, o13 P), (14, o14 P), (15, o15 P), (32, o32 P), (33, o33 P), (34, o34 P), (35, o35 P), (36, o36 P), (37, o37 P), (38, o38 P), (39, o39 P), (42, o42 P), (47, o47 P), (48, o48 P), (49, o49 P), (50, o50 P), (51, o51 P), (52, o52 P), (53, o53 P), (54, o54 P), (55, o55 P), (56, o56 P), (57, o57 P), (58, o58 P), (59, o59 P), (60, o60 P), (61, o61 P), (62, o62 P), (63, o63 P), (64, o64 P), (65, o65 P), (66, o66 P), (67, o67 P), (68, o68 P), (69, o69 P), (70, o70 P), (71, o71 P), (72, o72 P), (73, o73 P), (74, o74 P), (75, o75 P), (76, o76 P), (77, o77 P), (78, o78 P), (79, o79 P), (80, o80 P), (81, o81 P), (82, o82 P), (83, o83 P), (84, o84 P), (85, o85 P), (86, o86 P), (87, o87 P), (88, o88 P), (89, o89 P), (90, o90 P), (91, o91 P), (92, o92 P), (93, o93 P), (94, o94 P), (95, o95 P), (96, o96 P), (97, o97 P), (98, o98 P), (99, o99 P), (100, o100 P), (101, o101 P), (102, o102 P), (103, o103 P), (104, o104 P), (105, o105 P), (106, o106 P), (107, o107 P), (108, o108 P), (109, o109 P), (110, o110 P), (111, o111 P), (112, o112 P), (113, o113 P), (114, o114 P), (115, o115 P), (116, o116 P), (117, o117 P), (118, o118 P), (119, o119 P), (120, o120 P), (126, o126 P), (127, o127 P), (128, o128 P), (129, o129 P), (130, o130 P), (131, o131 P), (132, o132 P), (133, o133 P), (134, o134 P), (136, o136 P), (140, o140 P), (141, o141 P), (142, o142 P), (143, o143 P), (144, o144 P), (145, o145 P), (146, o146 P), (147, o147 P), (148, o148 P), (149, o149 P), (150, o150 P), (151, o151 P), (152, o152 P), (153, o153 P), (154, o154 P), (155, o155 P), (156, o156 P), (157, o157 P), (158, o158 P), (159, o159 P), (160, o160 P), (161, o161 P), (162, o162 P), (163, o163 P), (164, o164 P), (165, o165 P), (166, o166 P), (167, o167 P), (168, o168 P), (169, o169 P), (170, o170 P), (171, o171 P), (172, o172 P), (173, o173 P), (174, o174 P), (175, o175 P), (176, o176 P), (177, o177 P), (178, o178 P), (179, o179 P), (180, o180 P), (181, o181 P), (182, o182 P), (183, o183 P), (184, o184 P), (185, o185 P), (186, o186 P), (187, o187 P), (188, o188 P), (189, o189 P), (190, o190 P), (191, o191 P), (192, o192 P), (193, o193 P), (194, o194 P), (195, o195 P), (196, o196 P), (197, o197 P), (198, o198 P), (199, o199 P), (200, o200 P), (201, o201 P), (202, o202 P), (203, o203 P), (204, o204 P), (205, o205 P), (206, o206 P), (207, o207 P), (208, o208 P)]
noncomputable def T0 (P : Params) : KT := (.node (some (o0 P)) (.node (some (o1 P)) (.node (some (o3 P)) (.node (some (o7 P)) (.node (some (o15 P)) (.node none (.node (some (o63 P)) (.node (some (o127 P)) .nil .nil) (.node (some (o191 P)) .nil .nil)) (.node (some (o95 P)) (.node (some (o159 P)) .nil .nil) .nil)) (.node (some (o47 P)) (.node (some (o79 P)) (.node (some (o143 P)) .nil .nil) (.node (some (o207 P)) .nil .nil)) (.node (some (o111 P)) (.node (some (o175 P)) .nil .nil) .nil))) (.node none (.node (some (o39 P)) (.node (some (o71 P)) .nil (.node (some (o199 P)) .nil .nil)) (.node (some (o103 P)) (.node (some (o167 P)) .nil .nil) .nil)) (.node (some (o55 P)) (.node (some (o87 P)) (.node (some (o151 P)) .nil .nil) .nil) (.node (some (o119 P)) (.node (some (o183 P)) .nil .nil) .nil)))) (.node (some (o11 P)) (.node none (.node (some (o35 P)) (.node (some (o67 P)) (.node (some (o131 P)) .nil .nil) (.node (some (o195 P)) .nil .nil)) (.node (some (o99 P)) (.node (some (o163 P)) .nil .nil) .nil)) (.node (some (o51 P)) (.node (some (o83 P)) (.node (some (o147 P)) .nil .nil) .nil) (.node (some (o115 P)) (.node (some (o179 P)) .nil .nil) .nil))) (.node none (.node none (.node (some (o75 P)) .nil (.node (some (o203 P)) .nil .nil)) (.node (some (o107 P)) (.node (some (o171 P)) .nil .nil) .nil)) (.node (some (o59 P)) (.node (some (o91 P)) (.node (some (o155 P)) .nil .nil) .nil) (.node none (.node (some (o187 P)) .nil .nil) .nil))))) (.node (some (o5 P)) (.node (some (o9 P)) (.node none (.node (some (o33 P)) (.node (some (o65 P)) (.node (some (o129 P)) .nil .nil) (.node (some (o193 P)) .nil .nil)) (.node (some (o97 P)) (.node (some (o161 P)) .nil .nil) .nil)) (.node (some (o49 P)) (.node (some (o81 P)) (.node (some (o145 P)) .nil .nil) .nil) (.node (some (o113 P)) (.node (some (o177 P)) .nil .nil) .nil))) (.node none (.node none (.node (some (o73 P)) .nil (.node (some (o201 P)) .nil .nil)) (.node (some (o105 P)) (.node (some (o169 P)) .nil .nil) .nil)) (.node (some (o57 P)) (.node (some (o89 P)) (.node (some (o153 P)) .nil .nil) .nil) (.node none (.node (some (o185 P)) .nil .nil) .nil)))) (.node (some (o13 P)) (.node none (.node (some (o37 P)) (.node (some (o69 P)) (.node (some (o133 P)) .nil .nil) (.node (some (o197 P)) .nil .nil)) (.node (some (o101 P)) (.node (some (o165 P)) .nil .nil) .nil)) (.node (some (o53 P)) (.node (some (o85 P)) (.node (some (o149 P)) .nil .nil) .nil) (.node (some (o117 P)) (.node (some (o181 P)) .nil .nil) .nil))) (.node none (.node none (.node (some (o77 P)) (.node (some (o141 P)) .nil .nil) (.node (some (o205 P)) .nil .nil)) (.node (some (o109 P)) (.node (some (o173 P)) .nil .nil) .nil)) (.node (some (o61 P)) (.node (some (o93 P)) (.node (some (o157 P)) .nil .nil) .nil) (.node none (.node (some (o189 P)) .nil .nil) .nil)))))) (.node (some (o2 P)) (.node (some (o4 P)) (.node (some (o8 P)) (.node none (.node (some (o32 P)) (.node (some (o64 P)) (.node (some (o128 P)) .nil .nil) (.node (some (o192 P)) .nil .nil)) (.node (some (o96 P)) (.node (some (o160 P)) .nil .nil) .nil)) (.node (some (o48 P)) (.node (some (o80 P)) (.node (some (o144 P)) .nil .nil) (.node (some (o208 P)) .nil .nil)) (.node (some (o112 P)) (.node (some (o176 P)) .nil .nil) .nil))) (.node none (.node none (.node (some (o72 P)) (.node (some (o136 P)) .nil .nil) (.node (some (o200 P)) .nil .nil)) (.node (some (o104 P)) (.node (some (o168 P)) .nil .nil) .nil)) (.node (some (o56 P)) (.node (some (o88 P)) (.node (some (o152 P)) .nil .nil) .nil) (.node (some (o120 P)) (.node (some (o184 P)) .nil .nil) .nil)))) (.node (some (o12 P)) (.node none (.node (some (o36 P)) (.node (some (o68 P)) (.node (some (o132 P)) .nil .nil) (.node (some (o196 P)) .nil .nil)) (.node (some (o100 P)) (.node (some (o164 P)) .nil .nil) .nil)) (.node (some (o52 P)) (.node (some (o84 P)) (.node (some (o148 P)) .nil .nil) .nil) (.node (some (o116 P)) (.node (some (o180 P)) .nil .nil) .nil))) (.node none (.node none (.node (some (o76 P)) (.node (some (o140 P)) .nil .nil) (.node (some (o204 P)) .nil .nil)) (.node (some (o108 P)) (.node (some (o172 P)) .nil .nil) .nil)) (.node (some (o60 P)) (.node (some (o92 P)) (.node (some (o156 P)) .nil .nil) .nil) (.node none (.node (some (o188 P)) .nil .nil) .nil))))) (.node (some (o6 P)) (.node (some (o10 P)) (.node none (.node (some (o34 P)) (.node (some (o66 P)) (.node (some (o130 P)) .nil .nil) (.node (some (o194 P)) .nil .nil)) (.node (some (o98 P)) (.node (some (o162 P)) .nil .nil) .nil)) (.node (some (o50 P)) (.node (some (o82 P)) (.node (some (o146 P)) .nil .nil) .nil) (.node (some (o114 P)) (.node (some (o178 P)) .nil .nil) .nil))) (.node none (.node (some (o42 P)) (.node (some (o74 P)) .nil (.node (some (o202 P)) .nil .nil)) (.node (some (o106 P)) (.node (some (o170 P)) .nil .nil) .nil)) (.node (some (o58 P)) (.node (some (o90 P)) (.node (some (o154 P)) .nil .nil) .nil) (.node none (.node (some (o186 P)) .nil .nil) .nil)))) (.node (some (o14 P)) (.node none (.node (some (o38 P)) (.node (some (o70 P)) (.node (some (o134 P)) .nil .nil) (.node (some (o198 P)) .nil .nil)) (.node (some (o102 P)) (.node (some (o166 P)) .nil .nil) .nil)) (.node (some (o54 P)) (.node (some (o86 P)) (.node (some (o150 P)) .nil .nil) .nil) (.node (some (o118 P)) (.node (some (o182 P)) .nil .nil) .nil))) (.node none (.node none (.node (some (o78 P)) (.node (some (o142 P)) .nil .nil) (.node (some (o206 P)) .nil .nil)) (.node (some (o110 P)) (.node (some (o174 P)) .nil .nil) .nil)) (.node (some (o62 P)) (.node (some (o94 P)) (.node (some (o158 P)) .nil .nil) .nil) (.node (some (o126 P)) (.node (some (o190 P)) .nil .nil) .nil)))))))
noncomputable def as0 : List Nat := [0, 1, 2, 3, 4, 5, 6, 7, 8, 9, 10, 11, 12, 13, 14, 15, 32, 33, 34, 35, 36, 37, 38, 39, 42, 47, 48, 49, 50, 51, 52, 53, 54, 55, 56, 57, 58, 59, 60, 61, 62, 63, 64, 65, 66, 67, 68, 69, 70, 71, 72, 73, 74, 75, 76, 77, 78, 79, 80, 81, 82, 83, 84, 85, 86, 87, 88, 89, 90, 91, 92, 93, 94, 95, 96, 97, 98, 99, 100, 101, 102, 103, 104, 105, 106, 107, 108, 109, 110, 111, 112, 113, 114, 115, 116, 117, 118, 119, 120, 126, 127, 128, 129, 130, 131, 132, 133, 134, 136, 140, 141, 142, 143, 144, 145, 146, 147, 148, 149, 150, 151, 152, 153, 154, 155, 156, 157, 158, 159, 160, 161, 162, 163, 164, 165, 166, 167, 168, 169, 170, 171, 172, 173, 174, 175, 176, 177, 178, 179, 180, 181, 182, 183, 184, 185, 186, 187, 188, 189, 190, 191, 192, 193, 194, 195, 196, 197, 198, 199, 200, 201, 202, 203, 204, 205, 206, 207, 208]
theorem kt_eq (P : Params) : KT.of (K0 P) = T0 P := by kernel_rfl
theorem as_eq (P : Params) : as0 = (K0 P).map (·.1) := by kernel_rfl
theorem top_ok (P : Params) : TopOk (T0 P) := TopOk.mk (by kernel_rfl) (by kernel_rfl) (by kernel_rfl) (by kernel_rfl) ⟨by kernel_rfl, by kernel_rfl⟩ ⟨by kernel_rfl, by kernel_rfl⟩ ⟨by kernel_rfl, by kernel_rfl⟩
end Sol
namespace Sol
open PySem PySem.W PySem.W.X PyProof.Rows
noncomputable def keep0 : List Nat := [0, 1, 3, 4, 6, 7, 9, 10, 12, 13, 15, 16, 17, 18, 20, 21, 22, 23]
noncomputable def qv : Program := view PySem.Challenge.pw_in0248_01 keep0
noncomputable def lv : List Str := [Str.ofString "_Accumulator", Str.ofString "_twin_re_1", Str.ofString "_special_chars_map"]
noncomputable def xt (s : Shared) : Bool := xlAt qv [] s && recOk (RowW.records (OpenRow.toRowW (OpenLaw.row PySem.Challenge.rw_in0248_01))) s
noncomputable abbrev PW : Program := PySem.Challenge.pw_in0248_01
noncomputable def xt' (s : Shared) : Bool := xlAt (view PW keep0) [] s && recOk [] s
noncomputable def topF (p : Program) (w : World) (N : Nat) (s₀ : Shared) : Option Shared :=
  match s₀.heap.isNs mainGlobals && s₀.gens.size == 0 with
  | true => (PySem.W.Fast.tw14082659384304107361 PySem.W.Fast.tw14364793385576792824 p w s₀.heap.objs.size (s₀.heap.nsMap mainGlobals "__annotations__") N s₀ (topStub p)).bind fun s₁ => match staticsOk (importedModules p.main.body) s₀.heap s₁.heap && namesBound p s₁.heap && gensDone s₁ && laidKept s₀.heap s₁.heap with
      | true => some s₁
      | false => none
  | false => none
noncomputable def endsF (p : Program) (w : World) (N : Nat) : Option Shared :=
  ((PySem.W.Fast.tw10274390034422433532 PySem.W.Fast.tw14364793385576792824 (opening p) w N (PySem.W.Fast.tw1435165496053646825 (opening p)).1 (PySem.W.Fast.tw1435165496053646825 (opening p)).2).bind (PySem.W.Fast.tw14289696077712309145 p)).bind (topF p w N)
theorem topF_eq : topF = topFrom treeTable := by
  funext p w N s₀
  unfold topF topFrom
  rw [← PySem.W.Fast.te14082659384304107361, ← PySem.W.Fast.te14364793385576792824]
  rfl
theorem endsF_eq : endsF = openEnds treeTable := by
  funext p w N
  unfold endsF openEnds fencedOpening
  rw [topF_eq, ← PySem.W.Fast.te10274390034422433532, ← PySem.W.Fast.te14364793385576792824, ← PySem.W.Fast.te1435165496053646825, ← PySem.W.Fast.te14289696077712309145]
noncomputable def Left1 (w : World) : Prop := (endsF PW w 4724).map (fun s => (PySem.W.Fast.tw4187177175401517315 (view PW keep0) lv (importedModules PW.main.body) xt' true s, obsZ as0 s)) = some (openGood (view PW keep0) lv, valZ K0 209 697 w)
theorem left_ff (w : World) : Left1 ((w.withFollow "special-get-raises" false).withFollow "comprehension-iter-twice" false) := by
  unfold Left1; kernel_rfl
theorem left_ft (w : World) : Left1 ((w.withFollow "special-get-raises" true).withFollow "comprehension-iter-twice" false) := by
  unfold Left1; kernel_rfl
theorem left_tf (w : World) : Left1 ((w.withFollow "special-get-raises" false).withFollow "comprehension-iter-twice" true) := by
  unfold Left1; kernel_rfl
theorem left_tt (w : World) : Left1 ((w.withFollow "special-get-raises" true).withFollow "comprehension-iter-twice" true) := by
  unfold Left1; kernel_rfl
theorem left1 : ∀ w, Left1 w := byRow2 "comprehension-iter-twice" (byRow2 "special-get-raises" (P := fun w => Left1 (w.withFollow "comprehension-iter-twice" false)) left_ff left_ft) (byRow2 "special-get-raises" (P := fun w => Left1 (w.withFollow "comprehension-iter-twice" true)) left_tf left_tt)
theorem left0 : LeftO PySem.Challenge.rw_in0248_01.row.prog qv lv xt (obsZ as0) (valZ K0 209 697) 4724 := fun w => by
  have h := left1 w
  unfold Left1 xt' PW at h
  rw [endsF_eq, ← PySem.W.Fast.te4187177175401517315] at h
  exact h
end Sol
namespace Sol
open PySem PySem.W PySem.W.X PyProof.Rows
theorem fa_of {mg : Str → Option Value} {nm : Str} {fa : Addr} (hm : mg nm = some (.ref fa)) (e : mg nm = some (.ref 208)) : fa = 208 := by
  rw [hm] at e
  injection e with e
  injection e
theorem zh_gen {h h' : Heap} {K : Frag} {t : KT} (e : KT.of K = t) (A : AllIn h K) (k : ∀ b o, h.get? b = some o → h'.get? b = some o) : KT.Holds h' 1 0 t := by
  subst e
  exact KT.Holds.keeps k (holds_of A)
set_option maxHeartbeats 0 in
theorem main_of (HR : AllRuns T0) : PySem.Challenge.rw_in0248_01.Holds := by
  refine law_of fun said => ?_
  refine holds_openX (q := qv) (loose := lv) (Xt := xt) (XP := XL qv []) (Yf := obsZ as0) (Ya := valZ K0 209 697) (N := 4724) left0 (fun s e => xl_of s (Bool.and_eq_true_iff.mp e).1) XL.keeps (by rfl) (by rfl) (by rfl) (fun s e => recFacts_of (Bool.and_eq_true_iff.mp e).2) (by rfl) said (by decide +kernel) ⟨rfl, rfl, rfl, rfl, rfl, by decide +kernel⟩ ?hw ?hc
  case hw => w_witness2
  case hc =>
    intro w s₀ s₁ mg mb G y fa o pm cd doc dV kV ho hd hcd hD hmg hg args vals as L hpre hlay hrd hwl hlo
    have y' : obsZ as0 s₀ = valZ K0 209 697 w := y
    obtain ⟨ZA, ZI, ZN, ZT⟩ := z_facts (K := K0) (as := as0) (n := 209) (t := 697) (w := w) (s := s₀) as_eq y'
    have KX : (K0 w.params).In s₁.heap := InK.keeps w s₀.heap s₁.heap ZI L.keeps
    have ZH : KT.Holds s₁.heap 1 0 (T0 w.params) := zh_gen (kt_eq w.params) ZA L.keeps
    clear y y' ZA ZI
    refine Ground.open G ?_
    intro T B D TE TW
    have e2 : fa = 208 := fa_of hmg (mg_of (K := K0 w.params) KX T.g (by kernel_rfl))
    subst e2
    clear hmg KX G T B D TE TW hd hcd hD
    wrow_args hpre hlay hrd hwl hlo
    obtain ⟨hat, hsz⟩ := script_at L
    rw [ZN] at hat
    subst hat
    refine enter_call ?_
    exact law_env HR (top_ok w.params) L ZN ZT ZH
end Sol
namespace Sol
open PySem PySem.W PySem.W.X
noncomputable def E1 (w : World) (b1 b2 b3 : Bool) : Sol.Env := env0 T0 w b1 b2 b3
theorem r_push0 (w : World) (b1 b2 b3 : Bool) : PushRun (E1 w b1 b2 b3) 0 := by
  intro z ts u v x; exact RunEq.of (by kernel_rfl)
theorem r_push1 (w : World) (b1 b2 b3 : Bool) : PushRun (E1 w b1 b2 b3) 1 := by
  intro z ts u v x; exact RunEq.of (by kernel_rfl)
theorem r_push2 (w : World) (b1 b2 b3 : Bool) : PushRun (E1 w b1 b2 b3) 2 := by
  intro z ts u v x; exact RunEq.of (by kernel_rfl)
theorem r_push3 (w : World) (b1 b2 b3 : Bool) : PushRun (E1 w b1 b2 b3) 3 := by
  intro z ts u v x; exact RunEq.of (by kernel_rfl)
theorem r_push4 (w : World) (b1 b2 b3 : Bool) : PushRun (E1 w b1 b2 b3) 4 := by
  intro z ts u v x; exact RunEq.of (by kernel_rfl)
theorem r_push5 (w : World) (b1 b2 b3 : Bool) : PushRun (E1 w b1 b2 b3) 5 := by
  intro z ts u v x; exact RunEq.of (by kernel_rfl)
theorem r_push6 (w : World) (b1 b2 b3 : Bool) : PushRun (E1 w b1 b2 b3) 6 := by
  intro z ts u v x; exact RunEq.of (by kernel_rfl)
theorem r_push7 (w : World) (b1 b2 b3 : Bool) : PushRun (E1 w b1 b2 b3) 7 := by
  intro z ts u v x; exact RunEq.of (by kernel_rfl)
theorem r_push8 (w : World) (b1 b2 b3 : Bool) : PushRun (E1 w b1 b2 b3) 8 := by
  intro z ts u v x; exact RunEq.of (by kernel_rfl)
theorem r_push9 (w : World) (b1 b2 b3 : Bool) : PushRun (E1 w b1 b2 b3) 9 := by
  intro z ts u v x; exact RunEq.of (by kernel_rfl)
theorem r_push10 (w : World) (b1 b2 b3 : Bool) : PushRun (E1 w b1 b2 b3) 10 := by
  intro z ts u v x; exact RunEq.of (by kernel_rfl)
theorem r_count0 (w : World) (b1 b2 b3 : Bool) : CountRun (E1 w b1 b2 b3) 0 := by
  intro z ts; exact RunEq.of (by kernel_rfl)
theorem r_count1 (w : World) (b1 b2 b3 : Bool) : CountRun (E1 w b1 b2 b3) 1 := by
  intro z ts; exact RunEq.of (by kernel_rfl)
theorem r_count2 (w : World) (b1 b2 b3 : Bool) : CountRun (E1 w b1 b2 b3) 2 := by
  intro z ts; exact RunEq.of (by kernel_rfl)
theorem r_count3 (w : World) (b1 b2 b3 : Bool) : CountRun (E1 w b1 b2 b3) 3 := by
  intro z ts; exact RunEq.of (by kernel_rfl)
theorem r_count4 (w : World) (b1 b2 b3 : Bool) : CountRun (E1 w b1 b2 b3) 4 := by
  intro z ts; exact RunEq.of (by kernel_rfl)
theorem r_count5 (w : World) (b1 b2 b3 : Bool) : CountRun (E1 w b1 b2 b3) 5 := by
  intro z ts; exact RunEq.of (by kernel_rfl)
theorem r_count6 (w : World) (b1 b2 b3 : Bool) : CountRun (E1 w b1 b2 b3) 6 := by
  intro z ts; exact RunEq.of (by kernel_rfl)
theorem r_count7 (w : World) (b1 b2 b3 : Bool) : CountRun (E1 w b1 b2 b3) 7 := by
  intro z ts; exact RunEq.of (by kernel_rfl)
theorem r_count8 (w : World) (b1 b2 b3 : Bool) : CountRun (E1 w b1 b2 b3) 8 := by
  intro z ts; exact RunEq.of (by kernel_rfl)
theorem r_count9 (w : World) (b1 b2 b3 : Bool) : CountRun (E1 w b1 b2 b3) 9 := by
  intro z ts; exact RunEq.of (by kernel_rfl)
theorem r_count10 (w : World) (b1 b2 b3 : Bool) : CountRun (E1 w b1 b2 b3) 10 := by
  intro z ts; exact RunEq.of (by kernel_rfl)
theorem r_pop0 (w : World) (b1 b2 b3 : Bool) : PopRun (E1 w b1 b2 b3) 0 := by
  intro z ts; cases b1 <;> exact RunEq.of (by kernel_rfl)
theorem r_pop1 (w : World) (b1 b2 b3 : Bool) : PopRun (E1 w b1 b2 b3) 1 := by
  intro z ts; cases b1 <;> exact RunEq.of (by kernel_rfl)
theorem r_pop2 (w : World) (b1 b2 b3 : Bool) : PopRun (E1 w b1 b2 b3) 2 := by
  intro z ts; cases b1 <;> exact RunEq.of (by kernel_rfl)
theorem r_pop3 (w : World) (b1 b2 b3 : Bool) : PopRun (E1 w b1 b2 b3) 3 := by
  intro z ts; cases b1 <;> exact RunEq.of (by kernel_rfl)
theorem r_pop4 (w : World) (b1 b2 b3 : Bool) : PopRun (E1 w b1 b2 b3) 4 := by
  intro z ts; cases b1 <;> exact RunEq.of (by kernel_rfl)
theorem r_pop5 (w : World) (b1 b2 b3 : Bool) : PopRun (E1 w b1 b2 b3) 5 := by
  intro z ts; cases b1 <;> exact RunEq.of (by kernel_rfl)
theorem r_pop6 (w : World) (b1 b2 b3 : Bool) : PopRun (E1 w b1 b2 b3) 6 := by
  intro z ts; cases b1 <;> exact RunEq.of (by kernel_rfl)
theorem r_pop7 (w : World) (b1 b2 b3 : Bool) : PopRun (E1 w b1 b2 b3) 7 := by
  intro z ts; cases b1 <;> exact RunEq.of (by kernel_rfl)
theorem r_pop8 (w : World) (b1 b2 b3 : Bool) : PopRun (E1 w b1 b2 b3) 8 := by
  intro z ts; cases b1 <;> exact RunEq.of (by kernel_rfl)
theorem r_pop9 (w : World) (b1 b2 b3 : Bool) : PopRun (E1 w b1 b2 b3) 9 := by
  intro z ts; cases b1 <;> exact RunEq.of (by kernel_rfl)
theorem r_lenN0 (w : World) (b1 b2 b3 : Bool) : LenRun (E1 w b1 b2 b3) 0 none := by
  intro z c; cases b1 <;> cases b2 <;> exact RunEq.of (by kernel_rfl)
theorem r_lenN1 (w : World) (b1 b2 b3 : Bool) : LenRun (E1 w b1 b2 b3) 1 none := by
  intro z c; cases b1 <;> cases b2 <;> exact RunEq.of (by kernel_rfl)
theorem r_lenN2 (w : World) (b1 b2 b3 : Bool) : LenRun (E1 w b1 b2 b3) 2 none := by
  intro z c; cases b1 <;> cases b2 <;> exact RunEq.of (by kernel_rfl)
theorem r_lenN3 (w : World) (b1 b2 b3 : Bool) : LenRun (E1 w b1 b2 b3) 3 none := by
  intro z c; cases b1 <;> cases b2 <;> exact RunEq.of (by kernel_rfl)
theorem r_lenN4 (w : World) (b1 b2 b3 : Bool) : LenRun (E1 w b1 b2 b3) 4 none := by
  intro z c; cases b1 <;> cases b2 <;> exact RunEq.of (by kernel_rfl)
theorem r_lenN5 (w : World) (b1 b2 b3 : Bool) : LenRun (E1 w b1 b2 b3) 5 none := by
  intro z c; cases b1 <;> cases b2 <;> exact RunEq.of (by kernel_rfl)
theorem r_lenN6 (w : World) (b1 b2 b3 : Bool) : LenRun (E1 w b1 b2 b3) 6 none := by
  intro z c; cases b1 <;> cases b2 <;> exact RunEq.of (by kernel_rfl)
theorem r_lenN7 (w : World) (b1 b2 b3 : Bool) : LenRun (E1 w b1 b2 b3) 7 none := by
  intro z c; cases b1 <;> cases b2 <;> exact RunEq.of (by kernel_rfl)
theorem r_lenN8 (w : World) (b1 b2 b3 : Bool) : LenRun (E1 w b1 b2 b3) 8 none := by
  intro z c; cases b1 <;> cases b2 <;> exact RunEq.of (by kernel_rfl)
theorem r_lenN9 (w : World) (b1 b2 b3 : Bool) : LenRun (E1 w b1 b2 b3) 9 none := by
  intro z c; cases b1 <;> cases b2 <;> exact RunEq.of (by kernel_rfl)
theorem r_lenN10 (w : World) (b1 b2 b3 : Bool) : LenRun (E1 w b1 b2 b3) 10 none := by
  intro z c; cases b1 <;> cases b2 <;> exact RunEq.of (by kernel_rfl)
theorem r_lenS0 (w : World) (b1 b2 b3 : Bool) : ∀ a, LenRun (E1 w b1 b2 b3) 0 (some a) := by
  intro a z c; cases b1 <;> cases b2 <;> exact RunEq.of (by kernel_rfl)
theorem r_lenS1 (w : World) (b1 b2 b3 : Bool) : ∀ a, LenRun (E1 w b1 b2 b3) 1 (some a) := by
  intro a z c; cases b1 <;> cases b2 <;> exact RunEq.of (by kernel_rfl)
theorem r_lenS2 (w : World) (b1 b2 b3 : Bool) : ∀ a, LenRun (E1 w b1 b2 b3) 2 (some a) := by
  intro a z c; cases b1 <;> cases b2 <;> exact RunEq.of (by kernel_rfl)
theorem r_lenS3 (w : World) (b1 b2 b3 : Bool) : ∀ a, LenRun (E1 w b1 b2 b3) 3 (some a) := by
  intro a z c; cases b1 <;> cases b2 <;> exact RunEq.of (by kernel_rfl)
theorem r_lenS4 (w : World) (b1 b2 b3 : Bool) : ∀ a, LenRun (E1 w b1 b2 b3) 4 (some a) := by
  intro a z c; cases b1 <;> cases b2 <;> exact RunEq.of (by kernel_rfl)
theorem r_lenS5 (w : World) (b1 b2 b3 : Bool) : ∀ a, LenRun (E1 w b1 b2 b3) 5 (some a) := by
  intro a z c; cases b1 <;> cases b2 <;> exact RunEq.of (by kernel_rfl)
theorem r_lenS6 (w : World) (b1 b2 b3 : Bool) : ∀ a, LenRun (E1 w b1 b2 b3) 6 (some a) := by
  intro a z c; cases b1 <;> cases b2 <;> exact RunEq.of (by kernel_rfl)
theorem r_lenS7 (w : World) (b1 b2 b3 : Bool) : ∀ a, LenRun (E1 w b1 b2 b3) 7 (some a) := by
  intro a z c; cases b1 <;> cases b2 <;> exact RunEq.of (by kernel_rfl)
theorem r_lenS8 (w : World) (b1 b2 b3 : Bool) : ∀ a, LenRun (E1 w b1 b2 b3) 8 (some a) := by
  intro a z c; cases b1 <;> cases b2 <;> exact RunEq.of (by kernel_rfl)
theorem r_lenS9 (w : World) (b1 b2 b3 : Bool) : ∀ a, LenRun (E1 w b1 b2 b3) 9 (some a) := by
  intro a z c; cases b1 <;> cases b2 <;> exact RunEq.of (by kernel_rfl)
theorem r_lenS10 (w : World) (b1 b2 b3 : Bool) : ∀ a, LenRun (E1 w b1 b2 b3) 10 (some a) := by
  intro a z c; cases b1 <;> cases b2 <;> exact RunEq.of (by kernel_rfl)
theorem r_strN0 (w : World) (b1 b2 b3 : Bool) : StrRun (E1 w b1 b2 b3) 0 none := by
  intro z c; cases b1 <;> cases b2 <;> exact RunEq.of (by kernel_rfl)
theorem r_strN1 (w : World) (b1 b2 b3 : Bool) : StrRun (E1 w b1 b2 b3) 1 none := by
  intro z c; cases b1 <;> cases b2 <;> exact RunEq.of (by kernel_rfl)
theorem r_strN2 (w : World) (b1 b2 b3 : Bool) : StrRun (E1 w b1 b2 b3) 2 none := by
  intro z c; cases b1 <;> cases b2 <;> exact RunEq.of (by kernel_rfl)
theorem r_strN3 (w : World) (b1 b2 b3 : Bool) : StrRun (E1 w b1 b2 b3) 3 none := by
  intro z c; cases b1 <;> cases b2 <;> exact RunEq.of (by kernel_rfl)
theorem r_strN4 (w : World) (b1 b2 b3 : Bool) : StrRun (E1 w b1 b2 b3) 4 none := by
  intro z c; cases b1 <;> cases b2 <;> exact RunEq.of (by kernel_rfl)
theorem r_strN5 (w : World) (b1 b2 b3 : Bool) : StrRun (E1 w b1 b2 b3) 5 none := by
  intro z c; cases b1 <;> cases b2 <;> exact RunEq.of (by kernel_rfl)
theorem r_strN6 (w : World) (b1 b2 b3 : Bool) : StrRun (E1 w b1 b2 b3) 6 none := by
  intro z c; cases b1 <;> cases b2 <;> exact RunEq.of (by kernel_rfl)
theorem r_strN7 (w : World) (b1 b2 b3 : Bool) : StrRun (E1 w b1 b2 b3) 7 none := by
  intro z c; cases b1 <;> cases b2 <;> exact RunEq.of (by kernel_rfl)
theorem r_strN8 (w : World) (b1 b2 b3 : Bool) : StrRun (E1 w b1 b2 b3) 8 none := by
  intro z c; cases b1 <;> cases b2 <;> exact RunEq.of (by kernel_rfl)
theorem r_strN9 (w : World) (b1 b2 b3 : Bool) : StrRun (E1 w b1 b2 b3) 9 none := by
  intro z c; cases b1 <;> cases b2 <;> exact RunEq.of (by kernel_rfl)
theorem r_strN10 (w : World) (b1 b2 b3 : Bool) : StrRun (E1 w b1 b2 b3) 10 none := by
  intro z c; cases b1 <;> cases b2 <;> exact RunEq.of (by kernel_rfl)
theorem r_strS0 (w : World) (b1 b2 b3 : Bool) : ∀ a, StrRun (E1 w b1 b2 b3) 0 (some a) := by
  intro a z c; cases b1 <;> cases b2 <;> exact RunEq.of (by kernel_rfl)
theorem r_strS1 (w : World) (b1 b2 b3 : Bool) : ∀ a, StrRun (E1 w b1 b2 b3) 1 (some a) := by
  intro a z c; cases b1 <;> cases b2 <;> exact RunEq.of (by kernel_rfl)
theorem r_strS2 (w : World) (b1 b2 b3 : Bool) : ∀ a, StrRun (E1 w b1 b2 b3) 2 (some a) := by
  intro a z c; cases b1 <;> cases b2 <;> exact RunEq.of (by kernel_rfl)
theorem r_strS3 (w : World) (b1 b2 b3 : Bool) : ∀ a, StrRun (E1 w b1 b2 b3) 3 (some a) := by
  intro a z c; cases b1 <;> cases b2 <;> exact RunEq.of (by kernel_rfl)
theorem r_strS4 (w : World) (b1 b2 b3 : Bool) : ∀ a, StrRun (E1 w b1 b2 b3) 4 (some a) := by
  intro a z c; cases b1 <;> cases b2 <;> exact RunEq.of (by kernel_rfl)
theorem r_strS5 (w : World) (b1 b2 b3 : Bool) : ∀ a, StrRun (E1 w b1 b2 b3) 5 (some a) := by
  intro a z c; cases b1 <;> cases b2 <;> exact RunEq.of (by kernel_rfl)
theorem r_strS6 (w : World) (b1 b2 b3 : Bool) : ∀ a, StrRun (E1 w b1 b2 b3) 6 (some a) := by
  intro a z c; cases b1 <;> cases b2 <;> exact RunEq.of (by kernel_rfl)
theorem r_strS7 (w : World) (b1 b2 b3 : Bool) : ∀ a, StrRun (E1 w b1 b2 b3) 7 (some a) := by
  intro a z c; cases b1 <;> cases b2 <;> exact RunEq.of (by kernel_rfl)
theorem r_strS8 (w : World) (b1 b2 b3 : Bool) : ∀ a, StrRun (E1 w b1 b2 b3) 8 (some a) := by
  intro a z c; cases b1 <;> cases b2 <;> exact RunEq.of (by kernel_rfl)
theorem r_strS9 (w : World) (b1 b2 b3 : Bool) : ∀ a, StrRun (E1 w b1 b2 b3) 9 (some a) := by
  intro a z c; cases b1 <;> cases b2 <;> exact RunEq.of (by kernel_rfl)
theorem r_strS10 (w : World) (b1 b2 b3 : Bool) : ∀ a, StrRun (E1 w b1 b2 b3) 10 (some a) := by
  intro a z c; cases b1 <;> cases b2 <;> exact RunEq.of (by kernel_rfl)
theorem r_new (w : World) (b1 b2 b3 : Bool) : NewRun (E1 w b1 b2 b3) := by
  cases b1 <;> exact RunEq.of (by kernel_rfl)
theorem r_hq_d1 (w : World) (b1 b2 b3 : Bool) : SdEnd (E1 w b1 b2 b3) := by
  intro z b; cases b1 <;> cases b <;> exact RunQ.of (by kernel_rfl)
theorem r_hq_d2 (w : World) (b1 b2 b3 : Bool) : SdBrk (E1 w b1 b2 b3) := by
  intro z b q par; cases b1 <;> cases b <;> exact RunQ.of (by kernel_rfl)
theorem r_hq_d3 (w : World) (b1 b2 b3 : Bool) : SdMov (E1 w b1 b2 b3) := by
  intro z b q par i; cases b1 <;> cases b <;> exact RunT.of (by kernel_rfl)
theorem r_hq_u1 (w : World) (b1 b2 b3 : Bool) : SuEnd (E1 w b1 b2 b3) := by
  intro z b; cases b1 <;> cases b <;> exact RunQ.of (by kernel_rfl)
theorem r_hq_u2 (w : World) (b1 b2 b3 : Bool) : SuOnly (E1 w b1 b2 b3) := by
  intro z b a i; cases b1 <;> cases b <;> exact RunT.of (by kernel_rfl)
theorem r_hq_u3 (w : World) (b1 b2 b3 : Bool) : SuLeft (E1 w b1 b2 b3) := by
  intro z b a a' i; cases b1 <;> cases b <;> exact RunT.of (by kernel_rfl)
theorem r_hq_u4 (w : World) (b1 b2 b3 : Bool) : SuRight (E1 w b1 b2 b3) := by
  intro z b a a' i; cases b1 <;> cases b <;> exact RunT.of (by kernel_rfl)
theorem r_hq_fn (w : World) (b1 b2 b3 : Bool) : SuFn (E1 w b1 b2 b3) := by
  intro h lep L L1 L3 pos p1 p2 pt w1 i1 i2 b b2; cases b1 <;> exact RunQ.of (by kernel_rfl)
theorem r_lenB0 (w : World) (b1 b2 b3 : Bool) : LenB1 (E1 w b1 b2 b3) 0 := by
  intro p d ep ts g gf; cases b1 <;> exact RunQ.of (by kernel_rfl)
theorem r_lenB1 (w : World) (b1 b2 b3 : Bool) : LenB1 (E1 w b1 b2 b3) 1 := by
  intro p d ep ts g gf; cases b1 <;> exact RunQ.of (by kernel_rfl)
theorem r_lenB2 (w : World) (b1 b2 b3 : Bool) : LenB1 (E1 w b1 b2 b3) 2 := by
  intro p d ep ts g gf; cases b1 <;> exact RunQ.of (by kernel_rfl)
theorem r_lenB3 (w : World) (b1 b2 b3 : Bool) : LenB1 (E1 w b1 b2 b3) 3 := by
  intro p d ep ts g gf; cases b1 <;> exact RunQ.of (by kernel_rfl)
theorem r_lenB4 (w : World) (b1 b2 b3 : Bool) : LenB1 (E1 w b1 b2 b3) 4 := by
  intro p d ep ts g gf; cases b1 <;> exact RunQ.of (by kernel_rfl)
theorem r_lenB5 (w : World) (b1 b2 b3 : Bool) : LenB1 (E1 w b1 b2 b3) 5 := by
  intro p d ep ts g gf; cases b1 <;> exact RunQ.of (by kernel_rfl)
theorem r_lenB6 (w : World) (b1 b2 b3 : Bool) : LenB1 (E1 w b1 b2 b3) 6 := by
  intro p d ep ts g gf; cases b1 <;> exact RunQ.of (by kernel_rfl)
theorem r_lenB7 (w : World) (b1 b2 b3 : Bool) : LenB1 (E1 w b1 b2 b3) 7 := by
  intro p d ep ts g gf; cases b1 <;> exact RunQ.of (by kernel_rfl)
theorem r_lenB8 (w : World) (b1 b2 b3 : Bool) : LenB1 (E1 w b1 b2 b3) 8 := by
  intro p d ep ts g gf; cases b1 <;> exact RunQ.of (by kernel_rfl)
theorem r_lenB9 (w : World) (b1 b2 b3 : Bool) : LenB1 (E1 w b1 b2 b3) 9 := by
  intro p d ep ts g gf; cases b1 <;> exact RunQ.of (by kernel_rfl)
theorem r_lenB10 (w : World) (b1 b2 b3 : Bool) : LenB1 (E1 w b1 b2 b3) 10 := by
  intro p d ep ts g gf; cases b1 <;> exact RunQ.of (by kernel_rfl)
theorem r_rcTurn (w : World) (b1 b2 b3 : Bool) : RcTurn (E1 w b1 b2 b3) := by
  intro z b p n g gf; cases b1 <;> cases b <;> exact RunT.of (by kernel_rfl)
theorem r_rcEnd (w : World) (b1 b2 b3 : Bool) : RcEnd (E1 w b1 b2 b3) := by
  intro z b g; cases b1 <;> cases b <;> exact RunQ.of (by kernel_rfl)
theorem r_rcStart (w : World) (b1 b2 b3 : Bool) : RcStart (E1 w b1 b2 b3) := by
  intro z g; cases b1 <;> cases b2 <;> exact RunT.of (by kernel_rfl)
theorem r_rwEnd (w : World) (b1 b2 b3 : Bool) : RwEnd (E1 w b1 b2 b3) := by
  intro z; cases b1 <;> exact RunQ.of (by kernel_rfl)
theorem r_rwA0 (w : World) (b1 b2 b3 : Bool) : RwA1 (E1 w b1 b2 b3) 0 := by
  intro z m p M L' i; cases b1 <;> exact RunT.of (by kernel_rfl)
theorem r_rwA1 (w : World) (b1 b2 b3 : Bool) : RwA1 (E1 w b1 b2 b3) 1 := by
  intro z m p M L' i; cases b1 <;> exact RunT.of (by kernel_rfl)
theorem r_rwA2 (w : World) (b1 b2 b3 : Bool) : RwA1 (E1 w b1 b2 b3) 2 := by
  intro z m p M L' i; cases b1 <;> exact RunT.of (by kernel_rfl)
theorem r_rwA3 (w : World) (b1 b2 b3 : Bool) : RwA1 (E1 w b1 b2 b3) 3 := by
  intro z m p M L' i; cases b1 <;> exact RunT.of (by kernel_rfl)
theorem r_rwA4 (w : World) (b1 b2 b3 : Bool) : RwA1 (E1 w b1 b2 b3) 4 := by
  intro z m p M L' i; cases b1 <;> exact RunT.of (by kernel_rfl)
theorem r_rwA5 (w : World) (b1 b2 b3 : Bool) : RwA1 (E1 w b1 b2 b3) 5 := by
  intro z m p M L' i; cases b1 <;> exact RunT.of (by kernel_rfl)
theorem r_rwA6 (w : World) (b1 b2 b3 : Bool) : RwA1 (E1 w b1 b2 b3) 6 := by
  intro z m p M L' i; cases b1 <;> exact RunT.of (by kernel_rfl)
theorem r_rwA7 (w : World) (b1 b2 b3 : Bool) : RwA1 (E1 w b1 b2 b3) 7 := by
  intro z m p M L' i; cases b1 <;> exact RunT.of (by kernel_rfl)
theorem r_rwA8 (w : World) (b1 b2 b3 : Bool) : RwA1 (E1 w b1 b2 b3) 8 := by
  intro z m p M L' i; cases b1 <;> exact RunT.of (by kernel_rfl)
theorem r_rwA9 (w : World) (b1 b2 b3 : Bool) : RwA1 (E1 w b1 b2 b3) 9 := by
  intro z m p M L' i; cases b1 <;> exact RunT.of (by kernel_rfl)
theorem r_rwA10 (w : World) (b1 b2 b3 : Bool) : RwA1 (E1 w b1 b2 b3) 10 := by
  intro z m p M L' i; cases b1 <;> exact RunT.of (by kernel_rfl)
theorem r_rwB (w : World) (b1 b2 b3 : Bool) : RwB (E1 w b1 b2 b3) := by
  intro z p i; cases b1 <;> exact RunT.of (by kernel_rfl)
theorem r_hp0 (w : World) (b1 b2 b3 : Bool) : HpRunN (E1 w b1 b2 b3) 0 := by
  intro h lep Ls; cases b1 <;> exact RunQ.of (by kernel_rfl)
theorem r_hp1 (w : World) (b1 b2 b3 : Bool) : HpRunN (E1 w b1 b2 b3) 1 := by
  intro h lep Ls; cases b1 <;> exact RunQ.of (by kernel_rfl)
theorem r_hp2 (w : World) (b1 b2 b3 : Bool) : HpRunN (E1 w b1 b2 b3) 2 := by
  intro h lep Ls; cases b1 <;> exact RunQ.of (by kernel_rfl)
theorem r_hp3 (w : World) (b1 b2 b3 : Bool) : HpRunN (E1 w b1 b2 b3) 3 := by
  intro h lep Ls; cases b1 <;> exact RunQ.of (by kernel_rfl)
theorem r_hp4 (w : World) (b1 b2 b3 : Bool) : HpRunN (E1 w b1 b2 b3) 4 := by
  intro h lep Ls; cases b1 <;> exact RunQ.of (by kernel_rfl)
theorem r_hp5 (w : World) (b1 b2 b3 : Bool) : HpRunN (E1 w b1 b2 b3) 5 := by
  intro h lep Ls; cases b1 <;> exact RunQ.of (by kernel_rfl)
theorem r_hp6 (w : World) (b1 b2 b3 : Bool) : HpRunN (E1 w b1 b2 b3) 6 := by
  intro h lep Ls; cases b1 <;> exact RunQ.of (by kernel_rfl)
theorem r_hp7 (w : World) (b1 b2 b3 : Bool) : HpRunN (E1 w b1 b2 b3) 7 := by
  intro h lep Ls; cases b1 <;> exact RunQ.of (by kernel_rfl)
theorem r_hp8 (w : World) (b1 b2 b3 : Bool) : HpRunN (E1 w b1 b2 b3) 8 := by
  intro h lep Ls; cases b1 <;> exact RunQ.of (by kernel_rfl)
theorem r_hp9 (w : World) (b1 b2 b3 : Bool) : HpRunN (E1 w b1 b2 b3) 9 := by
  intro h lep Ls; cases b1 <;> exact RunQ.of (by kernel_rfl)
theorem r_hp10 (w : World) (b1 b2 b3 : Bool) : HpRunN (E1 w b1 b2 b3) 10 := by
  intro h lep Ls; cases b1 <;> exact RunQ.of (by kernel_rfl)
theorem r_rowR (w : World) (b1 b2 b3 : Bool) : RowRun (E1 w b1 b2 b3) := by
  intro l lep vs ns n g gf size t hf S j; cases b1 <;> exact RunQ.of (by kernel_rfl)
theorem r_mvTurn (w : World) (b1 b2 b3 : Bool) : MvTurn (E1 w b1 b2 b3) := by
  intro z b zp zf ts tsf a u v x g h; cases b1 <;> cases b <;> exact RunN.of (by kernel_rfl)
theorem r_mvEnd (w : World) (b1 b2 b3 : Bool) : MvEnd (E1 w b1 b2 b3) := by
  intro z b g; cases b1 <;> cases b <;> exact RunQ.of (by kernel_rfl)
theorem r_mcTurn (w : World) (b1 b2 b3 : Bool) : McTurn (E1 w b1 b2 b3) := by
  intro z b zp ts r g; cases b1 <;> cases b <;> cases r <;> exact RunN.of (by kernel_rfl)
theorem r_mcEnd (w : World) (b1 b2 b3 : Bool) : McEnd (E1 w b1 b2 b3) := by
  intro z b g; cases b1 <;> cases b <;> exact RunQ.of (by kernel_rfl)
theorem r_mcStart (w : World) (b1 b2 b3 : Bool) : McStart (E1 w b1 b2 b3) := by
  intro z g; cases b1 <;> cases b2 <;> exact RunT.of (by kernel_rfl)
theorem r_moveR (w : World) (b1 b2 b3 : Bool) : MoveRun (E1 w b1 b2 b3) := by
  intro l lep vs n g0 g1 g2 g3 av; cases b1 <;> exact RunX.of (by kernel_rfl)
theorem r_lwT (w : World) (b1 b2 b3 : Bool) : LwTurn (E1 w b1 b2 b3) := by
  intro z u l lep vs rep rv g gf gf2 av S; cases b1 <;> exact RunNX.of (by kernel_rfl)
theorem r_lwE (w : World) (b1 b2 b3 : Bool) : LwEnd (E1 w b1 b2 b3) := by
  intro z u l lep vs rep rv g; cases b1 <;> exact RunQ.of (by kernel_rfl)
theorem r_mkA (w : World) (b1 b2 b3 : Bool) : MkA (E1 w b1 b2 b3) := by
  intro z b c1 c2 pt x r; cases b1 <;> cases b <;> exact RunT.of (by kernel_rfl)
theorem r_mkB (w : World) (b1 b2 b3 : Bool) : MkB (E1 w b1 b2 b3) := by
  intro z b pt x; cases b1 <;> cases b <;> exact RunT.of (by kernel_rfl)
theorem r_mkE1 (w : World) (b1 b2 b3 : Bool) : MkE1 (E1 w b1 b2 b3) := by
  intro z b p pt; cases b1 <;> cases b <;> exact RunQ.of (by kernel_rfl)
theorem r_mkE2 (w : World) (b1 b2 b3 : Bool) : MkE2 (E1 w b1 b2 b3) := by
  intro z b; cases b1 <;> cases b <;> exact RunQ.of (by kernel_rfl)
theorem r_mkS (w : World) (b1 b2 b3 : Bool) : MkS (E1 w b1 b2 b3) := by
  intro z; cases b1 <;> cases b2 <;> exact RunT.of (by kernel_rfl)
theorem r_m1_1 (w : World) (b1 b2 b3 : Bool) : MarksR1 (E1 w b1 b2 b3) 1 := by
  intro tt nt nm n sx ns; cases b1 <;> exact RunX.of (by kernel_rfl)
theorem r_m1_2 (w : World) (b1 b2 b3 : Bool) : MarksR1 (E1 w b1 b2 b3) 2 := by
  intro tt nt nm n sx ns; cases b1 <;> exact RunX.of (by kernel_rfl)
theorem r_m1_3 (w : World) (b1 b2 b3 : Bool) : MarksR1 (E1 w b1 b2 b3) 3 := by
  intro tt nt nm n sx ns; cases b1 <;> exact RunX.of (by kernel_rfl)
theorem r_m1_4 (w : World) (b1 b2 b3 : Bool) : MarksR1 (E1 w b1 b2 b3) 4 := by
  intro tt nt nm n sx ns; cases b1 <;> exact RunX.of (by kernel_rfl)
theorem r_m2_1 (w : World) (b1 b2 b3 : Bool) : MarksR2 (E1 w b1 b2 b3) 1 := by
  intro tt nt nm n sx ns; cases b1 <;> exact RunX.of (by kernel_rfl)
theorem r_m2_2 (w : World) (b1 b2 b3 : Bool) : MarksR2 (E1 w b1 b2 b3) 2 := by
  intro tt nt nm n sx ns; cases b1 <;> exact RunX.of (by kernel_rfl)
theorem r_m2_3 (w : World) (b1 b2 b3 : Bool) : MarksR2 (E1 w b1 b2 b3) 3 := by
  intro tt nt nm n sx ns; cases b1 <;> exact RunX.of (by kernel_rfl)
theorem r_m2_4 (w : World) (b1 b2 b3 : Bool) : MarksR2 (E1 w b1 b2 b3) 4 := by
  intro tt nt nm n sx ns; cases b1 <;> exact RunX.of (by kernel_rfl)
theorem r_m3_1 (w : World) (b1 b2 b3 : Bool) : MarksR3 (E1 w b1 b2 b3) 1 := by
  intro tt nt nm n sx ns; cases b1 <;> exact RunX.of (by kernel_rfl)
theorem r_m3_2 (w : World) (b1 b2 b3 : Bool) : MarksR3 (E1 w b1 b2 b3) 2 := by
  intro tt nt nm n sx ns; cases b1 <;> exact RunX.of (by kernel_rfl)
theorem r_m3_3 (w : World) (b1 b2 b3 : Bool) : MarksR3 (E1 w b1 b2 b3) 3 := by
  intro tt nt nm n sx ns; cases b1 <;> exact RunX.of (by kernel_rfl)
theorem r_m3_4 (w : World) (b1 b2 b3 : Bool) : MarksR3 (E1 w b1 b2 b3) 4 := by
  intro tt nt nm n sx ns; cases b1 <;> exact RunX.of (by kernel_rfl)
theorem r_fk1_1 (w : World) (b1 b2 b3 : Bool) : Fk1 (E1 w b1 b2 b3) 1 := by
  intro z u l v b it rep da dep n rem t rv us w1 cur S g hn; cases b1 <;> cases b <;> exact RunNX.of (by kernel_rfl)
theorem r_fk1_2 (w : World) (b1 b2 b3 : Bool) : Fk1 (E1 w b1 b2 b3) 2 := by
  intro z u l v b it rep da dep n rem t rv us w1 cur S g hn; cases b1 <;> cases b <;> exact RunNX.of (by kernel_rfl)
theorem r_fk1_3 (w : World) (b1 b2 b3 : Bool) : Fk1 (E1 w b1 b2 b3) 3 := by
  intro z u l v b it rep da dep n rem t rv us w1 cur S g hn; cases b1 <;> cases b <;> exact RunNX.of (by kernel_rfl)
theorem r_fk1_4 (w : World) (b1 b2 b3 : Bool) : Fk1 (E1 w b1 b2 b3) 4 := by
  intro z u l v b it rep da dep n rem t rv us w1 cur S g hn; cases b1 <;> cases b <;> exact RunNX.of (by kernel_rfl)
theorem r_fk2_1 (w : World) (b1 b2 b3 : Bool) : Fk2 (E1 w b1 b2 b3) 1 := by
  intro z u l v b it rep da dep n rem t rv us w1 cur S g hn; cases b1 <;> cases b <;> exact RunNX.of (by kernel_rfl)
theorem r_fk2_2 (w : World) (b1 b2 b3 : Bool) : Fk2 (E1 w b1 b2 b3) 2 := by
  intro z u l v b it rep da dep n rem t rv us w1 cur S g hn; cases b1 <;> cases b <;> exact RunNX.of (by kernel_rfl)
theorem r_fk2_3 (w : World) (b1 b2 b3 : Bool) : Fk2 (E1 w b1 b2 b3) 3 := by
  intro z u l v b it rep da dep n rem t rv us w1 cur S g hn; cases b1 <;> cases b <;> exact RunNX.of (by kernel_rfl)
theorem r_fk2_4 (w : World) (b1 b2 b3 : Bool) : Fk2 (E1 w b1 b2 b3) 4 := by
  intro z u l v b it rep da dep n rem t rv us w1 cur S g hn; cases b1 <;> cases b <;> exact RunNX.of (by kernel_rfl)
theorem r_fk3_1 (w : World) (b1 b2 b3 : Bool) : Fk3 (E1 w b1 b2 b3) 1 := by
  intro z u l v b it rep da dep n rem rv us w1 cur g hn; cases b1 <;> cases b <;> exact RunNX.of (by kernel_rfl)
theorem r_fk3_2 (w : World) (b1 b2 b3 : Bool) : Fk3 (E1 w b1 b2 b3) 2 := by
  intro z u l v b it rep da dep n rem rv us w1 cur g hn; cases b1 <;> cases b <;> exact RunNX.of (by kernel_rfl)
theorem r_fk3_3 (w : World) (b1 b2 b3 : Bool) : Fk3 (E1 w b1 b2 b3) 3 := by
  intro z u l v b it rep da dep n rem rv us w1 cur g hn; cases b1 <;> cases b <;> exact RunNX.of (by kernel_rfl)
theorem r_fk3_4 (w : World) (b1 b2 b3 : Bool) : Fk3 (E1 w b1 b2 b3) 4 := by
  intro z u l v b it rep da dep n rem rv us w1 cur g hn; cases b1 <;> cases b <;> exact RunNX.of (by kernel_rfl)
theorem r_fkE (w : World) (b1 b2 b3 : Bool) : FkE (E1 w b1 b2 b3) := by
  intro z u l v b it rep da rv cur g; cases b1 <;> cases b <;> exact RunQ.of (by kernel_rfl)
theorem r_fi6 (w : World) (b1 b2 b3 : Bool) : FiTurn (E1 w b1 b2 b3) 6 := by
  intro z l zp ts si nm nt i x g; cases b1 <;> exact RunNX.of (by kernel_rfl)
theorem r_fi7 (w : World) (b1 b2 b3 : Bool) : FiTurn (E1 w b1 b2 b3) 7 := by
  intro z l zp ts si nm nt i x g; cases b1 <;> exact RunNX.of (by kernel_rfl)
theorem r_fiE (w : World) (b1 b2 b3 : Bool) : FiEnd (E1 w b1 b2 b3) := by
  intro z l si nm nt i g; cases b1 <;> exact RunQ.of (by kernel_rfl)
theorem r_fo3 (w : World) (b1 b2 b3 : Bool) : FoTurn (E1 w b1 b2 b3) 3 6 := by
  intro z l it xs xep vs i a t m c ct lv lep nm g gf1 gf2; cases b1 <;> exact RunTX.of (by kernel_rfl)
theorem r_fo7 (w : World) (b1 b2 b3 : Bool) : FoTurn (E1 w b1 b2 b3) 7 7 := by
  intro z l it xs xep vs i a t m c ct lv lep nm g gf1 gf2; cases b1 <;> exact RunTX.of (by kernel_rfl)
theorem r_foP (w : World) (b1 b2 b3 : Bool) : FoPass (E1 w b1 b2 b3) := by
  intro z l it xs xep vs i a t m c ct lv lep g; cases b1 <;> exact RunTX.of (by kernel_rfl)
theorem r_foE (w : World) (b1 b2 b3 : Bool) : FoEnd (E1 w b1 b2 b3) := by
  intro z l it xs xep vs i lv lep c ct g; cases b1 <;> exact RunQ.of (by kernel_rfl)
theorem r_c1_1 (w : World) (b1 b2 b3 : Bool) : C1Run (E1 w b1 b2 b3) 1 1 := by
  intro z ct; cases b1 <;> cases b2 <;> exact RunQ.of (by kernel_rfl)
theorem r_c1_2 (w : World) (b1 b2 b3 : Bool) : C1Run (E1 w b1 b2 b3) 2 1 := by
  intro z ct; cases b1 <;> cases b2 <;> exact RunQ.of (by kernel_rfl)
theorem r_c1_3 (w : World) (b1 b2 b3 : Bool) : C1Run (E1 w b1 b2 b3) 3 2 := by
  intro z ct; cases b1 <;> cases b2 <;> exact RunQ.of (by kernel_rfl)
theorem r_c1_4 (w : World) (b1 b2 b3 : Bool) : C1Run (E1 w b1 b2 b3) 4 2 := by
  intro z ct; cases b1 <;> cases b2 <;> exact RunQ.of (by kernel_rfl)
theorem r_c1_5 (w : World) (b1 b2 b3 : Bool) : C1Run (E1 w b1 b2 b3) 5 2 := by
  intro z ct; cases b1 <;> cases b2 <;> exact RunQ.of (by kernel_rfl)
theorem r_c1_6 (w : World) (b1 b2 b3 : Bool) : C1Run (E1 w b1 b2 b3) 6 3 := by
  intro z ct; cases b1 <;> cases b2 <;> exact RunQ.of (by kernel_rfl)
theorem r_c1_7 (w : World) (b1 b2 b3 : Bool) : C1Run (E1 w b1 b2 b3) 7 3 := by
  intro z ct; cases b1 <;> cases b2 <;> exact RunQ.of (by kernel_rfl)
theorem r_c1_8 (w : World) (b1 b2 b3 : Bool) : C1Run (E1 w b1 b2 b3) 8 3 := by
  intro z ct; cases b1 <;> cases b2 <;> exact RunQ.of (by kernel_rfl)
theorem r_c1_9 (w : World) (b1 b2 b3 : Bool) : C1Run (E1 w b1 b2 b3) 9 3 := by
  intro z ct; cases b1 <;> cases b2 <;> exact RunQ.of (by kernel_rfl)
theorem r_c1_10 (w : World) (b1 b2 b3 : Bool) : C1Run (E1 w b1 b2 b3) 10 4 := by
  intro z ct; cases b1 <;> cases b2 <;> exact RunQ.of (by kernel_rfl)
theorem r_c2_1 (w : World) (b1 b2 b3 : Bool) : C2Run (E1 w b1 b2 b3) 1 := by
  intro z ct; cases b1 <;> cases b2 <;> exact RunQ.of (by kernel_rfl)
theorem r_c2_2 (w : World) (b1 b2 b3 : Bool) : C2Run (E1 w b1 b2 b3) 2 := by
  intro z ct; cases b1 <;> cases b2 <;> exact RunQ.of (by kernel_rfl)
theorem r_c2_3 (w : World) (b1 b2 b3 : Bool) : C2Run (E1 w b1 b2 b3) 3 := by
  intro z ct; cases b1 <;> cases b2 <;> exact RunQ.of (by kernel_rfl)
theorem r_c2_4 (w : World) (b1 b2 b3 : Bool) : C2Run (E1 w b1 b2 b3) 4 := by
  intro z ct; cases b1 <;> cases b2 <;> exact RunQ.of (by kernel_rfl)
theorem r_tr_1 (w : World) (b1 b2 b3 : Bool) : TrRun (E1 w b1 b2 b3) 1 := by
  intro t; cases b1 <;> cases b3 <;> exact RunQ.of (by kernel_rfl)
theorem r_tr_2 (w : World) (b1 b2 b3 : Bool) : TrRun (E1 w b1 b2 b3) 2 := by
  intro t; cases b1 <;> cases b3 <;> exact RunQ.of (by kernel_rfl)
theorem r_tr_3 (w : World) (b1 b2 b3 : Bool) : TrRun (E1 w b1 b2 b3) 3 := by
  intro t; cases b1 <;> cases b3 <;> exact RunQ.of (by kernel_rfl)
theorem r_tr_4 (w : World) (b1 b2 b3 : Bool) : TrRun (E1 w b1 b2 b3) 4 := by
  intro t; cases b1 <;> cases b3 <;> exact RunQ.of (by kernel_rfl)
theorem r_strB (w : World) (b1 b2 b3 : Bool) : StrBRun (E1 w b1 b2 b3) := by
  intro p d ep ts S g gf; cases b1 <;> exact RunQ.of (by kernel_rfl)
theorem r_scT (w : World) (b1 b2 b3 : Bool) : ScTurn (E1 w b1 b2 b3) := by
  intro z b p S g gf; cases b1 <;> cases b <;> exact RunT.of (by kernel_rfl)
theorem r_scE (w : World) (b1 b2 b3 : Bool) : ScEnd (E1 w b1 b2 b3) := by
  intro z b g; cases b1 <;> cases b <;> exact RunQ.of (by kernel_rfl)
theorem r_scS (w : World) (b1 b2 b3 : Bool) : ScStart (E1 w b1 b2 b3) := by
  intro z g; cases b1 <;> cases b2 <;> exact RunT.of (by kernel_rfl)
theorem r_law_1 (w : World) (b1 b2 b3 : Bool) : LawRun (E1 w b1 b2 b3) true 1 := by
  intro q; cases b1 <;> cases b2 <;> exact RunX.of (by kernel_rfl)
theorem r_law_2 (w : World) (b1 b2 b3 : Bool) : LawRun (E1 w b1 b2 b3) true 2 := by
  intro q; cases b1 <;> cases b2 <;> exact RunX.of (by kernel_rfl)
theorem r_law_3 (w : World) (b1 b2 b3 : Bool) : LawRun (E1 w b1 b2 b3) true 3 := by
  intro q; cases b1 <;> cases b2 <;> exact RunX.of (by kernel_rfl)
theorem r_law_4 (w : World) (b1 b2 b3 : Bool) : LawRun (E1 w b1 b2 b3) true 4 := by
  intro q; cases b1 <;> cases b2 <;> exact RunX.of (by kernel_rfl)
theorem r_lawE (w : World) (b1 b2 b3 : Bool) : LawRun (E1 w b1 b2 b3) false 3 := by
  intro q; cases b1 <;> cases b2 <;> exact RunX.of (by kernel_rfl)
theorem r_all : AllRuns T0 :=
  mk_runs r_push0 r_push1 r_push2 r_push3 r_push4 r_push5 r_push6 r_push7 r_push8 r_push9 r_push10 r_count0 r_count1 r_count2 r_count3 r_count4 r_count5 r_count6 r_count7 r_count8 r_count9 r_count10 r_pop0 r_pop1 r_pop2 r_pop3 r_pop4 r_pop5 r_pop6 r_pop7 r_pop8 r_pop9 r_lenN0 r_lenN1 r_lenN2 r_lenN3 r_lenN4 r_lenN5 r_lenN6 r_lenN7 r_lenN8 r_lenN9 r_lenN10 r_lenS0 r_lenS1 r_lenS2 r_lenS3 r_lenS4 r_lenS5 r_lenS6 r_lenS7 r_lenS8 r_lenS9 r_lenS10 r_strN0 r_strN1 r_strN2 r_strN3 r_strN4 r_strN5 r_strN6 r_strN7 r_strN8 r_strN9 r_strN10 r_strS0 r_strS1 r_strS2 r_strS3 r_strS4 r_strS5 r_strS6 r_strS7 r_strS8 r_strS9 r_strS10 r_new r_hq_d1 r_hq_d2 r_hq_d3 r_hq_u1 r_hq_u2 r_hq_u3 r_hq_u4 r_hq_fn r_lenB0 r_lenB1 r_lenB2 r_lenB3 r_lenB4 r_lenB5 r_lenB6 r_lenB7 r_lenB8 r_lenB9 r_lenB10 r_rcTurn r_rcEnd r_rcStart r_rwEnd r_rwA0 r_rwA1 r_rwA2 r_rwA3 r_rwA4 r_rwA5 r_rwA6 r_rwA7 r_rwA8 r_rwA9 r_rwA10 r_rwB r_hp0 r_hp1 r_hp2 r_hp3 r_hp4 r_hp5 r_hp6 r_hp7 r_hp8 r_hp9 r_hp10 r_rowR r_mvTurn r_mvEnd r_mcTurn r_mcEnd r_mcStart r_moveR r_lwT r_lwE r_mkA r_mkB r_mkE1 r_mkE2 r_mkS r_m1_1 r_m1_2 r_m1_3 r_m1_4 r_m2_1 r_m2_2 r_m2_3 r_m2_4 r_m3_1 r_m3_2 r_m3_3 r_m3_4 r_fk1_1 r_fk1_2 r_fk1_3 r_fk1_4 r_fk2_1 r_fk2_2 r_fk2_3 r_fk2_4 r_fk3_1 r_fk3_2 r_fk3_3 r_fk3_4 r_fkE r_fi6 r_fi7 r_fiE r_fo3 r_fo7 r_foP r_foE r_c1_1 r_c1_2 r_c1_3 r_c1_4 r_c1_5 r_c1_6 r_c1_7 r_c1_8 r_c1_9 r_c1_10 r_c2_1 r_c2_2 r_c2_3 r_c2_4 r_tr_1 r_tr_2 r_tr_3 r_tr_4 r_strB r_scT r_scE r_scS r_law_1 r_law_2 r_law_3 r_law_4 r_lawE
end Sol
theorem PySem.Challenge.cw_in0248_01_holds : PySem.Challenge.rw_in0248_01.Holds :=
  Sol.main_of Sol.r_all
