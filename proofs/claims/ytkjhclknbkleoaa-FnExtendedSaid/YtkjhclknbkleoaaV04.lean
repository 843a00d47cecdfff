/-
  A part of the proof of Ytkjhclknbkleoaa: texts X27, X28, X29. No conditions.
-/
import Derived.Test.YtkjhclknbkleoaaV03
namespace Go.X

/-! ### loops by contract -/

structure LoopC where
  id : Nat
  nt : Nat
  nin : Nat
  ncon : Nat
  nout : Nat
  Tp : Tm
  Mp : Mem
  To : Tm
  Mo : Mem
  wr : List Nat
  c : Nat

/-- one way through the body -/
structure LPath where
  bi : Bd
  orc : List Bool
  fuel : Nat
  T : Tm
  M : Mem
  g : G
  stop : Bool
  outs : List A

def wrIn (wr : List Nat) (n : Nat) : List Nat → Bool
  | [] => true
  | x :: r => (wr.any (Nat.beq x) || Nat.ble n x) && wrIn wr n r

theorem wrIn_get {wr : List Nat} {n : Nat} : ∀ {l : List Nat}, wrIn wr n l = true → ∀ x ∈ l, x < n → x ∈ wr
  | [], _, x, hx => by cases hx
  | y :: r, h, x, hx => by
    simp only [wrIn, Bool.and_eq_true, Bool.or_eq_true] at h
    cases hx with
    | head =>
      intro hlt
      rcases h.1 with h1 | h1
      · obtain ⟨z, hz, e⟩ := List.any_eq_true.1 h1
        have := Nat.eq_of_beq_eq_true e
        subst this; exact hz
      · have := Nat.le_of_ble_eq_true h1; omega
    | tail _ hx => exact wrIn_get h.2 x hx

/-- the first n are the variables from i on -/
def conB : Nat → Nat → List A → Bool
  | 0, _, _ => true
  | n + 1, i, .v x :: r => Nat.beq x i && conB n (i + 1) r
  | _ + 1, _, _ => false

theorem conB_get : ∀ {n i : Nat} {l : List A}, conB n i l = true → ∀ j, j < n → l[j]? = some (.v (i + j))
  | 0, _, _, _, j, hj => absurd hj (Nat.not_lt_zero _)
  | n + 1, i, [], h, _, _ => by simp [conB] at h
  | n + 1, i, .l _ :: r, h, _, _ => by simp [conB] at h
  | n + 1, i, .v x :: r, h, j, hj => by
    simp only [conB, Bool.and_eq_true] at h
    have e := Nat.eq_of_beq_eq_true h.1
    subst e
    cases j with
    | zero => rfl
    | succ j =>
      have := conB_get h.2 j (by omega)
      simp only [List.getElem?_cons_succ, this]
      congr 2; omega

def lpB (L : LoopC) (l : List Sem) (p : LPath) : Bool :=
  runB l p.g.ssa L.nin p.g.n p.bi && wrIn L.wr L.Mp.length p.g.wr &&
  (match cleanOf l p.g.ssa p.bi with
  | some (_, env) => asmC (l.map Sem.bi) env p.g.asm
  | none => false) &&
  (match p.stop with
  | true => simT L.ncon L.Mo.length ⟨p.outs, []⟩ L.To p.T L.nt && simM L.ncon L.Mo.length ⟨p.outs, []⟩ L.Mo p.M && Nat.beq p.outs.length L.nout
  | false => simT 0 L.Mp.length ⟨p.outs, []⟩ L.Tp p.T L.nt && simM 0 L.Mp.length ⟨p.outs, []⟩ L.Mp p.M && conB L.ncon 0 p.outs)

def loopB (L : LoopC) : Bool :=
  simT L.nin L.Mp.length ⟨[], []⟩ L.Tp L.Tp L.nt && simM L.nin L.Mp.length ⟨[], []⟩ L.Mp L.Mp && inFrame L.nt L.Tp && inFrame L.nt L.To && Nat.beq L.Mo.length L.Mp.length && Nat.ble L.ncon L.nin

/-- the loop's function, told by one round -/
def LCovered (l : List Sem) (s : Sem) (ps : List (Bd × List (Nat × Ins) × List Asm × Bool × List A)) : Prop :=
  ∃ μ : List Int → Nat, ∀ xs, InB s.bi xs → ∃ p ∈ ps, InB p.1 xs ∧ CondHold (vals l p.2.1 xs) p.2.2.1 ∧
    (match p.2.2.2.1 with
    | true => s.f xs = p.2.2.2.2.map (A.ev (vals l p.2.1 xs))
    | false => InB s.bi (p.2.2.2.2.map (A.ev (vals l p.2.1 xs))) ∧ μ (p.2.2.2.2.map (A.ev (vals l p.2.1 xs))) < μ xs ∧ s.f xs = s.f (p.2.2.2.2.map (A.ev (vals l p.2.1 xs))))

def LPath.fp (p : LPath) : Bd × List (Nat × Ins) × List Asm × Bool × List A := (p.bi, p.g.ssa, p.g.asm, p.stop, p.outs)

def lEx (id : Nat) : Bool → Ex
  | true => .exit id
  | false => .normal

def envX (gv : Nat → Value) (xs : List Int) : Env := ⟨fun x => xs.getD x 0, gv⟩
def envO (gv : Nat → Value) (d : Nat → Int) (ncon nout : Nat) (xs ys : List Int) : Env := ⟨fun x => if x < ncon then xs.getD x 0 else if x - ncon < nout then ys.getD (x - ncon) 0 else d (x - ncon), gv⟩

theorem loop_sem {P : Program} {W : World0 P} {ts : List Tmpl} {l : List Sem} (hl : GoodL W ts l) (hlen : Nat.ble l.length 1000000 = true) {L : LoopC} {s : Sem} {body : Code} {ps : List LPath}
    (hL : loopB L = true) (hr : ∀ p ∈ ps, runCode P ts [] L.nt p.fuel body L.Tp L.Mp ⟨[], L.nin, [], p.orc, L.wr⟩ = some (lEx L.id p.stop, p.T, p.M, p.g) ∧ lpB L l p = true)
    {μ : List Int → Nat} (hcov : ∀ xs, InB s.bi xs → ∃ p ∈ ps, InB p.bi xs ∧ CondHold (vals l p.g.ssa xs) p.g.asm ∧
      (match p.stop with
      | true => s.f xs = p.outs.map (A.ev (vals l p.g.ssa xs))
      | false => InB s.bi (p.outs.map (A.ev (vals l p.g.ssa xs))) ∧ μ (p.outs.map (A.ev (vals l p.g.ssa xs))) < μ xs ∧ s.f xs = s.f (p.outs.map (A.ev (vals l p.g.ssa xs)))))
    {σ0 : Plc} {M0 : Mem} {w0 : World} (hM0 : M0.length ≤ L.Mp.length) (d : Nat → Int) {Q : Exit → Act → World → Prop} :
    ∀ (k : Nat) (xs : List Int), μ xs ≤ k → InB s.bi xs → ∃ n, ∀ σ a w, Inv W.I W.base (envX W.gv xs) L.nt σ0 M0 w0 σ L.Tp L.Mp ⟨[], L.nin, [], [], L.wr⟩ a w →
      (∀ σ' a' w', Inv W.I W.base (envO W.gv d L.ncon L.nout xs (s.f xs)) L.nt σ0 M0 w0 σ' L.To L.Mo ⟨[], L.nin, [], [], L.wr⟩ a' w' → Q .normal a' w') → Code.rounds P body (Exit.inBlock L.id Q) n a w := by
  simp only [loopB, Bool.and_eq_true] at hL
  obtain ⟨⟨⟨⟨⟨l1, l2⟩, l3⟩, l4⟩, l5⟩, l6⟩ := hL
  have l5 := Nat.eq_of_beq_eq_true l5
  have l6 := Nat.le_of_ble_eq_true l6
  intro k
  induction k using Nat.strongRecOn with
  | ind k ih =>
    intro xs hk hx
    obtain ⟨p, hp, hx, hcond, hval⟩ := hcov xs hx
    obtain ⟨hrun, hpb⟩ := hr p hp
    simp only [lpB, runB, Bool.and_eq_true] at hpb
    obtain ⟨⟨⟨⟨⟨p2, p3⟩, p4⟩, pw⟩, p5⟩, p6⟩ := hpb
    have p3 := Nat.eq_of_beq_eq_true p3
    have hv := vals_eq (gl := W.gl) p4 xs
    split at p5
    case h_2 => cases p5
    rename_i cl env hcl
    obtain ⟨hCH, hEnv, hin⟩ := run_env p2 (Nat.ble_eq_true_of_le (show p.bi.length ≤ L.nin by omega)) hcl hx
    have hhold : Hold (tabP l) (vals l p.g.ssa xs) p.g.asm := asmC_ok (tabP_ok l) hEnv p5 hcond
    have hsat := (evalS_sat (F := tabF W.gl l) (ρ0 := fun x => xs.getD x 0) p2).1
    rw [← hv] at hsat
    let E' : Env := ⟨vals l p.g.ssa xs, W.gv⟩
    have cx : Cx P (tabF W.gl l) (tabP l) W.I W.base ts E' := hl.cx (Nat.le_of_ble_eq_true hlen) E' rfl
    have snd := runCode_sound (n := p.fuel) (c := body) (nt := L.nt) (ls := []) cx (fun _ h => by cases h) (fun _ h => by cases h)
    -- into the round's environment
    have into : ∀ σ a w, Inv W.I W.base (envX W.gv xs) L.nt σ0 M0 w0 σ L.Tp L.Mp ⟨[], L.nin, [], [], L.wr⟩ a w →
        Inv W.I W.base E' L.nt σ0 M0 w0 (cut σ L.Mp.length) L.Tp L.Mp ⟨[], L.nin, [], p.orc, L.wr⟩ a w := by
      intro σ a w hi
      refine hi.fit (nin := L.nin) (outs := []) rfl ?_ l1 l2 l3 hM0 (fun x h _ => h)
      intro t b ht
      cases t with
      | l n => simp only [fA] at ht; cases ht; rfl
      | v x =>
        simp only [fA] at ht
        split at ht
        · rename_i hx'
          cases ht
          show vals l p.g.ssa xs x = xs.getD x 0
          exact hin x (Nat.le_of_ble_eq_true hx')
        · simp at ht
    cases hstop : p.stop with
    | true =>
      rw [hstop] at hval p6 hrun
      simp only [Bool.and_eq_true] at p6
      obtain ⟨p6, p7⟩ := p6
      have p7 := Nat.eq_of_beq_eq_true p7
      refine ⟨1, ?_⟩
      intro σ a w hi hq
      rw [rounds_succ]
      refine snd.ok _ _ _ _ _ _ _ hrun hsat hhold _ _ _ _ _ _ _ (into σ a w hi) ?_
      intro σ' a' w' hi'
      show (if L.id = L.id then Q .normal a' w' else _)
      rw [if_pos rfl]
      refine hq (cut σ' L.Mo.length) a' w' (hi'.fit (nin := L.ncon) (outs := p.outs) rfl ?_ p6.1 p6.2 l4 (by omega) (fun x h h' => wrIn_get pw x h (by omega)))
      intro t b ht
      cases t with
      | l n => simp only [fA] at ht; cases ht; rfl
      | v x =>
        simp only [fA] at ht
        split at ht
        · rename_i hx'
          cases ht
          have hx' : x < L.ncon := Nat.le_of_ble_eq_true hx'
          show (if x < L.ncon then xs.getD x 0 else _) = vals l p.g.ssa xs x
          rw [if_pos hx', hin x (by omega)]
        · rename_i hx'
          have hx' : ¬ x < L.ncon := fun hc => by
            have : Nat.blt x L.ncon = true := Nat.ble_eq_true_of_le hc
            rw [this] at hx'; cases hx'
          show (if x < L.ncon then _ else if x - L.ncon < L.nout then (s.f xs).getD (x - L.ncon) 0 else _) = _
          simp only at hval
          have hj := lt_of_get ht
          have hj : x - L.ncon < p.outs.length := hj
          rw [if_neg hx', if_pos (by omega), hval, List.getD_eq_getElem?_getD, List.getElem?_map, ht]
          rfl
    | false =>
      rw [hstop] at hval p6 hrun
      simp only [Bool.and_eq_true] at p6
      obtain ⟨⟨s1, s2⟩, s3⟩ := p6
      obtain ⟨hy, hμ, hf⟩ := hval
      generalize hys : p.outs.map (A.ev (vals l p.g.ssa xs)) = ys at hy hμ hf
      obtain ⟨n, hn⟩ := ih (μ ys) (by omega) ys (Nat.le_refl _) hy
      refine ⟨n + 1, ?_⟩
      intro σ a w hi hq
      rw [rounds_succ]
      refine snd.ok _ _ _ _ _ _ _ hrun hsat hhold _ _ _ _ _ _ _ (into σ a w hi) ?_
      intro σ' a' w' hi'
      show Code.rounds P body (Exit.inBlock L.id Q) n a' w'
      refine hn (cut σ' L.Mp.length) a' w' (hi'.fit (nin := 0) (outs := p.outs) rfl ?_ s1 s2 l3 hM0 (fun x h h' => wrIn_get pw x h (by omega))) ?_
      · intro t b ht
        cases t with
        | l n => simp only [fA] at ht; cases ht; rfl
        | v x =>
          simp only [fA] at ht
          split at ht
          · rename_i hx'
            have := Nat.le_of_ble_eq_true hx'
            omega
          · rw [Nat.sub_zero] at ht
            show ys.getD x 0 = _
            rw [← hys, List.getD_eq_getElem?_getD, List.getElem?_map, ht]
            rfl
      · intro σ2 a2 w2 hi2
        refine hq σ2 a2 w2 ?_
        have e : envO W.gv d L.ncon L.nout ys (s.f ys) = envO W.gv d L.ncon L.nout xs (s.f xs) := by
          unfold envO
          congr 1
          funext x
          by_cases h : x < L.ncon
          · rw [if_pos h, if_pos h, ← hys, List.getD_eq_getElem?_getD, List.getElem?_map, conB_get s3 x h]
            show vals l p.g.ssa xs (0 + x) = _
            rw [Nat.zero_add, hin x (by omega)]
          · rw [if_neg h, if_neg h, hf]
        rwa [e] at hi2

/-! the contract in the executor -/

def mTp (T : Tm) : Tm → B → Option B
  | [], b => some b
  | (t, s) :: r, b => match anyS s with
    | true => mTp T r b
    | false => match mS s (lk T t) b with
      | some b => mTp T r b
      | none => none

def mMp : Mem → Mem → B → Option B
  | [], _, b => some b
  | c :: r, d :: q, b => match mLs c d b with | some b => mMp r q b | none => none
  | _ :: _, [], _ => none

def loopT (L : LoopC) (T : Tm) (M : Mem) (g : G) : Option (Ex × Tm × Mem × G) :=
  match mTp T L.Tp ⟨[], idR M.length⟩ with
  | none => none
  | some b0 => match mMp L.Mp M b0 with
    | none => none
    | some b => match insOf b L.nin 0 with
      | none => none
      | some ins =>
        match simT 0 L.Mp.length ⟨ins, []⟩ L.Tp T L.nt && simM 0 L.Mp.length ⟨ins, []⟩ L.Mp M && Nat.beq L.Mp.length M.length && wrIn L.wr L.Mp.length g.wr with
        | false => none
        | true =>
          match subT ⟨L.ncon, ins, g.n, M.length, idR M.length, M.length⟩ L.To, subM ⟨L.ncon, ins, g.n, M.length, idR M.length, M.length⟩ L.Mo with
          | some T', some M' => some (.normal, T', M', { g with ssa := outs L.c ins g.n L.nout ++ g.ssa, n := g.n + L.nout, asm := .pre L.c ins :: g.asm, wr := L.wr ++ g.wr })
          | _, _ => none

theorem insOf_len {b : B} {n : Nat} {ins : List A} (h : insOf b n 0 = some ins) : ins.length = n := (insOf_get h).1

theorem loopT_le {L : LoopC} {T T' : Tm} {M M' : Mem} {g g' : G} {ex : Ex} (h : loopT L T M g = some (ex, T', M', g')) : g.le g' := by
  unfold loopT at h
  repeat' split at h
  all_goals first | (cases h; done) | skip
  cases h
  exact ⟨fun _ h => List.mem_append_right _ h, fun _ h => List.mem_cons_of_mem _ h, fun _ h => List.mem_append_right _ h⟩

theorem loopT_sound {P : Program} {W : World0 P} {ts : List Tmpl} {l : List Sem} (hl : GoodL W ts l) (hlen : Nat.ble l.length 1000000 = true) {L : LoopC} {s : Sem} {body : Code} {ps : List LPath}
    (hL : loopB L = true) (hr : ∀ p ∈ ps, runCode P ts [] L.nt p.fuel body L.Tp L.Mp ⟨[], L.nin, [], p.orc, L.wr⟩ = some (lEx L.id p.stop, p.T, p.M, p.g) ∧ lpB L l p = true)
    (hcov : LCovered l s (ps.map LPath.fp)) {F : Fns} {pr : Prs} {E : Env} (hE : E.gv = W.gv) (hF : F L.c = s.f) (hp : pr L.c = InB s.bi) :
    LSound P F pr W.I W.base L.nt E (.block L.id (.loop body)) (loopT L) := by
  refine ⟨fun _ _ _ _ _ _ _ h => loopT_le h, ?_⟩
  intro T T' M M' g g' ex h hs hh σ0 M0 w0 σ a w Q hi hq
  unfold loopT at h
  split at h
  · cases h
  split at h
  · cases h
  split at h
  · cases h
  rename_i ins hins
  split at h
  · cases h
  rename_i hchk
  simp only [Bool.and_eq_true] at hchk
  obtain ⟨⟨⟨c1, c2⟩, c3⟩, c4⟩ := hchk
  have c3 := Nat.eq_of_beq_eq_true c3
  split at h
  case h_2 => cases h
  rename_i T1 M1 hT1 hM1
  cases h
  have hL' := hL
  simp only [loopB, Bool.and_eq_true] at hL'
  obtain ⟨⟨⟨⟨⟨l1, l2⟩, l3⟩, l4⟩, l5⟩, l6⟩ := hL'
  have l5 := Nat.eq_of_beq_eq_true l5
  have l6 := Nat.le_of_ble_eq_true l6
  have hil := insOf_len hins
  generalize hxs : ins.map (A.ev E.ρ) = xs
  have hx : InB s.bi xs := by
    have := hh (.pre L.c ins) (List.mem_cons_self ..)
    have : pr L.c (ins.map (A.ev E.ρ)) := this
    rw [hp, hxs] at this; exact this
  have hi1 : Inv W.I W.base (envX W.gv xs) L.nt σ0 M0 w0 (cut σ L.Mp.length) L.Tp L.Mp ⟨[], L.nin, [], [], L.wr⟩ a w := by
    have hg0 := hi.grow
    refine hi.fit (nin := 0) (outs := ins) hE.symm ?_ c1 c2 l3 (by omega) (fun x h h' => wrIn_get c4 x h (by omega))
    intro t b ht
    cases t with
    | l n => simp only [fA] at ht; cases ht; rfl
    | v x =>
      simp only [fA] at ht
      split at ht
      · rename_i hx'
        have := Nat.le_of_ble_eq_true hx'
        omega
      · rw [Nat.sub_zero] at ht
        show xs.getD x 0 = _
        rw [← hxs, List.getD_eq_getElem?_getD, List.getElem?_map, ht]
        rfl
  obtain ⟨μ, hcov⟩ := hcov
  have hcov' : ∀ xs, InB s.bi xs → ∃ p ∈ ps, InB p.bi xs ∧ CondHold (vals l p.g.ssa xs) p.g.asm ∧
      (match p.stop with
      | true => s.f xs = p.outs.map (A.ev (vals l p.g.ssa xs))
      | false => InB s.bi (p.outs.map (A.ev (vals l p.g.ssa xs))) ∧ μ (p.outs.map (A.ev (vals l p.g.ssa xs))) < μ xs ∧ s.f xs = s.f (p.outs.map (A.ev (vals l p.g.ssa xs)))) := by
    intro xs hx
    obtain ⟨q, hq, h0, h1, h2⟩ := hcov xs hx
    obtain ⟨p, hp, rfl⟩ := List.mem_map.1 hq
    exact ⟨p, hp, h0, h1, h2⟩
  have hg0 := hi.grow
  obtain ⟨n, hn⟩ := loop_sem hl hlen hL hr hcov' (σ0 := σ0) (M0 := M0) (w0 := w0) (by omega) (fun j => E.ρ (g.n + j)) (Q := Q) (μ xs) xs (Nat.le_refl _) hx
  refine wp_block (wp_loop_rounds n (hn _ _ _ hi1 ?_))
  intro σ' a' w' hi'
  refine hq σ' a' w' (hi'.sub ?_ hT1 hM1 (fun x h => List.mem_append_left _ h))
  refine ⟨hE.symm, ?_, ?_⟩
  · intro t b ht
    cases t with
    | l n => simp only [subA] at ht; cases ht; rfl
    | v x =>
      simp only [subA] at ht
      split at ht
      · rename_i hx'
        have hx' : x < L.ncon := Nat.le_of_ble_eq_true hx'
        show (if x < L.ncon then xs.getD x 0 else _) = _
        rw [if_pos hx', ← hxs, List.getD_eq_getElem?_getD, List.getElem?_map, ht]
        rfl
      · rename_i hx'
        have hx' : ¬ x < L.ncon := fun hc => by
          have : Nat.blt x L.ncon = true := Nat.ble_eq_true_of_le hc
          rw [this] at hx'; cases hx'
        cases ht
        show (if x < L.ncon then _ else if x - L.ncon < L.nout then (s.f xs).getD (x - L.ncon) 0 else E.ρ (g.n + (x - L.ncon))) = E.ρ (g.n + (x - L.ncon))
        rw [if_neg hx']
        by_cases hj : x - L.ncon < L.nout
        · rw [if_pos hj]
          have := hs (g.n + (x - L.ncon), .app L.c ins (x - L.ncon)) (List.mem_append_left _ (outs_mem hj))
          simp only [Ins.ev] at this
          rw [this, hF, hxs]
        · rw [if_neg hj]
  · intro r off q o hr p hpr
    simp only [subR] at hr
    split at hr
    · rename_i hx'
      rw [idR_get] at hr
      split at hr
      · rename_i q' o' hlt
        split at hlt
        · cases hlt; cases hr; exact ⟨p, hpr, by simp⟩
        · cases hlt
      · cases hr
    · rename_i hx'
      have hx' : ¬ r < M.length := fun hc => by
        have : Nat.blt r M.length = true := Nat.ble_eq_true_of_le hc
        rw [this] at hx'; cases hx'
      rw [hi'.free r (by omega)] at hpr; cases hpr

end Go.X

namespace Go.X

def blocks : Code → List (Nat × Code)
  | .block id b => (id, b) :: blocks b
  | .seq x y => blocks x ++ blocks y
  | .cond _ x y => blocks x ++ blocks y
  | .loop b => blocks b
  | _ => []

theorem hasBlock_mem {c : Code} {id : Nat} {x : Code} (h : HasBlock c id x) : (id, x) ∈ blocks c := by
  induction h with
  | here => exact List.mem_cons_self ..
  | inBlock _ ih => exact List.mem_cons_of_mem _ ih
  | seqL _ ih => exact List.mem_append_left _ ih
  | seqR _ ih => exact List.mem_append_right _ ih
  | condL _ ih => exact List.mem_append_left _ ih
  | condR _ ih => exact List.mem_append_right _ ih
  | loop _ ih => exact ih

def isLoop : Code → Bool
  | .loop _ => true
  | _ => false

def unLoop : Code → Code
  | .loop b => b
  | c => c

def blockOf (c : Code) (id : Nat) : List (Nat × Code) := (blocks c).filter fun p => Nat.beq p.1 id

def loopBody (fn : Func) (id : Nat) : Code :=
  match fn.body with
  | some b => match blockOf b id with
    | [(_, x)] => unLoop x
    | _ => .skip
  | none => .skip

def hasLoop (fn : Func) (id : Nat) : Bool :=
  match fn.body with
  | some b => match blockOf b id with
    | [(_, x)] => isLoop x
    | _ => false
  | none => false

theorem hasLoop_eq {fn : Func} {id : Nat} (h : hasLoop fn id = true) {b x : Code} (hb : fn.body = some b) (hx : HasBlock b id x) : x = .loop (loopBody fn id) := by
  unfold hasLoop at h
  unfold loopBody
  rw [hb] at h ⊢
  simp only at h ⊢
  split at h
  · rename_i i y hy
    have hm : (id, x) ∈ blockOf b id := List.mem_filter.2 ⟨hasBlock_mem hx, by simp⟩
    rw [hy] at hm
    simp at hm
    obtain ⟨_, rfl⟩ := hm
    unfold isLoop at h
    split at h
    · rfl
    · cases h
  · cases h

/-- a run with one loop by contract -/
theorem pathsL {P : Program} {W : World0 P} {ts : List Tmpl} {l : List Sem} (hl : GoodL W ts l) (hlen : Nat.ble l.length 1000000 = true) {T : Tmpl} {s : Sem} {fn : Func} {ps : List Path} {L : LoopC} {sL : Sem} {lps : List LPath}
    (hf : P.funcs[T.f]? = some fn) (hc : ∀ args w, (callFunc T.f args).run P w = .ok (.enter T.f args) w)
    (hb : (ownT T && T.hasPre && hasLoop fn L.id && Nat.beq L.nt fn.ntmps && loopB L) = true)
    (hr : ∀ p ∈ ps, runBody P ts [⟨L.id, loopT L⟩] fn p.fuel T.args T.mem T.nin p.orc = some p.out ∧ pathB T l p = true)
    (hLr : ∀ p ∈ lps, runCode P ts [] L.nt p.fuel (loopBody fn L.id) L.Tp L.Mp ⟨[], L.nin, [], p.orc, L.wr⟩ = some (lEx L.id p.stop, p.T, p.M, p.g) ∧ lpB L l p = true)
    (hc0 : l[L.c]? = some sL) (hLcov : LCovered l sL (lps.map LPath.fp))
    (hcov : ∀ xs, InB s.bi xs → ∃ p ∈ ps, InB p.bi xs ∧ CondHold (vals l p.out.g.ssa xs) p.out.g.asm ∧ s.f xs = p.ft.outs.map (A.ev (vals l p.out.g.ssa xs))) : Good W T s := by
  simp only [Bool.and_eq_true] at hb
  obtain ⟨⟨⟨⟨b1, b2⟩, b3⟩, b4⟩, b5⟩ := hb
  have b4 := Nat.eq_of_beq_eq_true b4
  intro F pr c hFc hpc
  refine body_sound (F' := tabF W.gl l) (pr' := tabP l) (ls := [⟨L.id, loopT L⟩]) hf hc b1 (fun E hE => hl.cx (Nat.le_of_ble_eq_true hlen) E hE) ?_ ?_ ?_
  · intro lt hlt
    simp at hlt
    subst hlt
    intro _ _ _ _ _ _ _ h
    exact loopT_le h
  · intro E hE b hbody lt hlt x hx
    simp at hlt
    subst hlt
    rw [hasLoop_eq b3 hbody hx, ← b4]
    exact loopT_sound hl hlen b5 hLr hLcov hE (by simp [tabF, hc0]) (by simp [tabP, hc0])
  intro xs hlx hpx
  have hx : InB s.bi xs := by have := hpx b2; rwa [hpc] at this
  obtain ⟨p, hp, hx, hcond, hval⟩ := hcov xs hx
  obtain ⟨hrun, hpb⟩ := hr p hp
  simp only [pathB, runB, Bool.and_eq_true] at hpb
  obtain ⟨⟨p1, ⟨⟨p2, p3⟩, p4⟩⟩, p5⟩ := hpb
  have p3 := Nat.eq_of_beq_eq_true p3
  have hv := vals_eq (gl := W.gl) p4 xs
  refine ⟨p.fuel, p.orc, p.out, p.ft, hrun, p1, p2, ?_, ?_⟩
  · intro j a hj
    rw [hFc, hval, ← hv]
    simp [List.getD_eq_getElem?_getD, hj]
  · rw [← hv]
    split at p5
    · rename_i cl env hcl
      exact asmC_ok (tabP_ok l) (run_env p2 (Nat.ble_eq_true_of_le (by omega)) hcl hx).2.1 p5 hcond
    · cases p5

theorem straightL {P : Program} {W : World0 P} {ts : List Tmpl} {l : List Sem} (hl : GoodL W ts l) {T : Tmpl} {s : Sem} {fn : Func} {p : Path} {L : LoopC} {sL : Sem} {lps : List LPath}
    (hf : P.funcs[T.f]? = some fn) (hc : ∀ args w, (callFunc T.f args).run P w = .ok (.enter T.f args) w)
    (hr : runBody P ts [⟨L.id, loopT L⟩] fn p.fuel T.args T.mem T.nin p.orc = some p.out)
    (hb : (Nat.ble l.length 1000000 && (ownT T && T.hasPre && hasLoop fn L.id && Nat.beq L.nt fn.ntmps && loopB L) && condFree p.out.g.asm && pathB T l p && subB s.bi p.bi) = true)
    (hLr : ∀ p ∈ lps, runCode P ts [] L.nt p.fuel (loopBody fn L.id) L.Tp L.Mp ⟨[], L.nin, [], p.orc, L.wr⟩ = some (lEx L.id p.stop, p.T, p.M, p.g) ∧ lpB L l p = true)
    (hc0 : l[L.c]? = some sL) (hLcov : LCovered l sL (lps.map LPath.fp))
    (hF : s.f = runF l p.out.g.ssa p.ft.outs) : Good W T s := by
  simp only [Bool.and_eq_true] at hb
  obtain ⟨⟨⟨⟨h0, h1⟩, h3⟩, h4⟩, h5⟩ := hb
  refine pathsL hl h0 (ps := [p]) (L := L) (sL := sL) (lps := lps) hf hc (by simp only [Bool.and_eq_true]; exact h1) ?_ hLr hc0 hLcov ?_
  · intro q hq; simp at hq; subst hq; exact ⟨hr, h4⟩
  · intro xs hx
    exact ⟨p, by simp, hx.sub h5, condFree_ok h3, by rw [hF]; rfl⟩

end Go.X

namespace Go.X

/-! ### the equations of a run, as one reads them -/

def seg (v : Nat → Int) (x : Nat) : Nat → List Int
  | 0 => []
  | n + 1 => v x :: seg v (x + 1) n

def u8s (l : List Int) : List UInt8 := l.map fun n => UInt8.ofNat n.toNat

def gets (l : List Int) (i : Nat) : Nat → List Int
  | 0 => []
  | n + 1 => l.getD i 0 :: gets l (i + 1) n

theorem gets_eq : ∀ (n i : Nat) (l : List Int), l.length = i + n → gets l i n = l.drop i
  | 0, i, l, h => by simp [gets, List.drop_of_length_le (show l.length ≤ i by omega)]
  | n + 1, i, l, h => by
    have hlt : i < l.length := by omega
    rw [List.drop_eq_getElem_cons hlt]
    simp only [gets]
    rw [gets_eq n (i + 1) l (by omega)]
    simp [List.getD_eq_getElem?_getD, hlt]

theorem gets_all {n : Nat} {l : List Int} (h : l.length = n) : gets l 0 n = l := by
  rw [gets_eq n 0 l (by omega)]; simp

theorem seg_xs {v : Nat → Int} {xs : List Int} : ∀ (n i : Nat), xs.length = i + n → (∀ x, x < xs.length → v x = xs.getD x 0) → seg v i n = xs.drop i
  | 0, i, h, _ => by simp [seg, List.drop_of_length_le (show xs.length ≤ i by omega)]
  | n + 1, i, h, hv => by
    have hlt : i < xs.length := by omega
    rw [List.drop_eq_getElem_cons hlt]
    simp only [seg]
    rw [seg_xs n (i + 1) (by omega) hv, hv i hlt]
    simp [List.getD_eq_getElem?_getD, hlt]

inductive St where
  | one (x : Nat) (c : CI)
  | grp (x n c : Nat) (args : List A)

def St.holds (F : Fns) (ρ : Nat → Int) : St → Prop
  | .one x c => ρ x = c.ev F ρ
  | .grp x n c args => seg ρ x n = gets (F c (args.map (A.ev ρ))) 0 n

def StHold (F : Fns) (ρ : Nat → Int) : List St → Prop
  | [] => True
  | [s] => s.holds F ρ
  | s :: r => s.holds F ρ ∧ StHold F ρ r

def beqAs : List A → List A → Bool
  | [], [] => true
  | a :: r, b :: q => A.beq a b && beqAs r q
  | _, _ => false

theorem beqAs_eq : ∀ {x y : List A}, beqAs x y = true → x = y
  | [], [], _ => rfl
  | [], _ :: _, h => by simp [beqAs] at h
  | _ :: _, [], h => by simp [beqAs] at h
  | a :: r, b :: q, h => by
    simp only [beqAs, Bool.and_eq_true] at h
    rw [A.eq_of_beq h.1, beqAs_eq h.2]

/-- the k outputs below (x, j), in order downwards, and what is left -/
def takeGrp (c : Nat) (args : List A) : Nat → Nat → List (Nat × CI) → Option (List (Nat × CI))
  | 0, _, r => some r
  | j + 1, x, (y, .raw (.app c' args' j')) :: r =>
    match Nat.beq y (x + j) && Nat.beq c c' && Nat.beq j j' && beqAs args args' with
    | true => takeGrp c args j x r
    | false => none
  | _ + 1, _, _ => none

theorem takeGrp_hold {F : Fns} {ρ : Nat → Int} {c : Nat} {args : List A} : ∀ {j x : Nat} {l r : List (Nat × CI)}, takeGrp c args j x l = some r → CHold F ρ l →
    CHold F ρ r ∧ ∀ i, i < j → ρ (x + i) = (F c (args.map (A.ev ρ))).getD i 0
  | 0, x, l, r, h, hl => by simp [takeGrp] at h; subst h; exact ⟨hl, fun i hi => absurd hi (Nat.not_lt_zero _)⟩
  | j + 1, x, [], r, h, hl => by simp [takeGrp] at h
  | j + 1, x, (y, ci) :: l, r, h, hl => by
    unfold takeGrp at h
    split at h
    · rename_i e; cases e
    · rename_i j0 y' c' args' j' r' e1 e2
      cases e1; cases e2
      split at h
      · rename_i hk
        simp only [Bool.and_eq_true] at hk
        obtain ⟨⟨⟨k1, k2⟩, k3⟩, k4⟩ := hk
        have k1 := Nat.eq_of_beq_eq_true k1
        have k2 := Nat.eq_of_beq_eq_true k2
        have k3 := Nat.eq_of_beq_eq_true k3
        have k4 := beqAs_eq k4
        subst k1; subst k2; subst k3; subst k4
        obtain ⟨h1, h2⟩ := takeGrp_hold h hl.2
        refine ⟨h1, ?_⟩
        intro i hi
        by_cases e : i = j
        · subst e; exact hl.1
        · exact h2 i (by omega)
      · cases h
    · cases h

theorem seg_gets {F : Fns} {ρ : Nat → Int} {l : List Int} : ∀ {n x i : Nat}, (∀ k, k < n → ρ (x + k) = l.getD (i + k) 0) → seg ρ x n = gets l i n
  | 0, _, _, _ => rfl
  | n + 1, x, i, h => by
    have h0 := h 0 (by omega)
    rw [Nat.add_zero, Nat.add_zero] at h0
    simp only [seg, gets]
    rw [h0, seg_gets (F := F) (n := n) (x := x + 1) (i := i + 1)]
    intro k hk
    have := h (k + 1) (by omega)
    rwa [show x + (k + 1) = x + 1 + k from by omega, show i + (k + 1) = i + 1 + k from by omega] at this

def group : Nat → List (Nat × CI) → List St
  | 0, _ => []
  | _ + 1, [] => []
  | f + 1, (x, .raw (.app c args (j + 1))) :: r =>
    match Nat.ble (j + 1) x, takeGrp c args (j + 1) (x - (j + 1)) r with
    | true, some r' => .grp (x - (j + 1)) (j + 2) c args :: group f r'
    | _, _ => .one x (.raw (.app c args (j + 1))) :: group f r
  | f + 1, (x, ci) :: r => .one x ci :: group f r

theorem StHold_cons {F : Fns} {ρ : Nat → Int} {s : St} {r : List St} (h : s.holds F ρ) (hr : StHold F ρ r) : StHold F ρ (s :: r) := by
  cases r with
  | nil => exact h
  | cons _ _ => exact ⟨h, hr⟩

theorem group_hold {F : Fns} {ρ : Nat → Int} : ∀ {f : Nat} {l : List (Nat × CI)}, CHold F ρ l → StHold F ρ (group f l)
  | 0, l, _ => by simp [group, StHold]
  | f + 1, [], _ => by simp [group, StHold]
  | f + 1, (x, ci) :: r, h => by
    unfold group
    split
    · trivial
    · trivial
    · rename_i c args j r' e1 e2
      cases e2; cases e1
      split
      · rename_i r2 hb ht
        have hb := Nat.le_of_ble_eq_true hb
        obtain ⟨h1, h2⟩ := takeGrp_hold ht h.2
        refine StHold_cons ?_ (group_hold h1)
        show seg ρ _ _ = gets _ 0 _
        refine seg_gets (F := F) ?_
        intro k hk
        rw [Nat.zero_add]
        by_cases e : k = j + 1
        · subst e
          have := h.1
          rw [show x - (j + 1) + (j + 1) = x from by omega, this]
          rfl
        · exact h2 k (by omega)
      · exact StHold_cons h.1 (group_hold h.2)
    · rename_i e1 e2
      cases e2
      exact StHold_cons h.1 (group_hold h.2)

theorem StHold_mem {F : Fns} {ρ : Nat → Int} : ∀ {l : List St}, StHold F ρ l → ∀ s ∈ l, s.holds F ρ
  | [], _, s, hs => by cases hs
  | [x], h, s, hs => by simp at hs; subst hs; exact h
  | x :: y :: r, h, s, hs => by
    cases hs with
    | head => exact h.1
    | tail _ hs => exact StHold_mem h.2 s hs

theorem StHold_of {F : Fns} {ρ : Nat → Int} : ∀ {l : List St}, (∀ s ∈ l, s.holds F ρ) → StHold F ρ l
  | [], _ => trivial
  | s :: _, h => StHold_cons (h s (List.mem_cons_self ..)) (StHold_of fun x hx => h x (List.mem_cons_of_mem _ hx))

theorem StHold_rev {F : Fns} {ρ : Nat → Int} {l : List St} (h : StHold F ρ l) : StHold F ρ l.reverse :=
  StHold_of fun s hs => StHold_mem h s (List.mem_reverse.1 hs)

/-- the bounds of the single ones -/
def BHold (ρ : Nat → Int) : AEnv → Prop
  | [] => True
  | [(x, a)] => a.lo ≤ ρ x ∧ ρ x ≤ a.hi
  | (x, a) :: r => (a.lo ≤ ρ x ∧ ρ x ≤ a.hi) ∧ BHold ρ r

def down : AEnv → Nat → Bool
  | [], _ => true
  | (x, _) :: r, top => Nat.blt x top && down r x

theorem down_lt : ∀ {env : AEnv} {top : Nat}, down env top = true → ∀ x v, lkE env x = some v → x < top
  | [], _, _, x, v, h => by cases h
  | (y, a) :: r, top, h, x, v, hx => by
    simp only [down, Bool.and_eq_true] at h
    have hy : y < top := Nat.le_of_ble_eq_true h.1
    simp only [lkE] at hx
    split at hx
    · rename_i e; have := Nat.eq_of_beq_eq_true e; omega
    · have := down_lt h.2 x v hx; omega

theorem BHold_of {ρ : Nat → Int} : ∀ {env : AEnv}, (∀ p ∈ env, p.2.lo ≤ ρ p.1 ∧ ρ p.1 ≤ p.2.hi) → BHold ρ env
  | [], _ => trivial
  | (x, a) :: r, h => by
    have hx := h (x, a) (List.mem_cons_self ..)
    have hr : BHold ρ r := BHold_of fun p hp => h p (List.mem_cons_of_mem _ hp)
    cases r with
    | nil => exact hx
    | cons _ _ => exact ⟨hx, hr⟩

theorem env_mem {ρ : Nat → Int} : ∀ {env : AEnv} {top : Nat}, down env top = true → EnvOk ρ env → ∀ p ∈ env, p.2.lo ≤ ρ p.1 ∧ ρ p.1 ≤ p.2.hi
  | [], _, _, _, p, hp => by cases hp
  | (x, a) :: _, top, h, he, p, hp => by
    simp only [down, Bool.and_eq_true] at h
    cases hp with
    | head => have hx := he x a (by simp [lkE]); exact ⟨hx.1, hx.2.1⟩
    | tail _ hp =>
      refine env_mem h.2 ?_ p hp
      intro y v hy
      have hlt := down_lt h.2 y v hy
      refine he y v ?_
      simp only [lkE]
      rw [beq_ff (by omega)]
      exact hy

/-- what the run comes to, its inputs within b -/
def eqsOf (l : List Sem) (g : List (Nat × Ins)) (b : Bd) (v : Nat → Int) : Prop :=
  match cleanOf l g b with
  | some (cl, _) => StHold (tab l) v (group 1000000 cl).reverse
  | none => True

def bdsOf (l : List Sem) (g : List (Nat × Ins)) (b : Bd) (top : Nat) (v : Nat → Int) : Prop :=
  match cleanOf l g b with
  | some (_, env) => match down (env.take (env.length - b.length)) top with
    | true => BHold v (env.take (env.length - b.length)).reverse
    | false => True
  | none => True

theorem lkE_take {n : Nat} {x : Nat} {v : Av} : ∀ {env : AEnv}, lkE (env.take n) x = some v → lkE env x = some v := by
  induction n with
  | zero => intro env h; simp [lkE] at h
  | succ n ih =>
    intro env h
    cases env with
    | nil => simp [lkE] at h
    | cons p r =>
      obtain ⟨y, a⟩ := p
      simp only [List.take_succ_cons, lkE] at h ⊢
      split at h
      · exact h
      · exact ih h

theorem run_eqs {l : List Sem} {g : List (Nat × Ins)} {nin top : Nat} {b : Bd} (h : runB l g nin top b = true) {xs : List Int} (hx : InB b xs) :
    seg (vals l g xs) 0 nin = xs ∧ eqsOf l g b (vals l g xs) ∧ bdsOf l g b top (vals l g xs) := by
  simp only [runB, Bool.and_eq_true] at h
  obtain ⟨⟨h1, h2⟩, h3⟩ := h
  have h2 := Nat.eq_of_beq_eq_true h2
  have hin := (evalS_sat (F := tab l) (ρ0 := fun x => xs.getD x 0) h1).2.1
  have hl := hx.len
  refine ⟨?_, ?_, ?_⟩
  · have := seg_xs (v := vals l g xs) (xs := xs) nin 0 (by omega) (fun x hx => hin x (by omega))
    simpa using this
  · unfold eqsOf
    split
    · rename_i cl env hc
      exact StHold_rev (group_hold (run_env h1 (Nat.ble_eq_true_of_le (by omega)) hc hx).1)
    · trivial
  · unfold bdsOf
    split
    · rename_i cl env hc
      split
      · rename_i hd
        refine BHold_of fun p hp => env_mem hd ?_ p (List.mem_reverse.1 hp)
        intro x v hv
        exact (run_env h1 (Nat.ble_eq_true_of_le (by omega)) hc hx).2.1 x v (lkE_take hv)
      · trivial
    · trivial

/-! lists that the printed texts share -/
def vs : Nat → Nat → List A
  | _, 0 => []
  | x, n + 1 => .v x :: vs (x + 1) n
def ls (a : Int) : Nat → List A
  | 0 => []
  | n + 1 => .l a :: ls a n
def us (k : IntKind) : Nat → Nat → List L
  | _, 0 => []
  | x, n + 1 => .int k (.v x) :: us k (x + 1) n
def bs : Nat → Int → Int → Bd
  | 0, _, _ => []
  | n + 1, a, b => (a, b) :: bs n a b
def apps (c : Nat) (as : List A) (x : Nat) : Nat → List (Nat × Ins)
  | 0 => []
  | n + 1 => (x + n, .app c as n) :: apps c as x n

def anys : Nat → List L
  | 0 => []
  | n + 1 => .any :: anys n
def lits (k : IntKind) (a : Int) : Nat → List L
  | 0 => []
  | n + 1 => .int k (.l a) :: lits k a n

/-! the equations of a run, and what it gives -/
theorem runE {l : List Sem} {g : List (Nat × Ins)} {nin top : Nat} {b : Bd} {s : Sem} {o : List A} (h : runB l g nin top b = true) {xs : List Int} (hx : InB b xs) (hf : s.f xs = o.map (A.ev (vals l g xs))) :
    ∃ v : Nat → Int, vals l g xs = v ∧ seg v 0 nin = xs ∧ eqsOf l g b v ∧ True ∧ s.f xs = o.map (A.ev v) :=
  ⟨_, rfl, (run_eqs h hx).1, (run_eqs h hx).2.1, trivial, hf⟩
theorem runQ {l : List Sem} {g : List (Nat × Ins)} {nin top : Nat} {b : Bd} {q : List Asm} {o : List A} (h : runB l g nin top b = true) {xs : List Int} (hx : InB b xs) :
    ∃ v : Nat → Int, vals l g xs = v ∧ seg v 0 nin = xs ∧ eqsOf l g b v ∧ True ∧ CondHold v q = CondHold v q ∧ o.map (A.ev v) = o.map (A.ev v) :=
  ⟨_, rfl, (run_eqs h hx).1, (run_eqs h hx).2.1, trivial, rfl, rfl⟩

end Go.X
