/-
  A part of the proof of YtkjhclknbkleoaaGreat: texts X18, X19, X20, X21, X22, X23, X24, X25, X26. No conditions.
-/
import Derived.Test.YtkjhclknbkleoaaGreatT02
import Derived.Laws.BitsLemmas
import Derived.Laws.Closers25b
import Derived.Laws.Externs
namespace Go.X

section
variable {P : Program} {F : Fns} {pr : Prs} {I : World → Prop} {base : Nat} {ts : List Tmpl} {nt : Nat} {E : Env} {σ0 : Plc} {M0 : Mem} {w0 : World} {ops : Array Oper} {rs : List Rc} {T T' : Tm} {M M' : Mem} {g g' : G} {Q : Exit → Act → World → Prop}

theorem next_w (rs : List Rc) (n : Nat) : ∀ (m i : Nat), n = i + m → i ≤ n → ∃ c, i ≤ c ∧ c ≤ n ∧ (c < n → ∃ rc, rs[c]? = some rc ∧ isW rc.eff = true) ∧ ∀ (j : Nat) (rc : Rc), i ≤ j → j < c → rs[j]? = some rc → isW rc.eff = false
  | 0, i, h, hi => ⟨i, Nat.le_refl _, hi, by omega, fun j rc h1 h2 => by omega⟩
  | m + 1, i, h, hi => by
    by_cases hw : ∃ rc, rs[i]? = some rc ∧ isW rc.eff = true
    · exact ⟨i, Nat.le_refl _, hi, fun _ => hw, fun j rc h1 h2 => by omega⟩
    · obtain ⟨c, h1, h2, h3, h4⟩ := next_w rs n m (i + 1) (by omega) (by omega)
      refine ⟨c, by omega, h2, h3, ?_⟩
      intro j rc hj1 hj2 hr
      by_cases e : j = i
      · subst e
        cases hb : isW rc.eff with
        | false => rfl
        | true => exact absurd ⟨rc, hr, hb⟩ hw
      · exact h4 j rc (by omega) hj2 hr

theorem DI.step {D : Nat → Prop} {σ : Plc} {a : Act} {w : World} {i : Nat} {o : Oper} {K : Act → World → Prop} (cx : Cx P F pr I base ts E) (hrec : recList P ts nt ops ops.toList T M g = some (rs, T', M', g'))
    (hd : Dr P ts nt ops T M g' rs T' M') (hs : Sat F E.ρ g'.ssa) (hh : Hold pr E.ρ g'.asm)
    (h : DI P I base E nt ops rs σ0 M0 w0 T M M' g'.wr D σ a w) (hM : M0.length ≤ M.length) (ho : ops.toList[i]? = some o) (hpre : ∀ e ∈ o.after.toList, Region.binds .any e = true → D e.on) (hni : ¬ D i)
    (hK : ∀ σ' a' w', DI P I base E nt ops rs σ0 M0 w0 T M M' g'.wr (fun k => D k ∨ k = i) σ' a' w' → K a' w') : wpOp P ops Q i K a w := by
  obtain ⟨rc, hr, hok, hnext⟩ := hd.spec i o ho
  have hoa : ops[i]? = some o := by rw [← Array.getElem?_toList]; exact ho
  -- the slots that the operation looks at
  have hlook : ∀ t, t ∈ looks ops o → (lk rc.T0 t).Den E σ (a.tmps.getD t undef) := by
    intro t ht
    have hpair : ∀ (k : Nat) (ok : Oper) (rk : Rc), k ≠ i → ops.toList[k]? = some ok → rs[k]? = some rk → ok.dst = some t → (k < i ∧ D k) ∨ (i < k ∧ ¬ D k) := by
      intro k ok rk hne hk hrk hdst
      obtain ⟨ci, ck, hci, hck, hp⟩ := hd.pair i k o ok rc rk ho hk hr hrk
      unfold pairB at hp
      rw [beq_ff (Ne.symm hne)] at hp
      simp only [hdst, Bool.and_eq_true] at hp
      have hl := hp.1.2
      have hany : (looks ops o).any (Nat.beq t) = true := List.any_eq_true.2 ⟨t, ht, beq_tt t⟩
      rw [hany] at hl
      simp only [Bool.not_true, Bool.false_or] at hl
      exact ord_way h.closed ho hk hci hck hl hpre hni
    refine (recList_text (v := a.tmps.getD t undef) (t := t) (σ := σ) hrec hh).1 i rc hr ?_ ?_
    · intro j oj rj hj hoj hrj hdst
      rcases hpair j oj rj (by omega) hoj hrj hdst with ⟨_, hD⟩ | ⟨h1, _⟩
      · exact h.put t j oj rj hD hoj hrj hdst
      · omega
    · intro hno
      refine h.old t ?_
      intro k ok hD hk hdst
      by_cases e : k = i
      · subst e; exact hni hD
      · obtain ⟨rk, hrk, _⟩ := hd.spec k ok hk
        rcases hpair k ok rk e hk hrk hdst with ⟨h1, _⟩ | ⟨_, h2⟩
        · exact hno k ok h1 hk hdst
        · exact h2 hD
  have hh1 : Hold pr E.ρ rc.g.asm := hh.mono hok.gle
  obtain ⟨_, _, hwant, hT⟩ := guardB_sound (E := E) (σ := σ) (tmps := a.tmps) hok.guard hh1 (fun j want d hg hdst => hlook d (by
    unfold looks; rw [hg]; simp only [hdst]; simp))
  have hopd : ∀ x ∈ o.op.operands, (opd rc.T x).Den E σ (a.eval x) := by
    intro x hx
    cases x with
    | tmp t => exact hT t _ (hlook t (by
        unfold looks
        refine List.mem_append_left _ (List.mem_filterMap.2 ⟨.tmp t, Array.mem_toList_iff.2 hx, rfl⟩)))
    | const v => exact ofV_den E σ v
    | func f => exact ⟨[], rfl, .nil⟩
    | global g => rfl
  have hmono := fun {i j} => memAt_grow hd (i := i) (j := j)
  have hMi : M.length ≤ (memAt rs M' i).length := by rw [← hd.start]; exact hmono (Nat.zero_le _)
  have hin := lt_of_get ho
  -- regions that the operation will lay are not there yet
  have hnone : ∀ r, (memAt rs M' i).length ≤ r → r < (memAt rs M' (i + 1)).length → σ r = none := by
    intro r h1 h2
    cases hσ : σ r with
    | none => rfl
    | some p =>
      rcases h.dom r p hσ with h3 | ⟨k, hD, h4, h5⟩
      · omega
      · have hne : k ≠ i := fun e => hni (e ▸ hD)
        rcases Nat.lt_or_gt_of_ne hne with h6 | h6
        · have := hmono (i := k + 1) (j := i) (by omega); omega
        · have := hmono (i := i + 1) (j := k) (by omega); omega
  obtain ⟨c, hc1, hc2, hc3, hmi⟩ := h.mem
  unfold wpOp
  rw [hoa]
  simp only []
  cases hw : rc.want with
  | false =>
    rw [hw] at hwant
    rw [if_neg (by rw [hwant]; simp)]
    obtain ⟨hval, heff⟩ := hok.no hw
    refine hK σ _ w (h.more hd ho hr hpre hni (Plc.le_refl σ) (v := undef) (by rw [hval]; exact ⟨[], rfl, .nil⟩) ⟨c, hc1, ?_, fun j rj hj hrj hwj => .inl (hc3 j rj hj hrj hwj), hmi⟩ (fun r p hp => .inl hp) (by rw [hnext, heff, memAt_rc hr]; intro r h1 h2; simp [effM] at h2; omega))
    intro hlt
    obtain ⟨h1, rc', h2, h3⟩ := hc2 hlt
    refine ⟨?_, rc', h2, h3⟩
    rintro (h4 | rfl)
    · exact h1 h4
    · rw [hr] at h2; cases h2
      rw [heff] at h3; cases h3
  | true =>
    rw [hw] at hwant
    rw [if_pos hwant]
    refine .inl ?_
    obtain ⟨r, hstep, hval, heff, hrle⟩ := hok.yes hw
    cases hisw : isW rc.eff with
    | false =>
      -- a quiet operation
      have hquiet : ∃ news, rc.eff = .quiet news := by
        cases he : rc.eff with
        | quiet n => exact ⟨n, rfl⟩
        | write _ _ => rw [he] at hisw; cases hisw
      obtain ⟨news, hnews⟩ := hquiet
      have hnext' : memAt rs M' (i + 1) = memAt rs M' i ++ news := by rw [hnext, hnews, memAt_rc hr]; rfl
      -- the last step, from what the operation leaves
      have fin : ∀ (n : Nat) (nw : Mem) (s : S) (v : Value) (w' : World) (σ' : Plc), QPost base E σ n nw w s v w' σ' → (nw ≠ [] → n = (memAt rs M' i).length ∧ nw = news) → s = rc.val →
          (∀ j cs, nw[j]? = some cs → ∀ cs', (memAt rs M' c)[n + j]? = some cs' → cs' = cs) → (nw = [] → news = []) → K (a.put o.dst v) w' := by
        intro n nw s v w' σ' hq hn hsv hlay hne
        subst hsv
        refine hK σ' _ w' (h.more hd ho hr hpre hni hq.le hq.den ⟨c, hc1, ?_, fun j rj hj hrj hwj => .inl (hc3 j rj hj hrj hwj), hmi.quiet cx.st hq (fun e => by have := (hn e).1; omega) hlay⟩ ?_ ?_)
        · intro hlt
          obtain ⟨h1, rc', h2, h3⟩ := hc2 hlt
          refine ⟨?_, rc', h2, h3⟩
          rintro (h4 | rfl)
          · exact h1 h4
          · rw [hr] at h2; cases h2
            rw [hisw] at h3; cases h3
        · intro x p hx
          by_cases e : nw = []
          · subst e
            rw [hq.same x (by simp; omega)] at hx; exact .inl hx
          · obtain ⟨e1, e2⟩ := hn e
            by_cases hx2 : x < n ∨ n + nw.length ≤ x
            · rw [hq.same x hx2] at hx; exact .inl hx
            · rw [hnext', List.length_append, ← e1, ← e2]
              exact .inr (by omega)
        · intro x h1 h2
          rw [hnext', List.length_append] at h2
          by_cases e : nw = []
          · rw [hne e] at h2; simp at h2; omega
          · obtain ⟨e1, e2⟩ := hn e
            obtain ⟨q, q1, _⟩ := hq.news.at_ (x - n) _ (List.getElem?_eq_getElem (by rw [e2]; omega))
            rw [show n + (x - n) = x from by omega] at q1
            exact ⟨q, q1⟩
      cases hfree : freeB P (memsOf rs M') o rc with
      | true =>
        -- the memory does not matter
        unfold freeB at hfree
        rw [hw] at hfree
        simp only [Bool.not_true, Bool.false_or, Bool.or_eq_true] at hfree
        rcases hfree with hp | hp
        · obtain ⟨hst, hq⟩ := pure_any (M' := []) hp hstep
          have hm0 : MRep base E σ [] w := ⟨fun r p cs _ hm => by simp at hm, fun r r' p p' cs cs' _ _ _ hm => by simp at hm, hmi.m.bas, hmi.m.lt⟩
          refine (opStep_sound cx.tm cx.gh hst (hs.mono hrle) (hh.mono hrle) hopd hm0 hmi.inv hmi.ble (by rw [hq]; exact fun j hj => by simp at hj) ?_).2.2
          intro v w' hpost
          unfold Post at hpost
          rw [hq] at hpost
          obtain ⟨σ', hpost⟩ := hpost
          exact fin 0 [] r.s v w' σ' hpost (fun e => absurd rfl e) hval.symm (by simp) (fun _ => by rw [heff, (pure_any (M' := rc.M) hp hstep).2] at hnews; cases hnews; rfl)
        · unfold floatB at hp
          split at hp
          · rename_i t x hop
            split at hp
            · rename_i r' off hx
              have hmem : memAt rs M' c ∈ memsOf rs M' := by
                unfold memsOf
                by_cases hlt : c < ops.toList.length
                · obtain ⟨_, rcc, h2, h3⟩ := hc2 hlt
                  rw [memAt_rc h2]
                  exact List.mem_append_left _ (List.mem_map_of_mem (List.mem_filter.2 ⟨List.mem_of_getElem? h2, h3⟩))
                · have : c = ops.toList.length := by omega
                  rw [this, memAt_end hd]; simp
              have := List.all_eq_true.1 hp _ hmem
              split at this
              · rename_i rl hl
                have hsv := sBeq_eq this
                obtain ⟨hg1, hq⟩ := stLoad_ptr hl
                have hst : opStep P ts rc.T (memAt rs M' c) rc.g o = some rl := by
                  unfold opStep; rw [hop]; simp only [hx]; exact hl
                refine (opStep_sound cx.tm cx.gh hst (by rw [hg1]; exact hs.mono hok.gle) (by rw [hg1]; exact hh1) hopd hmi.m hmi.inv hmi.ble (by rw [hq]; exact fun j hj => by simp at hj) ?_).2.2
                intro v w' hpost
                unfold Post at hpost
                rw [hq] at hpost
                obtain ⟨σ', hpost⟩ := hpost
                exact fin _ [] rl.s v w' σ' hpost (fun e => absurd rfl e) hsv (by simp) (fun _ => by rw [heff, load_quiet hop hstep] at hnews; cases hnews; rfl)
              · cases this
            · cases hp
          · cases hp
      | false =>
        -- ordered with every write
        have hord : ∀ (k : Nat) (ok : Oper) (rk : Rc), k ≠ i → ops.toList[k]? = some ok → rs[k]? = some rk → isW rk.eff = true → (k < i ∧ D k) ∨ (i < k ∧ ¬ D k) := by
          intro k ok rk hne hk hrk hwk
          obtain ⟨ck, ci, hck, hci, hp⟩ := hd.pair k i ok o rk rc hk ho hrk hr
          unfold pairB at hp
          rw [beq_ff hne] at hp
          simp only [Bool.and_eq_true] at hp
          have h2 := hp.2
          rw [hwk, hfree] at h2
          simp only [Bool.not_true, Bool.false_or, Bool.and_false, Bool.or_false] at h2
          have h3 : ordB i ci k ck = true := by
            unfold ordB at h2 ⊢
            rw [Bool.or_comm]; exact h2
          exact ord_way h.closed ho hk hci hck h3 hpre hni
        have hic : i < c := by
          rcases Nat.lt_or_ge i c with h1 | h1
          · exact h1
          · exfalso
            have hlt : c < ops.toList.length := by omega
            obtain ⟨hnD, rcc, h2, h3⟩ := hc2 hlt
            have hne : c ≠ i := by rintro rfl; rw [hr] at h2; cases h2; rw [hisw] at h3; cases h3
            rcases hord c _ rcc hne (List.getElem?_eq_getElem hlt) h2 h3 with ⟨_, h4⟩ | ⟨h4, _⟩
            · exact hnD h4
            · omega
        have hno : ∀ (j : Nat) (rj : Rc), i ≤ j → j < c → rs[j]? = some rj → isW rj.eff = false := by
          intro j rj h1 h2 hrj
          by_cases e : j = i
          · subst e; rw [hr] at hrj; cases hrj; exact hisw
          · cases hb : isW rj.eff with
            | false => rfl
            | true =>
              have hjl : j < ops.toList.length := by omega
              rcases hord j _ rj e (List.getElem?_eq_getElem hjl) hrj hb with ⟨h4, _⟩ | ⟨_, h4⟩
              · omega
              · exact absurd (hc3 j rj h2 hrj hb) h4
        obtain ⟨X, hX⟩ := memAt_pre hd (Nat.le_of_lt hic) hc1 hno
        obtain ⟨Y, hY⟩ := memAt_pre hd (i := i + 1) (c := c) (by omega) hc1 (fun j rj h1 h2 => hno j rj (by omega) h2)
        have hmr : MRep base E σ rc.M w := by
          have := hmi.m
          rw [hX, memAt_rc hr] at this
          exact this.pre
        have hfr : Free σ rc.M r.eff := by
          rw [← heff, hnews]
          intro j hj
          refine hnone _ (by rw [memAt_rc hr]; omega) ?_
          rw [hnext', List.length_append, memAt_rc hr]; omega
        refine (opStep_sound cx.tm cx.gh hstep (hs.mono hrle) (hh.mono hrle) hopd hmr hmi.inv hmi.ble hfr ?_).2.2
        intro v w' hpost
        unfold Post at hpost
        rw [← heff, hnews] at hpost
        obtain ⟨σ', hpost⟩ := hpost
        refine fin _ news r.s v w' σ' hpost (fun _ => ⟨by rw [memAt_rc hr], rfl⟩) hval.symm ?_ (fun e => e)
        intro j cs hj cs' hj'
        rw [hY, hnext', memAt_rc hr] at hj'
        have := lt_of_get hj
        rw [List.getElem?_append_left (by simp; omega), List.getElem?_append_right (by omega), show rc.M.length + j - rc.M.length = j from by omega, hj] at hj'
        cases hj'; rfl
    | true =>
      -- a write
      have hord : ∀ (k : Nat) (ok : Oper) (rk : Rc), k ≠ i → ops.toList[k]? = some ok → rs[k]? = some rk → (isW rk.eff = true ∨ freeB P (memsOf rs M') ok rk = false) → (k < i ∧ D k) ∨ (i < k ∧ ¬ D k) := by
        intro k ok rk hne hk hrk hwk
        obtain ⟨ci, ck, hci, hck, hp⟩ := hd.pair i k o ok rc rk ho hk hr hrk
        unfold pairB at hp
        rw [beq_ff (Ne.symm hne)] at hp
        simp only [Bool.and_eq_true] at hp
        have h2 := hp.2
        rw [hisw] at h2
        have h3 : ordB i ci k ck = true := by
          rcases hwk with h4 | h4
          · rw [h4] at h2
            simpa using h2
          · rw [h4] at h2
            simpa using h2
        exact ord_way h.closed ho hk hci hck h3 hpre hni
      have hci : c = i := by
        rcases Nat.lt_trichotomy c i with h1 | h1 | h1
        · exfalso
          obtain ⟨hnD, rcc, h2, h3⟩ := hc2 (by omega)
          rcases hord c _ rcc (by omega) (List.getElem?_eq_getElem (by omega)) h2 (.inl h3) with ⟨_, h4⟩ | ⟨h4, _⟩
          · exact hnD h4
          · omega
        · exact h1
        · exact absurd (hc3 i rc h1 hr hisw) hni
      subst hci
      have hfr : ∀ x, rc.M.length ≤ x → σ x = none := by
        intro x hx
        cases hσ : σ x with
        | none => rfl
        | some p =>
          rw [← memAt_rc (M' := M') hr] at hx
          rcases h.dom x p hσ with h3 | ⟨k, hD, h4, h5⟩
          · omega
          · have hne : k ≠ c := fun e => hni (e ▸ hD)
            have hk := h.dlt k hD
            obtain ⟨rk, hrk, _, hnk⟩ := hd.spec k _ (List.getElem?_eq_getElem hk)
            rcases Nat.lt_or_gt_of_ne hne with h6 | h6
            · have := hmono (i := k + 1) (j := c) (by omega); omega
            · exfalso
              have hwk : isW rk.eff = true ∨ freeB P (memsOf rs M') (ops.toList[k]) rk = false := by
                cases hf : freeB P (memsOf rs M') ops.toList[k] rk with
                | false => exact .inr rfl
                | true =>
                  have := free_none hd (List.getElem?_eq_getElem hk) hrk hf
                  rw [hnk, this] at h5
                  rw [memAt_rc hrk] at h4
                  simp [effM] at h5
                  omega
              rcases hord k _ rk hne (List.getElem?_eq_getElem hk) hrk hwk with ⟨h7, _⟩ | ⟨_, h7⟩
              · omega
              · exact h7 hD
      have hmr : MI I base E σ0 M0 w0 σ rc.M g'.wr w := by rw [← memAt_rc (M' := M') hr]; exact hmi
      have hstd := opStep_sound (Q := Q) (next := fun _ _ => True) cx.tm cx.gh hstep (hs.mono hrle) (hh.mono hrle) hopd hmr.m hmr.inv hmr.ble (Free.of hfr _) (fun _ _ _ => trivial)
      refine (opStep_sound cx.tm cx.gh hstep (hs.mono hrle) (hh.mono hrle) hopd hmr.m hmr.inv hmr.ble (Free.of hfr _) ?_).2.2
      intro v w' hpost
      have hwok : WrOk ({ r with g := g' } : R) := by
        have := hstd.2.1
        unfold WrOk at this ⊢
        split at this
        · rename_i he; simp only [he]
        · rename_i he; simp only [he]; exact fun x hx => hrle.wr x (this x hx)
      obtain ⟨σ', hσ', hsm0, hdm0, hden, hm'⟩ := (hmr.full hfr).step (r := { r with g := g' }) cx.st hpost (G.le_refl g') hwok
      have hm'' : MInv I base E σ0 M0 w0 σ' (memAt rs M' (c + 1)) g' w' := by rw [hnext, heff]; exact hm'
      obtain ⟨c', d1, d2, d3, d4⟩ := next_w rs ops.toList.length (ops.toList.length - (c + 1)) (c + 1) (by omega) (by omega)
      obtain ⟨X, hX⟩ := memAt_pre hd d1 d2 d4
      refine hK σ' _ w' (h.more hd ho hr hpre hni hσ' (by rw [hval]; exact hden) ⟨c', d2, ?_, ?_, by rw [hX]; exact hm''.mi.under hm''.free X⟩ ?_ (by rw [hnext, heff, memAt_rc hr]; exact hdm0))
      · intro hlt
        obtain ⟨rcc, e1, e2⟩ := d3 hlt
        refine ⟨?_, rcc, e1, e2⟩
        rintro (h4 | h4)
        · rcases hord c' _ rcc (by omega) (List.getElem?_eq_getElem hlt) e1 (.inl e2) with ⟨h5, _⟩ | ⟨_, h5⟩
          · omega
          · exact h5 h4
        · omega
      · intro j rj hj hrj hwj
        rcases Nat.lt_trichotomy j c with h1 | h1 | h1
        · exact .inl (hc3 j rj h1 hrj hwj)
        · exact .inr h1
        · have := d4 j rj (by omega) hj hrj
          rw [this] at hwj; cases hwj
      · intro x p hx
        by_cases h1 : x < (memAt rs M' c).length
        · left
          have hsm : σ' x = σ x := hsm0 x (by rw [← memAt_rc (M' := M') hr]; exact h1)
          rw [← hsm]; exact hx
        · right
          refine ⟨by omega, ?_⟩
          rcases Nat.lt_or_ge x (memAt rs M' (c + 1)).length with h2 | h2
          · exact h2
          · rw [hm''.free x h2] at hx; cases hx

end
end Go.X

namespace Go.X

section
variable {P : Program} {F : Fns} {pr : Prs} {I : World → Prop} {base : Nat} {ts : List Tmpl} {nt : Nat} {E : Env} {σ0 : Plc} {M0 : Mem} {w0 : World} {ops : Array Oper} {rs : List Rc} {T T' : Tm} {M M' : Mem} {g g' : G} {Q : Exit → Act → World → Prop}

theorem DI.done {D : Nat → Prop} {σ : Plc} {a : Act} {w : World} (hrec : recList P ts nt ops ops.toList T M g = some (rs, T', M', g')) (hd : Dr P ts nt ops T M g' rs T' M') (hh : Hold pr E.ρ g'.asm)
    (h : DI P I base E nt ops rs σ0 M0 w0 T M M' g'.wr D σ a w) (hall : ∀ k, k < ops.toList.length → D k) : Inv I base E nt σ0 M0 w0 σ T' M' g' a w := by
  obtain ⟨c, hc1, hc2, hc3, hmi⟩ := h.mem
  have hc : c = ops.toList.length := by
    rcases Nat.lt_or_ge c ops.toList.length with h1 | h1
    · exact absurd (hall c h1) (hc2 h1).1
    · omega
  subst hc
  rw [memAt_end hd] at hmi
  have hfree : ∀ r, M'.length ≤ r → σ r = none := by
    intro r hr
    cases hσ : σ r with
    | none => rfl
    | some p =>
      rw [← memAt_end hd] at hr
      have h0 : M.length ≤ (memAt rs M' ops.toList.length).length := by rw [← hd.start]; exact memAt_grow hd (Nat.zero_le _)
      rcases h.dom r p hσ with h1 | ⟨k, hD, _, h2⟩
      · omega
      · have := memAt_grow hd (i := k + 1) (j := ops.toList.length) (h.dlt k hD)
        omega
  refine (hmi.full hfree).with ⟨?_, h.size, h.defers⟩ ?_
  case refine_2 =>
    intro r h1 h2
    by_cases hM : r < M.length
    · exact h.sdom r h1 hM
    · -- the operation that laid it
      have key : ∀ n, n ≤ ops.toList.length → r < (memAt rs M' n).length → ∃ p, σ r = some p := by
        intro n
        induction n with
        | zero => intro _ h3; rw [hd.start] at h3; omega
        | succ n ih =>
          intro h4 h3
          by_cases h5 : r < (memAt rs M' n).length
          · exact ih (by omega) h5
          · exact h.rdom n (hall n (by omega)) r (by omega) h3
      exact key ops.toList.length (Nat.le_refl _) (by rw [memAt_end hd]; exact h2)
  intro t
  refine (recList_text (v := a.tmps.getD t undef) (t := t) (σ := σ) hrec hh).2 ?_ ?_
  · intro j o rj ho hr hdst
    exact h.put t j o rj (hall j (lt_of_get ho)) ho hr hdst
  · intro hno
    exact h.old t fun k o _ ho => hno k o ho

theorem mem_ready {ops : Array Oper} {listed : Array Bool} {i : Nat} : i ∈ Region.ready .any ops listed ↔ ∃ o, ops.toList[i]? = some o ∧ listed.getD i true = false ∧ ∀ e ∈ o.after.toList, Region.binds .any e = true → listed.getD e.on false = true := by
  unfold Region.ready
  simp only [List.mem_filter, List.mem_range, Bool.and_eq_true, Bool.not_eq_true']
  constructor
  · rintro ⟨h1, h2, h3⟩
    have ho : ops[i]? = some ops[i] := by simp [h1]
    rw [ho] at h3
    simp only [Option.map_some, Option.getD_some, Array.all_eq_true_iff_forall_mem, Bool.or_eq_true, Bool.not_eq_true'] at h3
    refine ⟨ops[i], by simp [h1], h2, ?_⟩
    intro e he hb
    rcases h3 e (Array.mem_toList_iff.1 he) with h | h
    · rw [h] at hb; cases hb
    · exact h
  · rintro ⟨o, h1, h2, h3⟩
    have hlt : i < ops.size := by simpa using lt_of_get h1
    refine ⟨hlt, h2, ?_⟩
    have ho : ops[i]? = some o := by rw [← Array.getElem?_toList]; exact h1
    rw [ho]
    simp only [Option.map_some, Option.getD_some, Array.all_eq_true_iff_forall_mem, Bool.or_eq_true, Bool.not_eq_true']
    intro e he
    cases hb : Region.binds .any e with
    | false => exact .inl rfl
    | true => exact .inr (h3 e (Array.mem_toList_iff.2 he) hb)

theorem all_of_ready (hd : Dr P ts nt ops T M g' rs T' M') {listed : Array Bool} (hsz : listed.size = ops.toList.length) (h : Region.ready .any ops listed = []) : ∀ k, k < ops.toList.length → listed.getD k false = true := by
  intro k
  induction k using Nat.strongRecOn with
  | _ k ih =>
    intro hk
    cases hl : listed.getD k false with
    | true => rfl
    | false =>
      exfalso
      have ho := List.getElem?_eq_getElem (l := ops.toList) hk
      have hm : k ∈ Region.ready .any ops listed := by
        refine mem_ready.2 ⟨_, ho, ?_, ?_⟩
        · have hlt : k < listed.size := by omega
          simp only [Array.getD_eq_getD_getElem?, hlt, getElem?_pos, Option.getD_some] at hl ⊢
          exact hl
        · intro e he hb
          have := hd.pred k _ ho e he hb
          exact ih e.on this (by omega)
      rw [h] at hm; cases hm

theorem draw_any (cx : Cx P F pr I base ts E) (hrec : recList P ts nt ops ops.toList T M g = some (rs, T', M', g'))
    (hd : Dr P ts nt ops T M g' rs T' M') (hs : Sat F E.ρ g'.ssa) (hh : Hold pr E.ρ g'.asm) (hM : M0.length ≤ M.length) (hq : ∀ σ' a' w', Inv I base E nt σ0 M0 w0 σ' T' M' g' a' w' → Q .normal a' w') :
    ∀ (fuel : Nat) (listed : Array Bool) (σ : Plc) (a : Act) (w : World), listed.size = ops.toList.length → listed.toList.countP (fun b => !b) = fuel → DI P I base E nt ops rs σ0 M0 w0 T M M' g'.wr (fun k => listed.getD k false = true) σ a w →
      wpAny P .any ops Q fuel listed a w
  | 0, listed, σ, a, w, hsz, hc, h => by
    have hall : ∀ k, k < ops.toList.length → listed.getD k false = true := by
      intro k hk
      have := List.countP_eq_zero.1 hc (listed[k]'(by omega)) (by simp)
      simp only [Array.getD_eq_getD_getElem?, show k < listed.size from by omega, getElem?_pos, Option.getD_some]
      simpa using this
    refine ⟨?_, hq σ a w (h.done hrec hd hh hall)⟩
    apply List.eq_nil_iff_forall_not_mem.2
    intro i hi
    obtain ⟨o, ho, h2, _⟩ := mem_ready.1 hi
    have := hall i (lt_of_get ho)
    have hlt : i < listed.size := by have := lt_of_get ho; omega
    simp only [Array.getD_eq_getD_getElem?, hlt, getElem?_pos, Option.getD_some] at this h2
    rw [this] at h2; cases h2
  | fuel + 1, listed, σ, a, w, hsz, hc, h => by
    refine ⟨fun hr => hq σ a w (h.done hrec hd hh (all_of_ready hd hsz hr)), ?_⟩
    intro i hi
    obtain ⟨o, ho, h2, h3⟩ := mem_ready.1 hi
    have hlt : i < listed.size := by have := lt_of_get ho; omega
    have hlf : listed[i]? = some false := by
      simp only [Array.getD_eq_getD_getElem?, hlt, getElem?_pos, Option.getD_some] at h2
      simp [hlt, h2]
    refine h.step cx hrec hd hs hh hM ho h3 (by simp [Array.getD_eq_getD_getElem?, hlf]) ?_
    intro σ' a' w' h'
    refine draw_any cx hrec hd hs hh hM hq fuel _ σ' a' w' (by simp [hsz]) ?_ ?_
    · have := count_set listed.toList i (by simpa using hlf)
      rw [Array.toList_setIfInBounds]
      omega
    · have e : (fun k => (listed.setIfInBounds i true).getD k false = true) = (fun k => listed.getD k false = true ∨ k = i) := by
        funext k
        apply propext
        simp only [Array.getD_eq_getD_getElem?]
        by_cases e : i = k
        · subst e; simp [hlt]
        · simp [Array.getElem?_setIfInBounds_ne e, Ne.symm e]
      rw [e]; exact h'

theorem draw_sound (cx : Cx P F pr I base ts E) (hrec : recList P ts nt ops ops.toList T M g = some (rs, T', M', g')) (hok : drawOk P ops rs M' = true) (hs : Sat F E.ρ g'.ssa) (hh : Hold pr E.ρ g'.asm) {id : Nat} {σ : Plc} {a : Act} {w : World}
    (hi : Inv I base E nt σ0 M0 w0 σ T M g a w) (hq : ∀ σ' a' w', Inv I base E nt σ0 M0 w0 σ' T' M' g' a' w' → Q .normal a' w') : (Code.region id ops true).wp P Q a w := by
  have hd := dr_of hrec hok
  refine wp_region_any cx.mix ?_
  refine draw_any cx hrec hd hs hh hi.grow hq ops.size _ σ a { w with drawn := w.drawn + 1 } (by simp) (by simp [List.countP_replicate]) ?_
  have hev := Ev.drew w (fun _ _ => False)
  have hgf : ∀ k, ¬ ((Array.replicate ops.size false).getD k false = true) := by
    intro k hk
    simp [Array.getD_eq_getD_getElem?, Array.getElem?_replicate] at hk
    split at hk <;> simp at hk
  have hmi : MI I base E σ0 M0 w0 σ M g'.wr { w with drawn := w.drawn + 1 } := by
    have hg := recList_le hrec
    have h0 := (hi.mem.g hg.wr).mi
    have hq0 : QPost base E σ 0 [] w (.tup []) undef { w with drawn := w.drawn + 1 } σ := ⟨fun _ _ => rfl, Plc.le_refl σ, ⟨[], rfl, .nil⟩, News.nil _ _ _ _ _ _, hev⟩
    exact h0.quiet cx.st hq0 (fun e => absurd rfl e) (by simp)
  refine ⟨fun k o hk => absurd hk (hgf k), fun k hk => absurd hk (hgf k), fun t k o rc hk => absurd hk (hgf k), fun t _ => hi.t.get t, hi.t.size, hi.t.defers, ?_, ?_, fun k hk => absurd hk (hgf k), hi.dom⟩
  · obtain ⟨c, d1, d2, d3, d4⟩ := next_w rs ops.toList.length ops.toList.length 0 (by omega) (by omega)
    obtain ⟨X, hX⟩ := memAt_pre hd d1 d2 d4
    refine ⟨c, d2, fun hlt => ⟨hgf c, d3 hlt⟩, ?_, ?_⟩
    · intro j rj hj hrj hwj
      have := d4 j rj (by omega) hj hrj
      rw [this] at hwj; cases hwj
    · rw [hX, hd.start]
      exact hmi.under hi.free X
  · intro r p hr
    left
    rcases Nat.lt_or_ge r M.length with h1 | h1
    · exact h1
    · rw [hi.free r h1] at hr; cases hr

end

/-! ### code -/

inductive Ex where
  | normal
  | exit (id : Nat)
  | ret

def Ex.toExit : Ex → Exit
  | .normal => .normal
  | .exit id => .exit id
  | .ret => .ret

/-- a part of the code that is met by a contract: a loop, by its block's number -/
structure LTmpl where
  id : Nat
  run : Tm → Mem → G → Option (Ex × Tm × Mem × G)

/-- the bool that an if asks for -/
def condB (T : Tm) (g : G) (c : Operand) : Option (Bool × Tm × G) :=
  match c with
  | .tmp d => decideT T g d
  | .const (.bool b) => some (b, T, g)
  | _ => none

def runLoop (f : Tm → Mem → G → Option (Ex × Tm × Mem × G)) : Nat → Tm → Mem → G → Option (Ex × Tm × Mem × G)
  | 0, _, _, _ => none
  | m + 1, T, M, g => match f T M g with
    | some (.normal, T, M, g) => runLoop f m T M g
    | r => r

def runCode (P : Program) (ts : List Tmpl) (ls : List LTmpl) (nt : Nat) : Nat → Code → Tm → Mem → G → Option (Ex × Tm × Mem × G)
  | 0, _, _, _, _ => none
  | n + 1, c, T, M, g =>
    match c with
    | .skip => some (.normal, T, M, g)
    | .label _ => some (.normal, T, M, g)
    | .region _ ops false => match runList P ts nt ops ops.toList T M g with
      | some (T, M, g) => some (.normal, T, M, g)
      | none => none
    | .region _ ops true => match recList P ts nt ops ops.toList T M g with
      | some (rs, T', M', g') => match drawOk P ops rs M' with
        | true => some (.normal, T', M', g')
        | false => none
      | none => none
    | .seq x y => match runCode P ts ls nt n x T M g with
      | some (.normal, T, M, g) => runCode P ts ls nt n y T M g
      | r => r
    | .cond c x y => match condB T g c with
      | some (true, T, g) => runCode P ts ls nt n x T M g
      | some (false, T, g) => runCode P ts ls nt n y T M g
      | none => none
    | .block id body =>
      match ls.find? (fun l => Nat.beq l.id id) with
      | some l => l.run T M g
      | none => match runCode P ts ls nt n body T M g with
        | some (.exit id', T, M, g) => match Nat.beq id' id with
          | true => some (.normal, T, M, g)
          | false => some (.exit id', T, M, g)
        | r => r
    | .loop body => runLoop (runCode P ts ls nt n body) n T M g
    | .exit id => some (.exit id, T, M, g)
    | .ret => some (.ret, T, M, g)
    | _ => none

theorem condB_le {T T' : Tm} {g g' : G} {c : Operand} {b : Bool} (h : condB T g c = some (b, T', g')) : g.le g' := by
  unfold condB at h
  split at h
  · exact decideT_le h
  · cases h; exact G.le_refl _
  · cases h

/-- what a contract of a part of the code must say -/
structure LSound (P : Program) (F : Fns) (pr : Prs) (I : World → Prop) (base nt : Nat) (E : Env) (c : Code) (run : Tm → Mem → G → Option (Ex × Tm × Mem × G)) : Prop where
  le : ∀ (T T' : Tm) (M M' : Mem) (g g' : G) (ex : Ex), run T M g = some (ex, T', M', g') → g.le g'
  ok : ∀ (T T' : Tm) (M M' : Mem) (g g' : G) (ex : Ex), run T M g = some (ex, T', M', g') → Sat F E.ρ g'.ssa → Hold pr E.ρ g'.asm → ∀ (σ0 : Plc) (M0 : Mem) (w0 : World) (σ : Plc) (a : Act) (w : World) (Q : Exit → Act → World → Prop),
    Inv I base E nt σ0 M0 w0 σ T M g a w → (∀ σ' a' w', Inv I base E nt σ0 M0 w0 σ' T' M' g' a' w' → Q ex.toExit a' w') → c.wp P Q a w

/-- the blocks of a code -/
inductive HasBlock : Code → Nat → Code → Prop where
  | here {id : Nat} {b : Code} : HasBlock (.block id b) id b
  | inBlock {id id' : Nat} {b x : Code} (h : HasBlock b id' x) : HasBlock (.block id b) id' x
  | seqL {x y c : Code} {id : Nat} (h : HasBlock x id c) : HasBlock (.seq x y) id c
  | seqR {x y c : Code} {id : Nat} (h : HasBlock y id c) : HasBlock (.seq x y) id c
  | condL {o : Operand} {x y c : Code} {id : Nat} (h : HasBlock x id c) : HasBlock (.cond o x y) id c
  | condR {o : Operand} {x y c : Code} {id : Nat} (h : HasBlock y id c) : HasBlock (.cond o x y) id c
  | loop {b c : Code} {id : Nat} (h : HasBlock b id c) : HasBlock (.loop b) id c

theorem runLoop_le {f : Tm → Mem → G → Option (Ex × Tm × Mem × G)} (hf : ∀ (T T' : Tm) (M M' : Mem) (g g' : G) (ex : Ex), f T M g = some (ex, T', M', g') → g.le g') :
    ∀ {m : Nat} {T T' : Tm} {M M' : Mem} {g g' : G} {ex : Ex}, runLoop f m T M g = some (ex, T', M', g') → g.le g'
  | 0, T, T', M, M', g, g', ex, h => by simp [runLoop] at h
  | m + 1, T, T', M, M', g, g', ex, h => by
    simp only [runLoop] at h
    split at h
    · rename_i T1 M1 g1 h1
      exact G.le_trans (hf _ _ _ _ _ _ _ h1) (runLoop_le hf h)
    · exact hf _ _ _ _ _ _ _ h

theorem runLoop_sound {P : Program} {F : Fns} {pr : Prs} {I : World → Prop} {base nt : Nat} {E : Env} {c : Code} {f : Tm → Mem → G → Option (Ex × Tm × Mem × G)} (hf : LSound P F pr I base nt E c f) {σ0 : Plc} {M0 : Mem} {w0 : World} {Q : Exit → Act → World → Prop} :
    ∀ {m : Nat} {T T' : Tm} {M M' : Mem} {g g' : G} {ex : Ex} {σ : Plc} {a : Act} {w : World}, runLoop f m T M g = some (ex, T', M', g') → Sat F E.ρ g'.ssa → Hold pr E.ρ g'.asm → Inv I base E nt σ0 M0 w0 σ T M g a w →
      (∀ σ' a' w', Inv I base E nt σ0 M0 w0 σ' T' M' g' a' w' → ex.toExit ≠ .normal → Q ex.toExit a' w') → Code.rounds P c Q m a w
  | 0, T, T', M, M', g, g', ex, σ, a, w, h, hs, hh, hi, hq => by simp [runLoop] at h
  | m + 1, T, T', M, M', g, g', ex, σ, a, w, h, hs, hh, hi, hq => by
    simp only [runLoop] at h
    rw [rounds_succ]
    split at h
    · rename_i T1 M1 g1 h1
      have hle := runLoop_le hf.le h
      refine hf.ok _ _ _ _ _ _ _ h1 (hs.mono hle) (hh.mono hle) _ _ _ _ _ _ _ hi ?_
      intro σ' a' w' hi'
      exact runLoop_sound hf h hs hh hi' hq
    · rename_i hne
      refine hf.ok _ _ _ _ _ _ _ h hs hh _ _ _ _ _ _ _ hi ?_
      intro σ' a' w' hi'
      cases ex with
      | normal => exact absurd h (hne _ _ _)
      | exit id => exact hq σ' a' w' hi' (by simp [Ex.toExit])
      | ret => exact hq σ' a' w' hi' (by simp [Ex.toExit])

theorem runCode_le {P : Program} {ts : List Tmpl} {ls : List LTmpl} {nt : Nat} (hl : ∀ l ∈ ls, ∀ (T T' : Tm) (M M' : Mem) (g g' : G) (ex : Ex), l.run T M g = some (ex, T', M', g') → g.le g') :
    ∀ {n : Nat} {c : Code} {T T' : Tm} {M M' : Mem} {g g' : G} {ex : Ex}, runCode P ts ls nt n c T M g = some (ex, T', M', g') → g.le g'
  | 0, c, T, T', M, M', g, g', ex, h => by simp [runCode] at h
  | n + 1, c, T, T', M, M', g, g', ex, h => by
    simp only [runCode] at h
    split at h
    · cases h; exact G.le_refl _
    · cases h; exact G.le_refl _
    · split at h
      · rename_i h1; cases h; exact runList_le h1
      · cases h
    · split at h
      · rename_i h1
        split at h
        · cases h; exact recList_le h1
        · cases h
      · cases h
    · split at h
      · rename_i h1; exact G.le_trans (runCode_le hl h1) (runCode_le hl h)
      · exact runCode_le hl h
    · split at h
      · rename_i h1; exact G.le_trans (condB_le h1) (runCode_le hl h)
      · rename_i h1; exact G.le_trans (condB_le h1) (runCode_le hl h)
      · cases h
    · split at h
      · rename_i l hl1
        exact hl l (List.mem_of_find?_eq_some hl1) _ _ _ _ _ _ _ h
      · split at h
        · rename_i h1
          split at h <;> (cases h; exact runCode_le hl h1)
        · exact runCode_le hl h
    · exact runLoop_le (fun _ _ _ _ _ _ _ h => runCode_le hl h) h
    · cases h; exact G.le_refl _
    · cases h; exact G.le_refl _
    · cases h

theorem condB_sound {pr : Prs} {E : Env} {σ : Plc} {T T' : Tm} {g g' : G} {c : Operand} {b : Bool} {a : Act} {nt : Nat} (h : condB T g c = some (b, T', g')) (hh : Hold pr E.ρ g'.asm) (ht : TRep E σ T nt a) :
    g'.wr = g.wr ∧ a.eval c = .bool b ∧ TRep E σ T' nt a := by
  unfold condB at h
  split at h
  · rename_i d
    obtain ⟨_, h2, h3, h4⟩ := decideT_sound (σ := σ) h hh
    exact ⟨h2, h3 _ (ht.get d), fun t => h4 t _ (ht.get t), ht.size, ht.defers⟩
  · cases h; exact ⟨rfl, rfl, ht⟩
  · cases h

theorem runCode_sound {P : Program} {F : Fns} {pr : Prs} {I : World → Prop} {base nt : Nat} {ts : List Tmpl} {ls : List LTmpl} {E : Env} (cx : Cx P F pr I base ts E) (hl0 : ∀ l ∈ ls, ∀ (T T' : Tm) (M M' : Mem) (g g' : G) (ex : Ex), l.run T M g = some (ex, T', M', g') → g.le g') :
    ∀ {n : Nat} {c : Code}, (∀ l ∈ ls, ∀ b, HasBlock c l.id b → LSound P F pr I base nt E (.block l.id b) l.run) → LSound P F pr I base nt E c (runCode P ts ls nt n c)
  | 0, c, hl => ⟨fun _ _ _ _ _ _ _ h => by simp [runCode] at h, fun _ _ _ _ _ _ _ h => by simp [runCode] at h⟩
  | n + 1, c, hl => by
    refine ⟨fun _ _ _ _ _ _ _ h => runCode_le hl0 h, ?_⟩
    intro T T' M M' g g' ex h hs hh σ0 M0 w0 σ a w Q hi hq
    simp only [runCode] at h
    split at h
    · cases h; exact wp_skip (hq σ a w hi)
    · cases h; exact wp_label (hq σ a w hi)
    · split at h
      · rename_i h1
        cases h
        exact wp_region_list (runList_sound cx h1 hs hh hi hq)
      · cases h
    · split at h
      · rename_i h1
        split at h
        · rename_i h2
          cases h
          exact draw_sound cx h1 h2 hs hh hi hq
        · cases h
      · cases h
    · rename_i x y
      have hx := runCode_sound (n := n) (c := x) cx hl0 (fun l hm b hb => hl l hm b (.seqL hb))
      have hy := runCode_sound (n := n) (c := y) cx hl0 (fun l hm b hb => hl l hm b (.seqR hb))
      split at h
      · rename_i h1
        have hle := runCode_le hl0 h
        refine wp_seq (hx.ok _ _ _ _ _ _ _ h1 (hs.mono hle) (hh.mono hle) _ _ _ _ _ _ _ hi ?_)
        intro σ' a' w' hi'
        exact hy.ok _ _ _ _ _ _ _ h hs hh _ _ _ _ _ _ _ hi' hq
      · rename_i hne
        refine wp_seq (hx.ok _ _ _ _ _ _ _ h hs hh _ _ _ _ _ _ _ hi ?_)
        intro σ' a' w' hi'
        cases ex with
        | normal => exact absurd h (hne _ _ _)
        | exit id => exact hq σ' a' w' hi'
        | ret => exact hq σ' a' w' hi'
    · rename_i co x y
      split at h
      · rename_i T1 g1 h1
        have hle := runCode_le hl0 h
        obtain ⟨e1, e2, e3⟩ := condB_sound (nt := nt) h1 (hh.mono hle) hi.t
        refine wp_cond_true e2 ((runCode_sound (n := n) (c := x) cx hl0 (fun l hm b hb => hl l hm b (.condL hb))).ok _ _ _ _ _ _ _ h hs hh _ _ _ _ _ _ _ ((hi.mem.g (by rw [e1]; exact fun _ h => h)).with e3 hi.dom) hq)
      · rename_i T1 g1 h1
        have hle := runCode_le hl0 h
        obtain ⟨e1, e2, e3⟩ := condB_sound (nt := nt) h1 (hh.mono hle) hi.t
        refine wp_cond_false e2 ((runCode_sound (n := n) (c := y) cx hl0 (fun l hm b hb => hl l hm b (.condR hb))).ok _ _ _ _ _ _ _ h hs hh _ _ _ _ _ _ _ ((hi.mem.g (by rw [e1]; exact fun _ h => h)).with e3 hi.dom) hq)
      · cases h
    · rename_i id body
      split at h
      · rename_i l hl1
        have hid : l.id = id := by
          have := List.find?_some hl1
          exact Nat.eq_of_beq_eq_true this
        subst hid
        exact (hl l (List.mem_of_find?_eq_some hl1) body .here).ok _ _ _ _ _ _ _ h hs hh _ _ _ _ _ _ _ hi hq
      · have hb := runCode_sound (n := n) (c := body) cx hl0 (fun l hm b hb => hl l hm b (.inBlock hb))
        split at h
        · rename_i id' T1 M1 g1 h1
          split at h
          · rename_i hid
            cases h
            have hid := Nat.eq_of_beq_eq_true hid
            subst hid
            refine wp_block (hb.ok _ _ _ _ _ _ _ h1 hs hh _ _ _ _ _ _ _ hi ?_)
            intro σ' a' w' hi'
            show (if id' = id' then Q .normal a' w' else _)
            rw [if_pos rfl]; exact hq σ' a' w' hi'
          · rename_i hid
            cases h
            refine wp_block (hb.ok _ _ _ _ _ _ _ h1 hs hh _ _ _ _ _ _ _ hi ?_)
            intro σ' a' w' hi'
            show (if id' = id then Q .normal a' w' else Q (.exit id') a' w')
            rw [if_neg (by rintro rfl; rw [beq_tt] at hid; cases hid)]; exact hq σ' a' w' hi'
        · rename_i hne
          refine wp_block (hb.ok _ _ _ _ _ _ _ h hs hh _ _ _ _ _ _ _ hi ?_)
          intro σ' a' w' hi'
          cases ex with
          | normal => exact hq σ' a' w' hi'
          | exit id' => exact absurd h (hne _ _ _ _)
          | ret => exact hq σ' a' w' hi'
    · rename_i body
      refine wp_loop_rounds n (runLoop_sound (runCode_sound (n := n) (c := body) cx hl0 (fun l hm b hb => hl l hm b (.loop hb))) h hs hh hi ?_)
      intro σ' a' w' hi' _
      exact hq σ' a' w' hi'
    · cases h; exact wp_exit (hq σ a w hi)
    · cases h; exact wp_ret (hq σ a w hi)
    · cases h

end Go.X

namespace Go.X

/-! ### a function's body, and its template -/

structure Out where
  ret : S
  mem : Mem
  g : G

def args0 : List S → Nat → Tm
  | [], _ => []
  | s :: r, i => (i, s) :: args0 r (i + 1)

def resL (P : Program) (T : Tm) (M : Mem) (g : G) : List ResultVar → Option (List S1)
  | [] => some []
  | .tmp t :: r =>
    match lk T t, resL P T M g r with
    | .one x, some xs => some (x :: xs)
    | _, _ => none
  | .cell a t :: r =>
    match lk T a with
    | .one (.lf (.ptr q off)) => match stLoad P M g t (.one (.lf (.ptr q off))), resL P T M g r with
      | some rr, some xs => match rr.s with
        | .one x => some (x :: xs)
        | _ => none
      | _, _ => none
    | _ => none

def retOf : List S1 → S
  | [x] => .one x
  | xs => .tup xs

def runBody (P : Program) (ts : List Tmpl) (ls : List LTmpl) (fn : Func) (fuel : Nat) (args : List S) (mem : Mem) (nin : Nat) (orc : List Bool) : Option Out :=
  match fn.body with
  | none => none
  | some c =>
    match Nat.ble args.length fn.ntmps with
    | false => none
    | true =>
      match runCode P ts ls fn.ntmps fuel c (args0 args 0) mem ⟨[], nin, [], orc, []⟩ with
      | some (ex, T, M, g) =>
        match ex with
        | .exit _ => none
        | _ => match resL P T M g fn.results.toList with
          | some xs => some ⟨retOf xs, M, g⟩
          | none => none
      | none => none

theorem args0_get : ∀ (args : List S) (i t : Nat), lk (args0 args i) t = if i ≤ t then (args[t - i]?).getD (.tup []) else .tup []
  | [], i, t => by simp [args0, lk]
  | s :: r, i, t => by
    simp only [args0]
    rw [lk_cons, args0_get r (i + 1) t]
    by_cases e : i = t
    · subst e; simp
    · rw [if_neg e]
      by_cases h : i ≤ t
      · rw [if_pos (by omega), if_pos h, show t - i = t - (i + 1) + 1 from by omega]; simp
      · rw [if_neg (by omega), if_neg h]

theorem args0_rep {E : Env} {σ : Plc} {args : List S} {vals : List Value} {nt : Nat} (h : All2 (S.Den E σ) args vals) (hn : args.length ≤ nt) :
    TRep E σ (args0 args 0) nt { tmps := (⟨vals⟩ : Array Value) ++ Array.replicate (nt - (⟨vals⟩ : Array Value).size) undef, defers := [] } := by
  have hl := h.length_eq
  refine ⟨?_, by simp; omega, rfl⟩
  intro t
  rw [args0_get, if_pos (Nat.zero_le _), Nat.sub_zero]
  rw [Array.getD_eq_getD_getElem?, Array.getElem?_append]
  by_cases ht : t < args.length
  · rw [if_pos (by simp; omega)]
    obtain ⟨v, hv, hd⟩ := h.get t _ (List.getElem?_eq_getElem ht)
    rw [List.getElem?_eq_getElem ht]
    simp only [List.getElem?_toArray, hv, Option.getD_some]
    exact hd
  · rw [List.getElem?_eq_none (by omega), if_neg (by simp; omega)]
    have hu : ((Array.replicate (nt - (⟨vals⟩ : Array Value).size) undef)[t - (⟨vals⟩ : Array Value).size]?).getD undef = undef := by
      rw [Array.getElem?_replicate]; split <;> rfl
    rw [hu]
    exact ⟨[], rfl, .nil⟩

def resFn (tmps : Array Value) : ResultVar → Sem Value
  | .tmp t => pure (tmps.getD t undef)
  | .cell a t => do loadVar t (← asAddr (tmps.getD a undef))

theorem results_eq (fn : Func) (tmps : Array Value) : results fn tmps = (do let vs ← fn.results.mapM (resFn tmps); pure (if h : vs.size = 1 then vs[0] else .tuple vs)) := rfl

theorem resL_den {P : Program} {F : Fns} {base : Nat} {E : Env} {σ : Plc} {T : Tm} {M : Mem} {g : G} {w : World} {tmps : Array Value} (ht : ∀ t, (lk T t).Den E σ (tmps.getD t undef)) (hm : MRep base E σ M w) (hs : Sat F E.ρ g.ssa) :
    ∀ {rs : List ResultVar} {xs : List S1}, resL P T M g rs = some xs → ∃ vs, (rs.mapM (resFn tmps)).run P w = .ok vs w ∧ All2 (S1.Den E σ) xs vs
  | [], xs, h => by simp [resL] at h; subst h; exact ⟨[], by simp, .nil⟩
  | .tmp t :: r, xs, h => by
    simp only [resL] at h
    split at h
    · rename_i x xs' hx hr
      cases h
      obtain ⟨vs, h1, h2⟩ := resL_den ht hm hs hr
      have := ht t
      rw [hx] at this
      refine ⟨tmps.getD t undef :: vs, ?_, .cons this h2⟩
      rw [List.mapM_cons]
      simp only [resFn, Sem.run_bind, Sem.run_pure, Result.andThen_ok, h1]
    · cases h
  | .cell a t :: r, xs, h => by
    simp only [resL] at h
    split at h
    · rename_i q off hq
      split at h
      · rename_i rr xs' hl hr
        split at h
        · rename_i x hx
          cases h
          obtain ⟨vs, h1, h2⟩ := resL_den ht hm hs hr
          have hd := ht a
          rw [hq] at hd
          obtain ⟨p, hp, e⟩ := hd
          obtain ⟨hg, heff⟩ := stLoad_ptr hl
          obtain ⟨_, nx, v, w', hrun, hnx, hpost⟩ := stLoad_sound (P := P) (F := F) (base := base) (w := w) hl (by rw [hg]; exact hs) (show S.Den E σ (.one (.lf (.ptr q off))) (.pointer (some (adr p off))) from ⟨p, hp, rfl⟩) hm
          have hw : w' = w ∧ nx = .value v ∧ (loadVar t (adr p off)).run P w = .ok v w := by
            rw [Sem.run_bind] at hrun
            have hla : ∀ w, (Instr.loadAt t (.pointer (some (adr p off)))).run P w = (loadVar t (adr p off)).run P w := by
              intro w; unfold Instr.loadAt; rw [Sem.run_bind, sure_ptr]; rfl
            rw [hla] at hrun
            cases hlv : (loadVar t (adr p off)).run P w with
            | halt x w1 => rw [hlv] at hrun; cases hrun
            | ok u w1 =>
              rw [hlv] at hrun
              simp only [Result.andThen_ok, Sem.run_pure, Result.ok.injEq] at hrun
              obtain ⟨rfl, rfl⟩ := hrun
              rcases hnx with e | ⟨e, _⟩
              · cases e
                suffices hww : w1 = w by exact ⟨hww, rfl, by rw [hww]⟩
                -- a load turns nothing
                unfold stLoad at hl
                simp only [] at hl
                split at hl
                · rename_i cs n hcs hag hsz
                  split at hl
                  · rename_i hle
                    obtain ⟨vs0, hl0, _, hv0, _⟩ := hm.seg hp hcs off n (Nat.le_of_ble_eq_true hle)
                    have hr0 := run_loadCells P w p off vs0 hv0
                    rw [hl0] at hr0
                    simp [loadVar, run_ag hag, run_sz hsz, hr0] at hlv
                    exact hlv.2.symm
                  · cases hl
                · rename_i cs hcs hag
                  split at hl
                  · rename_i c hc
                    obtain ⟨v0, hv0, _, _⟩ := hm.rep _ _ _ hp hcs _ _ hc
                    simp [loadVar, run_ag hag, load, Sem.run, hv0] at hlv
                    exact hlv.2.symm
                  · cases hl
                · cases hl
              · cases e
          obtain ⟨rfl, rfl, hlv⟩ := hw
          unfold Post at hpost
          rw [heff] at hpost
          obtain ⟨σ', hpost⟩ := hpost
          have hσ : σ' = σ := by funext i; exact hpost.same i (by simp; omega)
          have hden := hpost.den
          rw [hσ, hx] at hden
          refine ⟨v :: vs, ?_, .cons hden h2⟩
          rw [List.mapM_cons]
          have e0 : ∀ w, (asAddr (.pointer (some (adr p off)))).run P w = .ok (adr p off) w := fun w => by simp [asAddr]
          simp only [resFn, Sem.run_bind, e, e0, Sem.run_pure, Result.andThen_ok, hlv, h1]
        · cases h
      · cases h
    · cases h

theorem retOf_den {E : Env} {σ : Plc} {xs : List S1} {vs : List Value} (h : All2 (S1.Den E σ) xs vs) : (retOf xs).Den E σ (if h : (⟨vs⟩ : Array Value).size = 1 then (⟨vs⟩ : Array Value)[0] else .tuple ⟨vs⟩) := by
  cases h with
  | nil => exact ⟨[], rfl, .nil⟩
  | cons h1 h2 =>
    cases h2 with
    | nil => exact h1
    | cons h3 h4 =>
      rw [dif_neg (by simp)]
      exact ⟨_, rfl, .cons h1 (.cons h3 h4)⟩

/-- a run of a body by the executor is a call -/
theorem runBody_calls {P : Program} {F : Fns} {pr : Prs} {I : World → Prop} {base : Nat} {ts : List Tmpl} {ls : List LTmpl} {E : Env} (cx : Cx P F pr I base ts E) {f : FuncId} {fn : Func} {fuel : Nat} {args : List S} {mem : Mem} {nin : Nat} {orc : List Bool} {out : Out}
    (hf : P.funcs[f]? = some fn) (hr : runBody P ts ls fn fuel args mem nin orc = some out)
    (hl0 : ∀ l ∈ ls, ∀ (T T' : Tm) (M M' : Mem) (g g' : G) (ex : Ex), l.run T M g = some (ex, T', M', g') → g.le g')
    (hl : ∀ c, fn.body = some c → ∀ l ∈ ls, ∀ b, HasBlock c l.id b → LSound P F pr I base fn.ntmps E (.block l.id b) l.run)
    (hs : Sat F E.ρ out.g.ssa) (hh : Hold pr E.ρ out.g.asm) {σ : Plc} {w : World} {vals : List Value} (ha : All2 (S.Den E σ) args vals) (hm : MRep base E σ mem w) (hfree : ∀ r, mem.length ≤ r → σ r = none) (hI : I w) (hb : base ≤ w.heap.size) :
    Calls P f ⟨vals⟩ w fun e w' => ∃ v σ', e = .returned v ∧ out.ret.Den E σ' v ∧ MInv I base E σ mem w σ' out.mem out.g w' ∧ ∀ r, mem.length ≤ r → r < out.mem.length → ∃ p, σ' r = some p := by
  unfold runBody at hr
  split at hr
  · cases hr
  rename_i c hc
  split at hr
  · cases hr
  rename_i hle
  have hle := Nat.le_of_ble_eq_true hle
  split at hr
  case h_2 => cases hr
  rename_i ex T M g hrun
  have hsound := runCode_sound cx hl0 (n := fuel) (c := c) (hl c hc)
  refine calls_of_wp hf hc ?_
  have hi : Inv I base E fn.ntmps σ mem w σ (args0 args 0) mem ⟨[], nin, [], orc, []⟩ { tmps := (⟨vals⟩ : Array Value) ++ Array.replicate (fn.ntmps - (⟨vals⟩ : Array Value).size) undef, defers := [] } w :=
    ⟨args0_rep ha hle, hm, hfree, hI, hb, fun _ _ => rfl, Nat.le_refl _, fun i cs cs' h1 h2 => (by rw [h1] at h2; cases h2; rfl), fun r p h1 h2 => (by rw [hfree r h1] at h2; cases h2), Ev.refl _ _, fun r h1 h2 => absurd h1 (by omega)⟩
  have fin : ∀ (xs : List S1), resL P T M g fn.results.toList = some xs → out = ⟨retOf xs, M, g⟩ → ∀ σ' a' w', Inv I base E fn.ntmps σ mem w σ' T M g a' w' →
      a'.defers = [] ∧ ∃ v, (results fn a'.tmps).run P w' = .ok v w' ∧ ∃ v' σ', Ending.returned v = .returned v' ∧ out.ret.Den E σ' v' ∧ MInv I base E σ mem w σ' out.mem out.g w' ∧ ∀ r, mem.length ≤ r → r < out.mem.length → ∃ p, σ' r = some p := by
    intro xs hxs ho σ' a' w' hi'
    subst ho
    obtain ⟨vs, h1, h2⟩ := resL_den (F := F) hi'.t.get hi'.m hs hxs
    refine ⟨hi'.t.defers, _, ?_, _, σ', rfl, retOf_den h2, hi'.mem, hi'.dom⟩
    rw [results_eq]
    rw [Sem.run_bind, Array.mapM_eq_mapM_toList, Sem.run_map, h1]
    simp only [Result.andThen_ok, Sem.run_pure]
  split at hr
  · cases hr
  · rename_i hex
    split at hr
    · rename_i xs hxs
      cases hr
      refine hsound.ok _ _ _ _ _ _ _ hrun hs hh _ _ _ _ _ _ _ hi ?_
      intro σ' a' w' hi'
      cases ex with
      | exit id => exact absurd rfl (hex id)
      | normal => exact fin xs hxs rfl σ' a' w' hi'
      | ret => exact fin xs hxs rfl σ' a' w' hi'
    · cases hr

end Go.X

namespace Go.X

/-! ### a template out of a run -/

structure Fit where
  outs : List A
  nr : List Nat

def fA (nin : Nat) (ft : Fit) : A → Option A
  | .l n => some (.l n)
  | .v x => match Nat.blt x nin with
    | true => some (.v x)
    | false => ft.outs[x - nin]?

def fR (nm : Nat) (ft : Fit) (r : Nat) : Option Nat :=
  match Nat.blt r nm with
  | true => some r
  | false => ft.nr[r - nm]?

def simA (nin : Nat) (ft : Fit) (t a : A) : Bool :=
  match fA nin ft t with
  | some b => A.beq b a
  | none => false

def simR (nm : Nat) (ft : Fit) (r q : Nat) : Bool :=
  match fR nm ft r with
  | some b => Nat.beq b q
  | none => false

def simAs (nin : Nat) (ft : Fit) : List A → List A → Bool
  | [], [] => true
  | a :: x, b :: y => simA nin ft a b && simAs nin ft x y
  | _, _ => false

def simL (nin nm : Nat) (ft : Fit) (t x : L) : Bool :=
  match t, x with
  | .any, _ => true
  | .int k a, .int k' a' => kb k k' && simA nin ft a a'
  | .bool a, .bool a' => simA nin ft a a'
  | .ptr r o, .ptr r' o' => simR nm ft r r' && Nat.beq o o'
  | .slc r o n c, .slc r' o' n' c' => simR nm ft r r' && Nat.beq o o' && Nat.beq n n' && capOk c c'
  | .ifp t r o, .ifp t' r' o' => Nat.beq t t' && simR nm ft r r' && Nat.beq o o'
  | .gho g, .gho g' => Nat.beq g g'
  | .cst v, .cst v' => cstEq v v'
  | .str bs, .str bs' => simAs nin ft bs bs'
  | _, _ => false

def simLs (nin nm : Nat) (ft : Fit) : List L → List L → Bool
  | [], [] => true
  | a :: x, b :: y => simL nin nm ft a b && simLs nin nm ft x y
  | _, _ => false

def simS1 (nin nm : Nat) (ft : Fit) : S1 → S1 → Bool
  | .lf a, .lf b => simL nin nm ft a b
  | .agg a, .agg b => simLs nin nm ft a b
  | _, _ => false

def simS1s (nin nm : Nat) (ft : Fit) : List S1 → List S1 → Bool
  | [], [] => true
  | a :: x, b :: y => simS1 nin nm ft a b && simS1s nin nm ft x y
  | _, _ => false

def simS (nin nm : Nat) (ft : Fit) : S → S → Bool
  | .one a, .one b => simS1 nin nm ft a b
  | .tup a, .tup b => simS1s nin nm ft a b
  | _, _ => false

structure FitOk (nin nm : Nat) (ft : Fit) (Et : Env) (σt : Plc) (E : Env) (σ : Plc) : Prop where
  gv : Et.gv = E.gv
  a : ∀ t a, fA nin ft t = some a → t.ev Et.ρ = a.ev E.ρ
  r : ∀ r q, fR nm ft r = some q → ∀ p, σ q = some p → σt r = some p

section
variable {nin nm : Nat} {ft : Fit} {Et E : Env} {σt σ : Plc}

theorem simA_ev (h : FitOk nin nm ft Et σt E σ) {t a : A} (e : simA nin ft t a = true) : t.ev Et.ρ = a.ev E.ρ := by
  unfold simA at e
  split at e
  · rename_i b hb
    have := A.eq_of_beq e
    subst this
    exact h.a t b hb
  · cases e

theorem simR_at (h : FitOk nin nm ft Et σt E σ) {r q : Nat} (e : simR nm ft r q = true) {p : Nat × Nat} (hp : σ q = some p) : σt r = some p := by
  unfold simR at e
  split at e
  · rename_i b hb
    have := Nat.eq_of_beq_eq_true e
    subst this
    exact h.r r b hb p hp
  · cases e

theorem simAs_map (h : FitOk nin nm ft Et σt E σ) : ∀ {x y : List A}, simAs nin ft x y = true → x.map (A.ev Et.ρ) = y.map (A.ev E.ρ)
  | [], [], _ => rfl
  | [], _ :: _, e => by simp [simAs] at e
  | _ :: _, [], e => by simp [simAs] at e
  | a :: x, b :: y, e => by
    simp only [simAs, Bool.and_eq_true] at e
    simp [simA_ev h e.1, simAs_map h e.2]

theorem simL_den (h : FitOk nin nm ft Et σt E σ) {t x : L} {v : Value} (e : simL nin nm ft t x = true) (hd : x.Den E σ v) : t.Den Et σt v := by
  unfold simL at e
  split at e
  · trivial
  · simp only [Bool.and_eq_true] at e
    have := kb_eq e.1
    subst this
    show v = .int _ _
    rw [simA_ev h e.2]; exact hd
  · show v = .bool (_ != 0)
    rw [simA_ev h e]; exact hd
  · simp only [Bool.and_eq_true] at e
    obtain ⟨p, hp, rfl⟩ := hd
    have := Nat.eq_of_beq_eq_true e.2
    subst this
    exact ⟨p, simR_at h e.1 hp, rfl⟩
  · simp only [Bool.and_eq_true] at e
    obtain ⟨⟨⟨e1, e2⟩, e3⟩, e4⟩ := e
    obtain ⟨p, cc, hp, hl, hc, rfl⟩ := hd
    have := Nat.eq_of_beq_eq_true e2
    subst this
    have := Nat.eq_of_beq_eq_true e3
    subst this
    refine ⟨p, cc, simR_at h e1 hp, hl, ?_, rfl⟩
    intro c' hc'
    subst hc'
    unfold capOk at e4
    split at e4
    · rename_i e0; cases e0
    · rename_i a b e0; cases e0
      have := Nat.eq_of_beq_eq_true e4
      rw [this]; exact hc _ rfl
    · cases e4
  · simp only [Bool.and_eq_true] at e
    obtain ⟨⟨e1, e2⟩, e3⟩ := e
    obtain ⟨p, hp, rfl⟩ := hd
    have := Nat.eq_of_beq_eq_true e1
    subst this
    have := Nat.eq_of_beq_eq_true e3
    subst this
    exact ⟨p, simR_at h e2 hp, rfl⟩
  · have := Nat.eq_of_beq_eq_true e
    subst this
    have hd : v = E.gv _ := hd
    show v = Et.gv _
    rw [h.gv]; exact hd
  · have := cstEq_eq e
    subst this
    exact hd
  · rename_i bs bs'
    have := simAs_map h e
    have hd : v = .string ⟨(bs'.map fun a => UInt8.ofNat (a.ev E.ρ).toNat).toArray⟩ := hd
    show v = .string ⟨(bs.map fun a => UInt8.ofNat (a.ev Et.ρ).toNat).toArray⟩
    have e2 : (bs'.map fun a => UInt8.ofNat (a.ev E.ρ).toNat) = (bs'.map (A.ev E.ρ)).map fun n => UInt8.ofNat n.toNat := by simp
    have e1 : (bs.map fun a => UInt8.ofNat (a.ev Et.ρ).toNat) = (bs.map (A.ev Et.ρ)).map fun n => UInt8.ofNat n.toNat := by simp
    rw [e1, this, ← e2]; exact hd
  · cases e

theorem simLs_get (h : FitOk nin nm ft Et σt E σ) : ∀ {x y : List L}, simLs nin nm ft x y = true → x.length = y.length ∧ ∀ (i : Nat) (c : L), x[i]? = some c → ∃ d : L, y[i]? = some d ∧ ∀ v, d.Den E σ v → c.Den Et σt v
  | [], [], _ => by simp
  | [], _ :: _, e => by simp [simLs] at e
  | _ :: _, [], e => by simp [simLs] at e
  | a :: x, b :: y, e => by
    simp only [simLs, Bool.and_eq_true] at e
    obtain ⟨hl, hg⟩ := simLs_get h e.2
    refine ⟨by simp [hl], ?_⟩
    intro i c hi
    cases i with
    | zero => simp at hi; subst hi; exact ⟨b, rfl, fun v hv => simL_den h e.1 hv⟩
    | succ i => simp at hi; simpa using hg i c hi

theorem simLs_den (h : FitOk nin nm ft Et σt E σ) {x y : List L} {vs : List Value} (e : simLs nin nm ft x y = true) (hd : All2 (L.Den E σ) y vs) : All2 (L.Den Et σt) x vs := by
  obtain ⟨hl, hg⟩ := simLs_get h e
  refine All2.of_get (hl.trans hd.length_eq) ?_
  intro i c v hc hv
  obtain ⟨d, hd1, hd2⟩ := hg i c hc
  obtain ⟨u, hu, hden⟩ := hd.get i d hd1
  rw [hu] at hv; cases hv
  exact hd2 _ hden

theorem simS1_den (h : FitOk nin nm ft Et σt E σ) {x y : S1} {v : Value} (e : simS1 nin nm ft x y = true) (hd : y.Den E σ v) : x.Den Et σt v := by
  cases x with
  | lf a => cases y with
    | lf b => exact simL_den h e hd
    | agg b => cases e
  | agg a => cases y with
    | lf b => cases e
    | agg b => obtain ⟨vs, rfl, ha⟩ := hd; exact ⟨vs, rfl, simLs_den h e ha⟩

theorem simS1s_den (h : FitOk nin nm ft Et σt E σ) : ∀ {x y : List S1} {vs : List Value}, simS1s nin nm ft x y = true → All2 (S1.Den E σ) y vs → All2 (S1.Den Et σt) x vs
  | [], [], vs, _, hd => by cases hd; exact .nil
  | [], _ :: _, vs, e, _ => by simp [simS1s] at e
  | _ :: _, [], vs, e, _ => by simp [simS1s] at e
  | a :: x, b :: y, vs, e, hd => by
    simp only [simS1s, Bool.and_eq_true] at e
    cases hd with
    | cons d1 d2 => exact .cons (simS1_den h e.1 d1) (simS1s_den h e.2 d2)

theorem simS_den (h : FitOk nin nm ft Et σt E σ) {x y : S} {v : Value} (e : simS nin nm ft x y = true) (hd : y.Den E σ v) : x.Den Et σt v := by
  cases x with
  | one a => cases y with
    | one b => exact simS1_den h e hd
    | tup b => cases e
  | tup a => cases y with
    | one b => cases e
    | tup b => obtain ⟨vs, rfl, ha⟩ := hd; exact ⟨vs, rfl, simS1s_den h e ha⟩

theorem simLs_cells (h : FitOk nin nm ft Et σt E σ) {x y : List L} {w : World} {p : Nat × Nat} (e : simLs nin nm ft x y = true) (hc : CellsAt E σ w p y) : CellsAt Et σt w p x := by
  intro i c hi
  obtain ⟨d, hd, hcd⟩ := (simLs_get h e).2 i c hi
  obtain ⟨v, h1, h2, h3⟩ := hc i d hd
  exact ⟨v, h1, hcd v h2, h3⟩

end

/-- the updates, region by region -/
def simUpd (nin nm : Nat) (ft : Fit) (o : Out) : List (Option (List L)) → Nat → Bool
  | [], _ => true
  | none :: r, i => !(o.g.wr.any (Nat.beq i)) && simUpd nin nm ft o r (i + 1)
  | some cs :: r, i => (match o.mem[i]? with | some ds => simLs nin nm ft cs ds | none => false) && simUpd nin nm ft o r (i + 1)

def simNews (nin nm : Nat) (ft : Fit) (o : Out) : Mem → List Nat → Bool
  | [], [] => true
  | cs :: t, q :: r => Nat.ble nm q && (match o.mem[q]? with | some ds => simLs nin nm ft cs ds | none => false) && !(r.any (Nat.beq q)) && simNews nin nm ft o t r
  | _, _ => false

def fitsB (T : Tmpl) (o : Out) (ft : Fit) : Bool :=
  simS T.nin T.mem.length ft T.ret o.ret && Nat.beq T.upd.length T.mem.length && Nat.beq ft.outs.length T.nout && simUpd T.nin T.mem.length ft o T.upd 0 && simNews T.nin T.mem.length ft o T.news ft.nr

theorem simUpd_get {nin nm : Nat} {ft : Fit} {o : Out} : ∀ {l : List (Option (List L))} {i : Nat}, simUpd nin nm ft o l i = true →
    (∀ j, l[j]? = some none → (i + j) ∉ o.g.wr) ∧ ∀ (j : Nat) (cs : List L), l[j]? = some (some cs) → ∃ ds : List L, o.mem[i + j]? = some ds ∧ simLs nin nm ft cs ds = true
  | [], i, h => by simp
  | none :: r, i, h => by
    simp only [simUpd, Bool.and_eq_true, Bool.not_eq_true'] at h
    obtain ⟨h1, h2⟩ := simUpd_get h.2
    refine ⟨?_, ?_⟩
    · intro j hj
      cases j with
      | zero =>
        intro hm
        have := List.any_eq_false.1 h.1 _ hm
        simp at this
      | succ j => have := h1 j (by simpa using hj); rwa [show i + 1 + j = i + (j + 1) from by omega] at this
    · intro j cs hj
      cases j with
      | zero => simp at hj
      | succ j => have := h2 j cs (by simpa using hj); rwa [show i + 1 + j = i + (j + 1) from by omega] at this
  | some cs0 :: r, i, h => by
    simp only [simUpd, Bool.and_eq_true] at h
    obtain ⟨h1, h2⟩ := simUpd_get h.2
    refine ⟨?_, ?_⟩
    · intro j hj
      cases j with
      | zero => simp at hj
      | succ j => have := h1 j (by simpa using hj); rwa [show i + 1 + j = i + (j + 1) from by omega] at this
    · intro j cs hj
      cases j with
      | zero =>
        simp at hj; subst hj
        have h3 := h.1
        split at h3
        · rename_i ds hds; exact ⟨ds, hds, h3⟩
        · cases h3
      | succ j => have := h2 j cs (by simpa using hj); rwa [show i + 1 + j = i + (j + 1) from by omega] at this

theorem simNews_get {nin nm : Nat} {ft : Fit} {o : Out} : ∀ {t : Mem} {r : List Nat}, simNews nin nm ft o t r = true → t.length = r.length ∧
    (∀ (j : Nat) (cs : List L), t[j]? = some cs → ∃ (q : Nat) (ds : List L), r[j]? = some q ∧ nm ≤ q ∧ o.mem[q]? = some ds ∧ simLs nin nm ft cs ds = true) ∧ ∀ (i j q : Nat), r[i]? = some q → r[j]? = some q → i = j
  | [], [], h => by simp
  | [], _ :: _, h => by simp [simNews] at h
  | _ :: _, [], h => by simp [simNews] at h
  | cs0 :: t, q0 :: r, h => by
    simp only [simNews, Bool.and_eq_true, Bool.not_eq_true'] at h
    obtain ⟨⟨⟨e1, e2⟩, e3⟩, e4⟩ := h
    obtain ⟨h1, h2, h3⟩ := simNews_get e4
    refine ⟨by simp [h1], ?_, ?_⟩
    · intro j cs hj
      cases j with
      | zero =>
        simp at hj; subst hj
        split at e2
        · rename_i ds hds; exact ⟨q0, ds, rfl, Nat.le_of_ble_eq_true e1, hds, e2⟩
        · cases e2
      | succ j => simpa using h2 j cs (by simpa using hj)
    · have hno : ∀ j : Nat, r[j]? ≠ some q0 := by
        intro j hj
        have := List.any_eq_false.1 e3 _ (List.mem_of_getElem? hj)
        simp at this
      intro i j q hi hj
      cases i with
      | zero =>
        simp at hi; subst hi
        cases j with
        | zero => rfl
        | succ j => exact absurd (by simpa using hj) (hno j)
      | succ i =>
        cases j with
        | zero => simp at hj; subst hj; exact absurd (by simpa using hi) (hno i)
        | succ j => rw [h3 i j q (by simpa using hi) (by simpa using hj)]

/-! ### the values of a run's variables -/

def evalS (F : Fns) (l : List (Nat × Ins)) (ρ0 : Nat → Int) : Nat → Int :=
  match l with
  | [] => ρ0
  | (x, i) :: r => fun y => if y = x then i.ev F (evalS F r ρ0) else evalS F r ρ0 y

def aLt (n : Nat) : A → Bool
  | .l _ => true
  | .v x => Nat.blt x n

def insLt (n : Nat) : Ins → Bool
  | .op2 _ _ a b => aLt n a && aLt n b
  | .conv _ a => aLt n a
  | .ite a b c => aLt n a && aLt n b && aLt n c
  | .eqs _ xs ys => xs.all (aLt n) && ys.all (aLt n)
  | .sel xs i => xs.all (aLt n) && aLt n i
  | .max a b => aLt n a && aLt n b
  | .min a b => aLt n a && aLt n b
  | .app _ xs _ => xs.all (aLt n)

/-- numbered downwards from the head, each leaning on smaller ones -/
def wfS (nin : Nat) : List (Nat × Ins) → Nat → Bool
  | [], _ => true
  | (x, i) :: r, top => Nat.blt x top && Nat.ble nin x && insLt x i && wfS nin r x

theorem aLt_ev {n : Nat} {ρ ρ' : Nat → Int} (h : ∀ x, x < n → ρ x = ρ' x) {a : A} (ha : aLt n a = true) : a.ev ρ = a.ev ρ' := by
  cases a with
  | l _ => rfl
  | v x => exact h x (Nat.le_of_ble_eq_true ha)

theorem all_aLt {n : Nat} {ρ ρ' : Nat → Int} (h : ∀ x, x < n → ρ x = ρ' x) {xs : List A} (ha : xs.all (aLt n) = true) : xs.map (A.ev ρ) = xs.map (A.ev ρ') :=
  List.map_congr_left fun a hm => aLt_ev h (List.all_eq_true.1 ha a hm)

theorem insLt_ev {F : Fns} {n : Nat} {ρ ρ' : Nat → Int} (h : ∀ x, x < n → ρ x = ρ' x) {i : Ins} (hi : insLt n i = true) : i.ev F ρ = i.ev F ρ' := by
  cases i with
  | op2 o k a b => simp only [insLt, Bool.and_eq_true] at hi; simp only [Ins.ev]; rw [aLt_ev h hi.1, aLt_ev h hi.2]
  | conv k a => simp only [insLt] at hi; simp only [Ins.ev]; rw [aLt_ev h hi]
  | ite a b c => simp only [insLt, Bool.and_eq_true] at hi; simp only [Ins.ev]; rw [aLt_ev h hi.1.1, aLt_ev h hi.1.2, aLt_ev h hi.2]
  | eqs by_ xs ys =>
    simp only [insLt, Bool.and_eq_true] at hi
    have e1 := all_aLt h hi.1
    have e2 := all_aLt h hi.2
    cases by_ with
    | false => simp only [Ins.ev]; rw [e1, e2]
    | true =>
      simp only [Ins.ev]
      have f : ∀ (ρ : Nat → Int) (zs : List A), (zs.map fun a => UInt8.ofNat (a.ev ρ).toNat) = (zs.map (A.ev ρ)).map fun n => UInt8.ofNat n.toNat := by intro ρ zs; simp
      rw [f, f, f, f, e1, e2]
  | sel xs i =>
    simp only [insLt, Bool.and_eq_true] at hi
    simp only [Ins.ev]
    rw [aLt_ev h hi.2]
    rw [List.getD_eq_getElem?_getD]
    cases hx : xs[(i.ev ρ').toNat]? with
    | none => rfl
    | some a => exact aLt_ev h (List.all_eq_true.1 hi.1 a (List.mem_of_getElem? hx))
  | max a b => simp only [insLt, Bool.and_eq_true] at hi; simp only [Ins.ev]; rw [aLt_ev h hi.1, aLt_ev h hi.2]
  | min a b => simp only [insLt, Bool.and_eq_true] at hi; simp only [Ins.ev]; rw [aLt_ev h hi.1, aLt_ev h hi.2]
  | app c xs j => simp only [insLt] at hi; simp only [Ins.ev]; rw [all_aLt h hi]

theorem evalS_sat {F : Fns} {nin : Nat} {ρ0 : Nat → Int} : ∀ {l : List (Nat × Ins)} {top : Nat}, wfS nin l top = true → Sat F (evalS F l ρ0) l ∧ (∀ x, x < nin → evalS F l ρ0 x = ρ0 x) ∧ ∀ x ∈ l, x.1 < top
  | [], top, h => ⟨fun x hx => (by cases hx), fun _ _ => rfl, fun x hx => (by cases hx)⟩
  | (x, i) :: r, top, h => by
    simp only [wfS, Bool.and_eq_true] at h
    obtain ⟨⟨⟨h1, h2⟩, h3⟩, h4⟩ := h
    have h1 : x < top := Nat.le_of_ble_eq_true h1
    have h2 := Nat.le_of_ble_eq_true h2
    obtain ⟨ih1, ih2, ih3⟩ := evalS_sat (F := F) (ρ0 := ρ0) h4
    have hag : ∀ y, y < x → evalS F r ρ0 y = evalS F ((x, i) :: r) ρ0 y := by
      intro y hy
      show _ = if y = x then _ else _
      rw [if_neg (by omega)]
    refine ⟨?_, ?_, ?_⟩
    · intro z hz
      cases hz with
      | head =>
        show (if x = x then _ else _) = _
        rw [if_pos rfl]
        exact insLt_ev hag h3
      | tail _ hz =>
        have hlt := ih3 z hz
        rw [← hag z.1 hlt, ih1 z hz]
        -- the operands of an elder instruction are smaller still
        have : insLt x z.2 = true := by
          clear ih1 ih2 hag
          have key : ∀ {l : List (Nat × Ins)} {top : Nat}, wfS nin l top = true → top ≤ x → ∀ z ∈ l, insLt x z.2 = true := by
            intro l
            induction l with
            | nil => intro top _ _ z hz; cases hz
            | cons w l ih =>
              intro top hw ht z hz
              obtain ⟨y, j⟩ := w
              simp only [wfS, Bool.and_eq_true] at hw
              have hy : y < top := Nat.le_of_ble_eq_true hw.1.1.1
              cases hz with
              | head =>
                have hmono : ∀ {m n : Nat} {a : A}, m ≤ n → aLt m a = true → aLt n a = true := by
                  intro m n a hmn ha
                  cases a with
                  | l _ => rfl
                  | v q =>
                    have : q < m := Nat.le_of_ble_eq_true ha
                    exact Nat.ble_eq_true_of_le (show q + 1 ≤ n by omega)
                have hall : ∀ {m n : Nat} {xs : List A}, m ≤ n → xs.all (aLt m) = true → xs.all (aLt n) = true := by
                  intro m n xs hmn hx
                  rw [List.all_eq_true] at hx ⊢
                  exact fun a ha => hmono hmn (hx a ha)
                have hj := hw.1.2
                have hyx : y ≤ x := by omega
                cases j <;> simp only [insLt, Bool.and_eq_true] at hj ⊢ <;> first
                  | exact ⟨⟨hmono hyx hj.1.1, hmono hyx hj.1.2⟩, hmono hyx hj.2⟩
                  | exact ⟨hall hyx hj.1, hall hyx hj.2⟩
                  | exact ⟨hall hyx hj.1, hmono hyx hj.2⟩
                  | exact ⟨hmono hyx hj.1, hmono hyx hj.2⟩
                  | exact hall hyx hj
                  | exact hmono hyx hj
              | tail _ hz => exact ih hw.2 (by omega) z hz
          exact key h4 (Nat.le_refl _) z hz
        exact insLt_ev hag this
    · intro y hy
      show (if y = x then _ else _) = _
      rw [if_neg (by omega)]
      exact ih2 y hy
    · intro z hz
      cases hz with
      | head => exact h1
      | tail _ hz => have := ih3 z hz; omega

end Go.X

namespace Go.X

/-! ### from a run to a template -/

def simCapsB (nm : Nat) : List (Nat × Nat) → Bool
  | [] => true
  | (r, _) :: t => Nat.blt r nm && simCapsB nm t

/-- the leaf speaks of the template's own names alone -/
def ownL (nin nm : Nat) : L → Bool
  | .int _ a => aLt nin a
  | .bool a => aLt nin a
  | .ptr r _ => Nat.blt r nm
  | .px r _ _ i _ => Nat.blt r nm && aLt nin i
  | .slc r _ _ _ => Nat.blt r nm
  | .str bs => bs.all (aLt nin)
  | .ifp _ r _ => Nat.blt r nm
  | .fn _ cs => simCapsB nm cs
  | .gho _ => true
  | .cst _ => true
  | .any => true

def ownS1 (nin nm : Nat) : S1 → Bool
  | .lf x => ownL nin nm x
  | .agg xs => xs.all (ownL nin nm)

def ownS (nin nm : Nat) : S → Bool
  | .one x => ownS1 nin nm x
  | .tup xs => xs.all (ownS1 nin nm)

def ownT (T : Tmpl) : Bool :=
  T.args.all (ownS T.nin T.mem.length) && T.mem.all (fun cs => cs.all (ownL T.nin T.mem.length))

theorem ownL_den {nin nm : Nat} {E E' : Env} {σ : Plc} (hg : E.gv = E'.gv) (h : ∀ x, x < nin → E.ρ x = E'.ρ x) {x : L} {v : Value} (hx : ownL nin nm x = true) (hd : x.Den E σ v) : x.Den E' σ v := by
  cases x with
  | int k a => show v = _; rw [← aLt_ev h hx]; exact hd
  | bool a => show v = _; rw [← aLt_ev h hx]; exact hd
  | ptr r o => exact hd
  | px r o s i n =>
    simp only [ownL, Bool.and_eq_true] at hx
    have e := aLt_ev h hx.2
    obtain ⟨p, a, b, c, d⟩ := hd
    exact ⟨p, a, e ▸ b, e ▸ c, e ▸ d⟩
  | slc r o n c => exact hd
  | str bs =>
    have e := all_aLt h hx
    have f : ∀ (ρ : Nat → Int), (bs.map fun a => UInt8.ofNat (a.ev ρ).toNat) = (bs.map (A.ev ρ)).map fun n => UInt8.ofNat n.toNat := by intro ρ; simp
    have hd : v = .string ⟨(bs.map fun a => UInt8.ofNat (a.ev E.ρ).toNat).toArray⟩ := hd
    show v = .string ⟨(bs.map fun a => UInt8.ofNat (a.ev E'.ρ).toNat).toArray⟩
    rw [f, ← e, ← f]; exact hd
  | ifp t r o => exact hd
  | fn f cs => exact hd
  | gho g => have hd : v = E.gv g := hd; show v = E'.gv g; rw [← hg]; exact hd
  | cst c => exact hd
  | any => trivial

theorem ownLs_den {nin nm : Nat} {E E' : Env} {σ : Plc} (hg : E.gv = E'.gv) (h : ∀ x, x < nin → E.ρ x = E'.ρ x) {x : List L} {v : List Value} (hx : x.all (ownL nin nm) = true) (hd : All2 (L.Den E σ) x v) : All2 (L.Den E' σ) x v := by
  refine All2.of_get hd.length_eq ?_
  intro i a b ha hb
  obtain ⟨b', h1, h2⟩ := hd.get i a ha
  rw [hb] at h1; cases h1
  exact ownL_den hg h (List.all_eq_true.1 hx a (List.mem_of_getElem? ha)) h2

theorem ownS1_den {nin nm : Nat} {E E' : Env} {σ : Plc} (hg : E.gv = E'.gv) (h : ∀ x, x < nin → E.ρ x = E'.ρ x) {x : S1} {v : Value} (hx : ownS1 nin nm x = true) (hd : x.Den E σ v) : x.Den E' σ v := by
  cases x with
  | lf a => exact ownL_den hg h hx hd
  | agg cs => obtain ⟨vs, e, ha⟩ := hd; exact ⟨vs, e, ownLs_den hg h hx ha⟩

theorem ownS_den {nin nm : Nat} {E E' : Env} {σ : Plc} (hg : E.gv = E'.gv) (h : ∀ x, x < nin → E.ρ x = E'.ρ x) {x : S} {v : Value} (hx : ownS nin nm x = true) (hd : x.Den E σ v) : x.Den E' σ v := by
  cases x with
  | one a => exact ownS1_den hg h hx hd
  | tup cs =>
    obtain ⟨vs, e, ha⟩ := hd
    refine ⟨vs, e, All2.of_get ha.length_eq ?_⟩
    intro i a b ha' hb
    obtain ⟨b', h1, h2⟩ := ha.get i a ha'
    rw [hb] at h1; cases h1
    exact ownS1_den hg h (List.all_eq_true.1 hx a (List.mem_of_getElem? ha')) h2

/-- one run that covers the inputs xs -/
structure Covers (P : Program) (F' : Fns) (pr' : Prs) (ts : List Tmpl) (ls : List LTmpl) (fn : Func) (T : Tmpl) (ys xs : List Int) (fuel : Nat) (orc : List Bool) (out : Out) (ft : Fit) : Prop where
  run : runBody P ts ls fn fuel T.args T.mem T.nin orc = some out
  fit : fitsB T out ft = true
  wf : wfS T.nin out.g.ssa out.g.n = true
  val : ∀ (j : Nat) (a : A), ft.outs[j]? = some a → ys.getD j 0 = a.ev (evalS F' out.g.ssa fun x => xs.getD x 0)
  asm : Hold pr' (evalS F' out.g.ssa fun x => xs.getD x 0) out.g.asm

theorem body_sound {P : Program} {F F' : Fns} {pr pr' : Prs} {I : World → Prop} {base c : Nat} {gv : Nat → Value} {ts : List Tmpl} {ls : List LTmpl} {fn : Func} {T : Tmpl}
    (hf : P.funcs[T.f]? = some fn) (hc : ∀ args w, (callFunc T.f args).run P w = .ok (.enter T.f args) w) (hown : ownT T = true)
    (hcx : ∀ E : Env, E.gv = gv → Cx P F' pr' I base ts E)
    (hl0 : ∀ l ∈ ls, ∀ (T T' : Tm) (M M' : Mem) (g g' : G) (ex : Ex), l.run T M g = some (ex, T', M', g') → g.le g')
    (hl : ∀ E : Env, E.gv = gv → ∀ b, fn.body = some b → ∀ l ∈ ls, ∀ x, HasBlock b l.id x → LSound P F' pr' I base fn.ntmps E (.block l.id x) l.run)
    (hcov : ∀ xs : List Int, xs.length = T.nin → (T.hasPre = true → pr c xs) → ∃ fuel orc out ft, Covers P F' pr' ts ls fn T (F c xs) xs fuel orc out ft) :
    TSound P F pr gv I base c T := by
  intro E σ w args hp
  obtain ⟨fuel, orc, out, ft, hcv⟩ := hcov ((List.range T.nin).map E.ρ) (by simp) hp.pre
  generalize hxs : (List.range T.nin).map E.ρ = xs at hcv
  let E' : Env := ⟨evalS F' out.g.ssa fun x => xs.getD x 0, E.gv⟩
  obtain ⟨hsat, hin, _⟩ := evalS_sat (F := F') (ρ0 := fun x => xs.getD x 0) hcv.wf
  have hag : ∀ x, x < T.nin → E.ρ x = E'.ρ x := by
    intro x hx
    show _ = evalS F' out.g.ssa (fun x => xs.getD x 0) x
    rw [hin x hx, ← hxs]
    simp [List.getD_eq_getElem?_getD, hx]
  simp only [ownT, Bool.and_eq_true] at hown
  have hargs : All2 (S.Den E' σ) T.args args := by
    refine All2.of_get hp.args.length_eq ?_
    intro i a b ha hb
    obtain ⟨b', h1, h2⟩ := hp.args.get i a ha
    rw [hb] at h1; cases h1
    exact ownS_den (E := E) (E' := E') rfl hag (List.all_eq_true.1 hown.1 a (List.mem_of_getElem? ha)) h2
  have hrep : MRep base E' σ T.mem w := by
    refine ⟨?_, hp.rep.dis, hp.rep.bas, hp.rep.lt⟩
    intro r p cs h1 h2 i l hl
    obtain ⟨v, a, b, c⟩ := hp.rep.rep r p cs h1 h2 i l hl
    refine ⟨v, a, ?_, c⟩
    have h3 := List.all_eq_true.1 hown.2 cs (List.mem_of_getElem? h2)
    exact ownL_den (E := E) (E' := E') rfl hag (List.all_eq_true.1 h3 l (List.mem_of_getElem? hl)) b
  unfold Invokes
  rw [hc]
  simp only []
  refine Calls.mono (runBody_calls (hcx E' hp.gv) hf hcv.run hl0 (hl E' hp.gv) hsat hcv.asm hargs hrep hp.free hp.inv hp.ble) ?_
  rintro e w' ⟨v, σ', rfl, hret, hm, hdom⟩
  have hfit := hcv.fit
  simp only [fitsB, Bool.and_eq_true] at hfit
  obtain ⟨⟨⟨⟨f1, f2⟩, f3⟩, f4⟩, f5⟩ := hfit
  have f2 := Nat.eq_of_beq_eq_true f2
  have f3 := Nat.eq_of_beq_eq_true f3
  obtain ⟨u1, u2⟩ := simUpd_get f4
  obtain ⟨n1, n2, n3⟩ := simNews_get f5
  let σt : Plc := fun r => if r < T.mem.length then σ r else (ft.nr[r - T.mem.length]?).bind σ'
  have hok : FitOk T.nin T.mem.length ft E σt E' σ' := by
    refine ⟨rfl, ?_, ?_⟩
    · intro t a ht
      cases t with
      | l n => simp only [fA] at ht; cases ht; rfl
      | v x =>
        simp only [fA] at ht
        split at ht
        · rename_i hx
          cases ht
          exact hag x (Nat.le_of_ble_eq_true hx)
        · rename_i hx
          have hx : ¬ x < T.nin := fun hc => by
            have : Nat.blt x T.nin = true := Nat.ble_eq_true_of_le hc
            rw [this] at hx; cases hx
          have hj := lt_of_get ht
          have := hp.out (x - T.nin) (by omega)
          rw [show T.nin + (x - T.nin) = x from by omega] at this
          show E.ρ x = _
          rw [this, hxs]
          exact hcv.val _ _ ht
    · intro r q hr p hq
      simp only [fR] at hr
      show (if r < T.mem.length then σ r else _) = _
      split at hr
      · rename_i hx
        cases hr
        have hx : r < T.mem.length := Nat.le_of_ble_eq_true hx
        rw [if_pos hx, ← hm.same r hx]; exact hq
      · rename_i hx
        have hx : ¬ r < T.mem.length := fun hc => by
          have : Nat.blt r T.mem.length = true := Nat.ble_eq_true_of_le hc
          rw [this] at hx; cases hx
        rw [if_neg hx, hr]; exact hq
  have hnewat : ∀ (j : Nat), T.mem.length + j - T.mem.length = j := fun j => by omega
  refine ⟨v, σt, rfl, ?_, ?_, simS_den hok f1 hret, ?_, ⟨?_, ?_⟩, ?_⟩
  · intro r hr
    show (if r < T.mem.length then σ r else _) = _
    rw [if_pos hr]
  · intro r hr
    show (if r < T.mem.length then σ r else _) = _
    rw [if_neg (by omega), List.getElem?_eq_none (by omega)]; rfl
  · intro r cs p hr hσ
    obtain ⟨ds, d1, d2⟩ := u2 r cs hr
    rw [Nat.zero_add] at d1
    have hlt := lt_of_get hr
    exact simLs_cells hok d2 (hm.m.rep r p ds (by rw [hm.same r (by omega)]; exact hσ) d1)
  · intro j cs hj
    obtain ⟨q, ds, q1, q2, q3, q4⟩ := n2 j cs hj
    obtain ⟨p, hpq⟩ := hdom q q2 (lt_of_get q3)
    refine ⟨p, ?_, hm.fresh q p q2 hpq, hm.m.lt q p hpq, simLs_cells hok q4 (hm.m.rep q p ds hpq q3)⟩
    show (if T.mem.length + j < T.mem.length then _ else _) = _
    rw [if_neg (by omega), hnewat, q1]; exact hpq
  · intro i j p p' cs cs' hi hj hne hpi hpj a b ha hb heq
    obtain ⟨q, ds, q1, q2, q3, q4⟩ := n2 i cs hi
    obtain ⟨q', ds', q1', q2', q3', q4'⟩ := n2 j cs' hj
    have e1 : σ' q = some p := by
      have hpi : (if T.mem.length + i < T.mem.length then σ (T.mem.length + i) else (ft.nr[T.mem.length + i - T.mem.length]?).bind σ') = some p := hpi
      rw [if_neg (by omega), hnewat, q1] at hpi; exact hpi
    have e2 : σ' q' = some p' := by
      have hpj : (if T.mem.length + j < T.mem.length then σ (T.mem.length + j) else (ft.nr[T.mem.length + j - T.mem.length]?).bind σ') = some p' := hpj
      rw [if_neg (by omega), hnewat, q1'] at hpj; exact hpj
    have hqq : q ≠ q' := fun e => hne (n3 i j q q1 (e ▸ q1'))
    exact hm.m.dis q q' p p' ds ds' hqq e1 e2 q3 q3' a b (by have := (simLs_get hok q4).1; omega) (by have := (simLs_get hok q4').1; omega) heq
  · refine Ev.trans (Ev.refl (fun _ _ => False) w) hm.ev (fun _ _ _ h => h.elim) ?_
    rintro x o _ ⟨r, p, cs, w1, w2, w3, rfl, w4, w5⟩
    have hlt := lt_of_get w3
    obtain ⟨u, hu⟩ : ∃ u, T.upd[r]? = some u := ⟨_, List.getElem?_eq_getElem (by omega)⟩
    cases u with
    | none => exact absurd w1 (by have := u1 r hu; rwa [Nat.zero_add] at this)
    | some cs' =>
      obtain ⟨ds, d1, d2⟩ := u2 r cs' hu
      rw [Nat.zero_add] at d1
      have := hm.lens r cs ds w3 d1
      have := (simLs_get hok d2).1
      exact ⟨r, p, cs', hu, w2, rfl, w4, by omega⟩

end Go.X

namespace Go.X

/-! ### bounds, and the plain numbers behind wrapped ones -/

structure Av where
  lo : Int
  hi : Int
  tz : Nat

def Av.has (v : Av) (n : Int) : Prop := v.lo ≤ n ∧ n ≤ v.hi ∧ n % 2 ^ v.tz = 0

def leI (a b : Int) : Bool := match b - a with | .ofNat _ => true | .negSucc _ => false

theorem leI_le {a b : Int} (h : leI a b = true) : a ≤ b := by
  unfold leI at h
  split at h
  · rename_i n e
    have e : b - a = (n : Int) := e
    omega
  · cases h

def kLo : IntKind → Int | .i8 => -128 | .i16 => -32768 | .i32 => -2147483648 | .i64 => -9223372036854775808 | _ => 0
def kHi : IntKind → Int | .i8 => 127 | .i16 => 32767 | .i32 => 2147483647 | .i64 => 9223372036854775807 | .u8 => 255 | .u16 => 65535 | .u32 => 4294967295 | .u64 => 18446744073709551615
def kW : IntKind → Nat | .u8 => 8 | .u16 => 16 | .u32 => 32 | .u64 => 64 | .i8 => 7 | .i16 => 15 | .i32 => 31 | .i64 => 63
def kU : IntKind → Bool | .u8 => true | .u16 => true | .u32 => true | .u64 => true | _ => false

theorem kLo_eq (k : IntKind) : kLo k = k.min := by cases k <;> decide
theorem kHi_eq (k : IntKind) : kHi k = k.max := by cases k <;> decide

theorem wrap_in (k : IntKind) (n : Int) : kLo k ≤ k.wrap n ∧ k.wrap n ≤ kHi k := by
  rw [kLo_eq, kHi_eq]; exact wrap_within k n

theorem wrap_id {k : IntKind} {n : Int} (h1 : kLo k ≤ n) (h2 : n ≤ kHi k) : k.wrap n = n := by
  cases k <;> simp only [kLo, kHi] at h1 h2 <;> simp [IntKind.wrap, IntKind.bits, IntKind.signed] <;> (try split) <;> omega

theorem wrap_u {k : IntKind} (h : kU k = true) (n : Int) : k.wrap n = n % (2 ^ kW k : Nat) := by
  cases k <;> first | (cases h; done) | simp [IntKind.wrap, IntKind.bits, IntKind.signed, kW]

theorem wrap_w {k : IntKind} (n : Int) (h0 : 0 ≤ n) (h1 : n < 2 ^ kW k) : k.wrap n = n := by
  refine wrap_id ?_ ?_
  · cases k <;> simp [kLo] <;> omega
  · cases k <;> simp [kHi, kW] at h1 ⊢ <;> omega

theorem kW_le (k : IntKind) : kW k ≤ k.bits := by cases k <;> decide

inductive CI where
  | add (a b : A)
  | sub (a b : A)
  | mul (a b : A)
  | div (a : A) (n : Nat)
  | mod (a : A) (n : Nat)
  | mm (a : A) (m n : Nat)
  | cp (a : A)
  | raw (i : Ins)

def CI.ev (F : Fns) (ρ : Nat → Int) : CI → Int
  | .add a b => a.ev ρ + b.ev ρ
  | .sub a b => a.ev ρ - b.ev ρ
  | .mul a b => a.ev ρ * b.ev ρ
  | .div a n => a.ev ρ / (n : Int)
  | .mod a n => a.ev ρ % (n : Int)
  | .mm a m n => (a.ev ρ * (m : Int)) % (n : Int)
  | .cp a => a.ev ρ
  | .raw i => i.ev F ρ

/-- within k, or the instruction as it stands -/
def fitK (k : IntKind) (lo hi : Int) (tz : Nat) (ci : CI) (i : Ins) : CI × Av :=
  match leI (kLo k) lo && leI hi (kHi k) with
  | true => (ci, ⟨lo, hi, tz⟩)
  | false => (.raw i, ⟨kLo k, kHi k, 0⟩)

def minN (a b : Nat) : Nat := match Nat.ble a b with | true => a | false => b
def minI (a b : Int) : Int := match leI a b with | true => a | false => b
def maxI (a b : Int) : Int := match leI a b with | true => b | false => a

theorem minN_l (a b : Nat) : minN a b ≤ a := by
  unfold minN; split
  · exact Nat.le_refl _
  · rename_i h
    rcases Nat.lt_or_ge b a with h' | h'
    · omega
    · rw [Nat.ble_eq_true_of_le h'] at h; cases h
theorem minN_r (a b : Nat) : minN a b ≤ b := by
  unfold minN; split
  · rename_i h; exact Nat.le_of_ble_eq_true h
  · exact Nat.le_refl _

theorem leI_false {a b : Int} (h : leI a b = false) : b ≤ a := by
  unfold leI at h
  split at h
  · cases h
  · rename_i n e; omega

theorem minI_l (a b : Int) : minI a b ≤ a := by
  unfold minI; split
  · exact Int.le_refl _
  · rename_i h; exact leI_false h
theorem minI_r (a b : Int) : minI a b ≤ b := by
  unfold minI; split
  · rename_i h; exact leI_le h
  · exact Int.le_refl _
theorem maxI_l (a b : Int) : a ≤ maxI a b := by
  unfold maxI; split
  · rename_i h; exact leI_le h
  · exact Int.le_refl _
theorem maxI_r (a b : Int) : b ≤ maxI a b := by
  unfold maxI; split
  · exact Int.le_refl _
  · rename_i h; exact leI_false h

theorem mod_pow_le {n : Int} {a b : Nat} (h : n % 2 ^ b = 0) (hab : a ≤ b) : n % 2 ^ a = 0 := by
  have h1 : (2 : Int) ^ b ∣ n := Int.dvd_of_emod_eq_zero h
  have h2 : (2 : Int) ^ a ∣ 2 ^ b := ⟨2 ^ (b - a), by rw [← Int.pow_add]; congr 1; omega⟩
  exact Int.emod_eq_zero_of_dvd (Int.dvd_trans h2 h1)

def tzF : Nat → Nat → Nat
  | 0, _ => 0
  | f + 1, n => match Nat.beq (n % 2) 0 with | true => tzF f (n / 2) + 1 | false => 0

theorem tzF_dvd : ∀ (f n : Nat), n % 2 ^ tzF f n = 0
  | 0, n => by simp [tzF, Nat.mod_one]
  | f + 1, n => by
    simp only [tzF]
    split
    · rename_i h
      have h := Nat.eq_of_beq_eq_true h
      have ih := tzF_dvd f (n / 2)
      generalize tzF f (n / 2) = t at ih
      obtain ⟨q, hq⟩ := Nat.dvd_of_mod_eq_zero ih
      apply Nat.mod_eq_zero_of_dvd
      refine ⟨q, ?_⟩
      have : n = 2 * (n / 2) := by omega
      rw [Nat.pow_succ, this, hq, Nat.mul_comm (2 ^ t) 2, Nat.mul_assoc]
    · simp [Nat.mod_one]

abbrev AEnv := List (Nat × Av)

def lkE : AEnv → Nat → Option Av
  | [], _ => none
  | (y, v) :: r, x => match Nat.beq y x with | true => some v | false => lkE r x

def avA (env : AEnv) : A → Option Av
  | .l (.ofNat n) => some ⟨n, n, tzF 64 n⟩
  | .l (.negSucc n) => some ⟨.negSucc n, .negSucc n, 0⟩
  | .v x => lkE env x

def EnvOk (ρ : Nat → Int) (env : AEnv) : Prop := ∀ x v, lkE env x = some v → v.has (ρ x)

theorem avA_has {ρ : Nat → Int} {env : AEnv} (h : EnvOk ρ env) {a : A} {v : Av} (hv : avA env a = some v) : v.has (a.ev ρ) := by
  unfold avA at hv
  split at hv
  · rename_i n
    cases hv
    refine ⟨Int.le_refl _, Int.le_refl _, ?_⟩
    show ((n : Nat) : Int) % 2 ^ _ = 0
    have := tzF_dvd 64 n
    exact_mod_cast this
  · cases hv
    exact ⟨Int.le_refl _, Int.le_refl _, by simp [A.ev, Int.emod_one]⟩
  · exact h _ _ hv

/-- the width of a mask of ones -/
def maskW (m : Nat) : Option Nat :=
  match Nat.beq (2 ^ Nat.log2 (m + 1)) (m + 1) with
  | true => some (Nat.log2 (m + 1))
  | false => none

theorem maskW_eq {m i : Nat} (h : maskW m = some i) : m = 2 ^ i - 1 := by
  unfold maskW at h
  split at h
  · rename_i e
    cases h
    have := Nat.eq_of_beq_eq_true e
    omega
  · cases h

/-- all ones up to the highest one -/
def ones (n : Int) : Int := match n with | .ofNat n => (2 ^ (Nat.log2 n + 1) - 1 : Nat) | .negSucc _ => 0

def nn (x y : Av) : Bool := leI 0 x.lo && leI 0 y.lo

def clean2 (o : BinOp) (k : IntKind) (a b : A) (x y : Av) : Option (CI × Av) :=
  match o with
  | .add => some (fitK k (x.lo + y.lo) (x.hi + y.hi) (minN x.tz y.tz) (.add a b) (.op2 o k a b))
  | .sub => some (fitK k (x.lo - y.hi) (x.hi - y.lo) (minN x.tz y.tz) (.sub a b) (.op2 o k a b))
  | .mul => match nn x y with
    | true => some (fitK k (x.lo * y.lo) (x.hi * y.hi) 0 (.mul a b) (.op2 o k a b))
    | false => some (.raw (.op2 o k a b), ⟨kLo k, kHi k, 0⟩)
  | .shl => match b, nn x x with
    | .l (.ofNat n), true => match Nat.ble n k.bits with
      | true => match leI (kLo k) 0 && leI (x.hi * (2 ^ n : Nat)) (kHi k) with
        | true => some (.mul a (.l (2 ^ n : Nat)), ⟨0, x.hi * (2 ^ n : Nat), n⟩)
        | false => match kU k with
          | true => some (.mm a (2 ^ n) (2 ^ kW k), ⟨kLo k, kHi k, minN n (kW k)⟩)
          | false => some (.raw (.op2 o k a b), ⟨kLo k, kHi k, 0⟩)
      | false => some (.raw (.op2 o k a b), ⟨kLo k, kHi k, 0⟩)
    | _, _ => some (.raw (.op2 o k a b), ⟨kLo k, kHi k, 0⟩)
  | .shr => match b with
    | .l (.ofNat n) => match Nat.ble n k.bits with
      | true => some (.div a (2 ^ n), ⟨x.lo / (2 ^ n : Nat), x.hi / (2 ^ n : Nat), 0⟩)
      | false => none
    | _ => match nn x x with
      | true => some (.raw (.op2 o k a b), ⟨0, x.hi, 0⟩)
      | false => none
  | .and => match nn x y && (leI x.hi (kHi k) && leI y.hi (kHi k)) with
    | true => match b with
      | .l (.ofNat m) => match maskW m with
        | some i => some (.mod a (2 ^ i), ⟨0, minI x.hi m, 0⟩)
        | none => some (.raw (.op2 o k a b), ⟨0, minI x.hi y.hi, 0⟩)
      | _ => some (.raw (.op2 o k a b), ⟨0, minI x.hi y.hi, 0⟩)
    | false => some (.raw (.op2 o k a b), ⟨kLo k, kHi k, 0⟩)
  | .or => match nn x y && (leI x.hi (kHi k) && leI y.hi (kHi k)) with
    | true => match leI (y.hi + 1) (2 ^ x.tz : Nat) || leI (x.hi + 1) (2 ^ y.tz : Nat) with
      | true => some (.add a b, ⟨0, minI (x.hi + y.hi) (ones (maxI x.hi y.hi)), minN x.tz y.tz⟩)
      | false => some (.raw (.op2 o k a b), ⟨0, ones (maxI x.hi y.hi), 0⟩)
    | false => some (.raw (.op2 o k a b), ⟨kLo k, kHi k, 0⟩)
  | .xor => some (.raw (.op2 o k a b), ⟨kLo k, kHi k, 0⟩)
  | .andNot => some (.raw (.op2 o k a b), ⟨kLo k, kHi k, 0⟩)
  | .quo => match b, nn x x && leI x.hi (kHi k) with
    | .l (.ofNat (m + 1)), true => some (.div a (m + 1), ⟨0, x.hi / ((m + 1 : Nat) : Int), 0⟩)
    | _, _ => some (.raw (.op2 o k a b), ⟨kLo k, kHi k, 0⟩)
  | .rem => match b, nn x x with
    | .l (.ofNat (m + 1)), true => some (.mod a (m + 1), ⟨0, minI x.hi m, 0⟩)
    | _, _ => none
  | _ => some (.raw (.op2 o k a b), ⟨0, 1, 0⟩)

theorem has0 {lo hi n : Int} (h1 : lo ≤ n) (h2 : n ≤ hi) : (⟨lo, hi, 0⟩ : Av).has n := ⟨h1, h2, by simp [Int.emod_one]⟩

theorem fitK_sound {F : Fns} {ρ : Nat → Int} {k : IntKind} {lo hi : Int} {tz : Nat} {ci : CI} {i : Ins} (hw : i.ev F ρ = k.wrap (ci.ev F ρ)) (h1 : lo ≤ ci.ev F ρ) (h2 : ci.ev F ρ ≤ hi) (h3 : ci.ev F ρ % 2 ^ tz = 0) :
    i.ev F ρ = (fitK k lo hi tz ci i).1.ev F ρ ∧ (fitK k lo hi tz ci i).2.has (i.ev F ρ) := by
  unfold fitK
  split
  · rename_i h
    simp only [Bool.and_eq_true] at h
    have e := wrap_id (k := k) (Int.le_trans (leI_le h.1) h1) (Int.le_trans h2 (leI_le h.2))
    rw [hw, e]
    exact ⟨rfl, h1, h2, h3⟩
  · refine ⟨rfl, ?_⟩
    rw [hw]
    exact has0 (wrap_in k _).1 (wrap_in k _).2

theorem kHi_w {k : IntKind} {n : Int} (h : n ≤ kHi k) : n < 2 ^ kW k := by
  cases k <;> simp [kHi, kW] at h ⊢ <;> omega

theorem ones_lt {n : Int} : ∀ {m : Nat}, (m : Int) ≤ n → m < 2 ^ (Nat.log2 n.toNat + 1) := by
  intro m h
  have h1 : m ≤ n.toNat := by omega
  have h2 : n.toNat < 2 ^ (Nat.log2 n.toNat + 1) := Nat.lt_log2_self
  omega

theorem mul_bounds {a b A B C D : Int} (ha : 0 ≤ A) (hb : 0 ≤ C) (h1 : A ≤ a) (h2 : a ≤ B) (h3 : C ≤ b) (h4 : b ≤ D) : A * C ≤ a * b ∧ a * b ≤ B * D :=
  ⟨Int.mul_le_mul h1 h3 hb (by omega), Int.mul_le_mul h2 h4 (by omega) (by omega)⟩

theorem clean2_sound {F : Fns} {ρ : Nat → Int} {env : AEnv} (he : EnvOk ρ env) {o : BinOp} {k : IntKind} {a b : A} {x y : Av} (hx : avA env a = some x) (hy : avA env b = some y) {ci : CI} {v : Av}
    (h : clean2 o k a b x y = some (ci, v)) : (Ins.op2 o k a b).ev F ρ = ci.ev F ρ ∧ v.has ((Ins.op2 o k a b).ev F ρ) := by
  obtain ⟨x1, x2, x3⟩ := avA_has he hx
  obtain ⟨y1, y2, y3⟩ := avA_has he hy
  have full : ∀ n, (⟨kLo k, kHi k, 0⟩ : Av).has (k.wrap n) := fun n => has0 (wrap_in k n).1 (wrap_in k n).2
  have min3 : a.ev ρ % 2 ^ minN x.tz y.tz = 0 ∧ b.ev ρ % 2 ^ minN x.tz y.tz = 0 := ⟨mod_pow_le x3 (minN_l _ _), mod_pow_le y3 (minN_r _ _)⟩
  unfold clean2 at h
  split at h
  · -- add
    have e := Option.some.inj h
    have := fitK_sound (F := F) (ρ := ρ) (k := k) (lo := x.lo + y.lo) (hi := x.hi + y.hi) (tz := minN x.tz y.tz) (ci := .add a b) (i := .op2 .add k a b) rfl (by show _ ≤ _ + _; omega) (by show _ + _ ≤ _; omega)
      (by show (_ + _) % _ = _; rw [Int.add_emod, min3.1, min3.2]; simp)
    rw [e] at this; exact this
  · have e := Option.some.inj h
    have := fitK_sound (F := F) (ρ := ρ) (k := k) (lo := x.lo - y.hi) (hi := x.hi - y.lo) (tz := minN x.tz y.tz) (ci := .sub a b) (i := .op2 .sub k a b) rfl (by show _ ≤ _ - _; omega) (by show _ - _ ≤ _; omega)
      (by show (_ - _) % _ = _; rw [Int.sub_emod, min3.1, min3.2]; simp)
    rw [e] at this; exact this
  · split at h
    · rename_i hnn
      simp only [nn, Bool.and_eq_true] at hnn
      have e := Option.some.inj h
      have hb := mul_bounds (leI_le hnn.1) (leI_le hnn.2) x1 x2 y1 y2
      have := fitK_sound (F := F) (ρ := ρ) (k := k) (lo := x.lo * y.lo) (hi := x.hi * y.hi) (tz := 0) (ci := .mul a b) (i := .op2 .mul k a b) rfl hb.1 hb.2 (by simp [Int.emod_one])
      rw [e] at this; exact this
    · cases h; exact ⟨rfl, full _⟩
  · split at h
    · rename_i n hnn
      simp only [nn, Bool.and_eq_true] at hnn
      have h0 := leI_le hnn.1
      split at h
      · rename_i hn
        have hn := Nat.le_of_ble_eq_true hn
        have hmin : min (A.ev ρ (.l (.ofNat n))).toNat k.bits = n := by show min n k.bits = n; omega
        have hev : (Ins.op2 .shl k a (.l (.ofNat n))).ev F ρ = k.wrap (a.ev ρ * 2 ^ n) := by
          show k.wrap (_ * 2 ^ min _ _) = _
          rw [hmin]
        have hc : ((2 ^ n : Nat) : Int) = 2 ^ n := by simp
        split at h
        · rename_i hfit
          simp only [Bool.and_eq_true] at hfit
          cases h
          have hle : a.ev ρ * 2 ^ n ≤ x.hi * (2 ^ n : Nat) := by
            rw [hc]; exact Int.mul_le_mul_of_nonneg_right x2 (Int.pow_nonneg (by decide))
          have hge : 0 ≤ a.ev ρ * 2 ^ n := Int.mul_nonneg (by omega) (Int.pow_nonneg (by decide))
          have e := wrap_id (k := k) (Int.le_trans (leI_le hfit.1) hge) (Int.le_trans hle (leI_le hfit.2))
          rw [hev, e]
          refine ⟨?_, hge, hle, ?_⟩
          · show _ = a.ev ρ * ((2 ^ n : Nat) : Int); rw [hc]
          · exact Int.mul_emod_left _ _
        · split at h
          · rename_i hu
            cases h
            rw [hev, wrap_u hu]
            refine ⟨?_, ?_, ?_, ?_⟩
            · show _ = (a.ev ρ * ((2 ^ n : Nat) : Int)) % _; rw [hc]
            · rw [← wrap_u hu]; exact (wrap_in k _).1
            · rw [← wrap_u hu]; exact (wrap_in k _).2
            · have h1 : (a.ev ρ * 2 ^ n) % 2 ^ minN n (kW k) = 0 := mod_pow_le (Int.mul_emod_left _ _) (minN_l _ _)
              have h2 : (2 : Int) ^ minN n (kW k) ∣ ((2 ^ kW k : Nat) : Int) := by
                have : ((2 ^ kW k : Nat) : Int) = 2 ^ kW k := by simp
                rw [this]
                exact ⟨2 ^ (kW k - minN n (kW k)), by rw [← Int.pow_add]; congr 1; have := minN_r n (kW k); omega⟩
              rw [Int.emod_emod_of_dvd _ h2]; exact h1
          · cases h; exact ⟨rfl, full _⟩
      · cases h; exact ⟨rfl, full _⟩
    · cases h; exact ⟨rfl, full _⟩
  · split at h
    · rename_i n
      split at h
      · rename_i hn
        have hn := Nat.le_of_ble_eq_true hn
        cases h
        have hmin : min (A.ev ρ (.l (.ofNat n))).toNat k.bits = n := by show min n k.bits = n; omega
        have hpos : (0 : Int) < 2 ^ n := Int.pow_pos (by decide)
        have hev : (Ins.op2 .shr k a (.l (.ofNat n))).ev F ρ = a.ev ρ / ((2 ^ n : Nat) : Int) := by
          show (a.ev ρ).fdiv (2 ^ min _ _) = _
          rw [hmin, Int.fdiv_eq_ediv_of_nonneg _ (Int.le_of_lt hpos)]
          simp
        rw [hev]
        have hc : (0 : Int) < ((2 ^ n : Nat) : Int) := by rw [show ((2 ^ n : Nat) : Int) = 2 ^ n from by simp]; exact hpos
        exact ⟨rfl, has0 (Int.ediv_le_ediv hc x1) (Int.ediv_le_ediv hc x2)⟩
      · cases h
    · split at h
      · rename_i hnn
        simp only [nn, Bool.and_eq_true] at hnn
        cases h
        have h0 := leI_le hnn.1
        refine ⟨rfl, ?_⟩
        show Av.has _ ((a.ev ρ).fdiv (2 ^ min _ _))
        generalize min (b.ev ρ).toNat k.bits = n
        have hpos : (0 : Int) < 2 ^ n := Int.pow_pos (by decide)
        rw [Int.fdiv_eq_ediv_of_nonneg _ (Int.le_of_lt hpos)]
        exact has0 (Int.ediv_nonneg (by omega) (Int.le_of_lt hpos)) (Int.le_trans (Int.ediv_le_self _ (by omega)) x2)
      · cases h
  · -- and
    have hev : ∀ b, (Ins.op2 .and k a b).ev F ρ = bits .and k (a.ev ρ) (b.ev ρ) := fun _ => rfl
    split at h
    · rename_i hnn
      simp only [nn, Bool.and_eq_true] at hnn
      have hx0 := leI_le hnn.1.1
      have hy0 := leI_le hnn.1.2
      have hxk := leI_le hnn.2.1
      have hyk := leI_le hnn.2.2
      have general : (⟨0, minI x.hi y.hi, 0⟩ : Av).has ((Ins.op2 .and k a b).ev F ρ) := by
        rw [hev]
        obtain ⟨m, hm⟩ := Int.eq_ofNat_of_zero_le (show 0 ≤ a.ev ρ by omega)
        obtain ⟨n, hn⟩ := Int.eq_ofNat_of_zero_le (show 0 ≤ b.ev ρ by omega)
        have hm1 : m < 2 ^ kW k := by have := kHi_w (k := k) (n := a.ev ρ) (by omega); rw [hm] at this; exact_mod_cast this
        have hn1 : n < 2 ^ kW k := by have := kHi_w (k := k) (n := b.ev ρ) (by omega); rw [hn] at this; exact_mod_cast this
        rw [hm, hn, (bits_nat k (kW k) (kW_le k) wrap_w m n hm1 hn1).1]
        have l1 := Nat.and_le_left (n := m) (m := n)
        have l2 := Nat.and_le_right (n := m) (m := n)
        have : minI x.hi y.hi = x.hi ∨ minI x.hi y.hi = y.hi := by unfold minI; split <;> simp
        exact has0 (by omega) (by omega)
      split at h
      · rename_i m
        split at h
        · rename_i i hi
          cases h
          have hmi := maskW_eq hi
          have y2' : y.lo ≤ (m : Int) := y1
          have hpos : 0 < 2 ^ i := Nat.two_pow_pos i
          have hmm : ((m : Nat) : Int) = 2 ^ i - 1 := by rw [hmi, Int.natCast_sub hpos]; simp
          have hik : i ≤ kW k := by
            have h1 : (m : Int) < 2 ^ kW k := kHi_w (Int.le_trans y2 hyk)
            have h2 : m < 2 ^ kW k := by exact_mod_cast h1
            rcases Nat.lt_or_ge (kW k) i with h' | h'
            · have := Nat.pow_lt_pow_right (a := 2) (by decide) h'
              omega
            · exact h'
          have e : (Ins.op2 .and k a (.l (.ofNat m))).ev F ρ = a.ev ρ % 2 ^ i := by
            rw [hev]
            show bits .and k _ ((m : Nat) : Int) = _
            rw [hmm]
            exact bits_mask k (kW k) (kW_le k) wrap_w i hik _ (by omega) (kHi_w (by omega))
          refine ⟨?_, ?_⟩
          · rw [e]; show _ = a.ev ρ % ((2 ^ i : Nat) : Int); simp
          · rw [e]
            have p : (0 : Int) < 2 ^ i := Int.pow_pos (by decide)
            have l1 := Int.emod_nonneg (a.ev ρ) (Int.ne_of_gt p)
            have l2 := Int.emod_lt_of_pos (a.ev ρ) p
            have l3 : a.ev ρ % 2 ^ i ≤ a.ev ρ := by
              obtain ⟨q, hq⟩ := Int.eq_ofNat_of_zero_le (show 0 ≤ a.ev ρ by omega)
              rw [hq]
              exact_mod_cast Nat.mod_le q (2 ^ i)
            have : minI x.hi m = x.hi ∨ minI x.hi m = m := by unfold minI; split <;> simp
            exact has0 l1 (by omega)
        · cases h; exact ⟨rfl, general⟩
      · cases h; exact ⟨rfl, general⟩
    · cases h; exact ⟨rfl, full _⟩
  · -- or
    have hev : (Ins.op2 .or k a b).ev F ρ = bits .or k (a.ev ρ) (b.ev ρ) := rfl
    split at h
    · rename_i hnn
      simp only [nn, Bool.and_eq_true] at hnn
      have hx0 := leI_le hnn.1.1
      have hy0 := leI_le hnn.1.2
      have hxk := leI_le hnn.2.1
      have hyk := leI_le hnn.2.2
      have wx := kHi_w (k := k) (n := a.ev ρ) (by omega)
      have wy := kHi_w (k := k) (n := b.ev ρ) (by omega)
      obtain ⟨or0, orle⟩ : 0 ≤ (Ins.op2 .or k a b).ev F ρ ∧ (Ins.op2 .or k a b).ev F ρ ≤ ones (maxI x.hi y.hi) := by
        rw [hev]
        obtain ⟨m, hm⟩ := Int.eq_ofNat_of_zero_le (show 0 ≤ a.ev ρ by omega)
        obtain ⟨n, hn⟩ := Int.eq_ofNat_of_zero_le (show 0 ≤ b.ev ρ by omega)
        have hm1 : m < 2 ^ kW k := by rw [hm] at wx; exact_mod_cast wx
        have hn1 : n < 2 ^ kW k := by rw [hn] at wy; exact_mod_cast wy
        rw [hm, hn, (bits_nat k (kW k) (kW_le k) wrap_w m n hm1 hn1).2]
        have m1 := maxI_l x.hi y.hi
        have m2 := maxI_r x.hi y.hi
        generalize maxI x.hi y.hi = M at m1 m2
        have o1 : m < 2 ^ (Nat.log2 M.toNat + 1) := ones_lt (by omega)
        have o2 : n < 2 ^ (Nat.log2 M.toNat + 1) := ones_lt (by omega)
        have o3 := Nat.or_lt_two_pow o1 o2
        obtain ⟨M', rfl⟩ := Int.eq_ofNat_of_zero_le (show 0 ≤ M by omega)
        refine ⟨by omega, ?_⟩
        show _ ≤ ((2 ^ (Nat.log2 M' + 1) - 1 : Nat) : Int)
        have : (M' : Int).toNat = M' := by simp
        rw [this] at o3
        omega
      split at h
      · rename_i hd
        cases h
        have key : bits .or k (a.ev ρ) (b.ev ρ) = a.ev ρ + b.ev ρ := by
          simp only [Bool.or_eq_true] at hd
          rcases hd with hd | hd
          · have := leI_le hd
            exact bits_join k (kW k) (kW_le k) wrap_w x.tz _ _ (by omega) x3 wx (by omega) (by have e : ((2 ^ x.tz : Nat) : Int) = 2 ^ x.tz := (by simp); omega) wy
          · have := leI_le hd
            have comm : bits .or k (a.ev ρ) (b.ev ρ) = bits .or k (b.ev ρ) (a.ev ρ) := by
              show k.wrap _ = k.wrap _
              simp only [BitVec.or_comm]
            rw [comm, Int.add_comm]
            exact bits_join k (kW k) (kW_le k) wrap_w y.tz _ _ (by omega) y3 wy (by omega) (by have e : ((2 ^ y.tz : Nat) : Int) = 2 ^ y.tz := (by simp); omega) wx
        have hones := orle
        rw [hev, key] at hones
        rw [hev, key]
        refine ⟨rfl, by show (0 : Int) ≤ _; omega, ?_, by show (_ + _) % _ = _; rw [Int.add_emod, min3.1, min3.2]; simp⟩
        have : minI (x.hi + y.hi) (ones (maxI x.hi y.hi)) = x.hi + y.hi ∨ minI (x.hi + y.hi) (ones (maxI x.hi y.hi)) = ones (maxI x.hi y.hi) := by unfold minI; split <;> simp
        show _ ≤ minI (x.hi + y.hi) (ones (maxI x.hi y.hi))
        omega
      · cases h
        exact ⟨rfl, has0 or0 orle⟩
    · cases h; exact ⟨rfl, full _⟩
  · cases h; exact ⟨rfl, full _⟩
  · cases h; exact ⟨rfl, full _⟩
  · split at h
    · rename_i m hnn
      simp only [nn, Bool.and_eq_true] at hnn
      cases h
      have h0 := leI_le hnn.1.1
      have hk := leI_le hnn.2
      have hp : (0 : Int) < ((m + 1 : Nat) : Int) := by omega
      have e1 : (a.ev ρ).tdiv ((m + 1 : Nat) : Int) = a.ev ρ / ((m + 1 : Nat) : Int) := Int.tdiv_eq_ediv_of_nonneg (by omega)
      have b1 : 0 ≤ a.ev ρ / ((m + 1 : Nat) : Int) := Int.ediv_nonneg (by omega) (Int.le_of_lt hp)
      have b2 := Int.ediv_le_self ((m + 1 : Nat) : Int) (show 0 ≤ a.ev ρ by omega)
      have e2 : (Ins.op2 .quo k a (.l (.ofNat (m + 1)))).ev F ρ = a.ev ρ / ((m + 1 : Nat) : Int) := by
        show k.wrap ((a.ev ρ).tdiv ((m + 1 : Nat) : Int)) = _
        rw [e1]
        refine wrap_id (Int.le_trans ?_ b1) (by omega)
        cases k <;> simp [kLo]
      rw [e2]
      exact ⟨rfl, has0 b1 (Int.ediv_le_ediv hp x2)⟩
    · cases h; exact ⟨rfl, full _⟩
  · split at h
    · rename_i m hnn
      simp only [nn, Bool.and_eq_true] at hnn
      cases h
      have h0 := leI_le hnn.1
      have e1 : (a.ev ρ).tmod ((m + 1 : Nat) : Int) = a.ev ρ % ((m + 1 : Nat) : Int) := Int.tmod_eq_emod_of_nonneg (by omega)
      have e2 : (Ins.op2 .rem k a (.l (.ofNat (m + 1)))).ev F ρ = a.ev ρ % ((m + 1 : Nat) : Int) := e1
      rw [e2]
      have l1 := Int.emod_nonneg (a.ev ρ) (show ((m + 1 : Nat) : Int) ≠ 0 by omega)
      have l2 := Int.emod_lt_of_pos (a.ev ρ) (show (0 : Int) < ((m + 1 : Nat) : Int) by omega)
      have l3 : a.ev ρ % ((m + 1 : Nat) : Int) ≤ a.ev ρ := by
        obtain ⟨q, hq⟩ := Int.eq_ofNat_of_zero_le (show 0 ≤ a.ev ρ by omega)
        rw [hq]
        exact_mod_cast Nat.mod_le q (m + 1)
      have : minI x.hi m = x.hi ∨ minI x.hi m = m := by unfold minI; split <;> simp
      exact ⟨rfl, has0 l1 (by omega)⟩
    · cases h
  · -- the comparisons
    rename_i n1 n2 n3 n4 n5 n6 n7 n8 n9 n10 n11
    cases h
    refine ⟨rfl, ?_⟩
    have hb : ∀ c : Bool, (⟨0, 1, 0⟩ : Av).has (b2i c) := fun c => by cases c <;> exact has0 (by decide) (by decide)
    cases o <;> first | exact hb _ | contradiction

end Go.X

namespace Go.X

/-- bounds of a list of integers -/
abbrev Bd := List (Int × Int)

def InB : Bd → List Int → Prop
  | [], [] => True
  | (l, h) :: r, x :: xs => l ≤ x ∧ x ≤ h ∧ InB r xs
  | _, _ => False

/-- per number: what a function asks of its integers, what it gives -/
abbrev Tb := List (Bd → Option Bd)

def avInB (env : AEnv) : Bd → List A → Bool
  | [], [] => true
  | (l, h) :: r, a :: as => (match avA env a with | some v => leI l v.lo && leI v.hi h | none => false) && avInB env r as
  | _, _ => false

theorem avInB_ok {ρ : Nat → Int} {env : AEnv} (he : EnvOk ρ env) : ∀ {b : Bd} {as : List A}, avInB env b as = true → InB b (as.map (A.ev ρ))
  | [], [], _ => trivial
  | [], _ :: _, h => by simp [avInB] at h
  | _ :: _, [], h => by simp [avInB] at h
  | (l, hh) :: r, a :: as, h => by
    simp only [avInB, Bool.and_eq_true] at h
    obtain ⟨h1, h2⟩ := h
    split at h1
    · rename_i v hv
      simp only [Bool.and_eq_true] at h1
      have := avA_has he hv
      exact ⟨Int.le_trans (leI_le h1.1) this.1, Int.le_trans this.2.1 (leI_le h1.2), avInB_ok he h2⟩
    · cases h1

theorem InB.len : ∀ {b : Bd} {xs : List Int}, InB b xs → xs.length = b.length
  | [], [], _ => rfl
  | [], _ :: _, h => h.elim
  | _ :: _, [], h => h.elim
  | _ :: r, _ :: xs, h => by simp [InB.len h.2.2]

theorem InB.get : ∀ {b : Bd} {xs : List Int}, InB b xs → ∀ (i : Nat) (p : Int × Int), b[i]? = some p → p.1 ≤ xs.getD i 0 ∧ xs.getD i 0 ≤ p.2
  | [], [], _, i, p, h => by simp at h
  | [], _ :: _, h, _, _, _ => h.elim
  | _ :: _, [], h, _, _, _ => h.elim
  | q :: r, x :: xs, h, i, p, hp => by
    cases i with
    | zero => simp at hp; subst hp; exact ⟨h.1, h.2.1⟩
    | succ i => simpa using InB.get h.2.2 i p (by simpa using hp)

def TbOk (F : Fns) (tb : Tb) : Prop := ∀ c bt, tb[c]? = some bt → ∀ bi bo, bt bi = some bo → ∀ xs, InB bi xs → InB bo (F c xs)

/-- the bounds of atoms -/
def avB (env : AEnv) : List A → Option Bd
  | [] => some []
  | a :: as => match avA env a, avB env as with
    | some v, some r => some ((v.lo, v.hi) :: r)
    | _, _ => none

theorem avB_ok {ρ : Nat → Int} {env : AEnv} (he : EnvOk ρ env) : ∀ {as : List A} {b : Bd}, avB env as = some b → InB b (as.map (A.ev ρ))
  | [], b, h => by simp [avB] at h; subst h; trivial
  | a :: as, b, h => by
    simp only [avB] at h
    split at h
    · rename_i v r hv hr
      cases h
      have := avA_has he hv
      exact ⟨this.1, this.2.1, avB_ok he hr⟩
    · cases h

def hullL (env : AEnv) : List A → Option (Int × Int)
  | [] => some (0, 0)
  | a :: r => match avA env a, hullL env r with
    | some v, some (lo, hi) => some (minI v.lo lo, maxI v.hi hi)
    | _, _ => none

theorem hullL_get {ρ : Nat → Int} {env : AEnv} (he : EnvOk ρ env) : ∀ {as : List A} {lo hi : Int}, hullL env as = some (lo, hi) → lo ≤ 0 ∧ 0 ≤ hi ∧ ∀ a ∈ as, lo ≤ a.ev ρ ∧ a.ev ρ ≤ hi
  | [], lo, hi, h => by simp [hullL] at h; obtain ⟨rfl, rfl⟩ := h; simp
  | a :: r, lo, hi, h => by
    simp only [hullL] at h
    split at h
    · rename_i v lo1 hi1 hv hr
      cases h
      obtain ⟨h1, h2, h3⟩ := hullL_get he hr
      have hh := avA_has he hv
      have m1 := minI_l v.lo lo1
      have m2 := minI_r v.lo lo1
      have m3 := maxI_l v.hi hi1
      have m4 := maxI_r v.hi hi1
      refine ⟨by omega, by omega, ?_⟩
      intro b hb
      cases hb with
      | head => exact ⟨by have := hh.1; omega, by have := hh.2.1; omega⟩
      | tail _ hb => have := h3 b hb; omega
    · cases h

def cleanI (tb : Tb) (env : AEnv) (i : Ins) : Option (CI × Av) :=
  match i with
  | .op2 o k a b => match avA env a, avA env b with
    | some x, some y => clean2 o k a b x y
    | _, _ => none
  | .conv k a => match avA env a with
    | some x => match leI (kLo k) x.lo && leI x.hi (kHi k) with
      | true => some (.cp a, x)
      | false => match kU k with
        | true => some (.mod a (2 ^ kW k), ⟨kLo k, kHi k, 0⟩)
        | false => some (.raw i, ⟨kLo k, kHi k, 0⟩)
    | none => none
  | .ite _ a b => match avA env a, avA env b with
    | some x, some y => some (.raw i, ⟨minI x.lo y.lo, maxI x.hi y.hi, 0⟩)
    | _, _ => none
  | .max a b => match avA env a, avA env b with
    | some x, some y => some (.raw i, ⟨minI x.lo y.lo, maxI x.hi y.hi, 0⟩)
    | _, _ => none
  | .min a b => match avA env a, avA env b with
    | some x, some y => some (.raw i, ⟨minI x.lo y.lo, maxI x.hi y.hi, 0⟩)
    | _, _ => none
  | .eqs _ _ _ => some (.raw i, ⟨0, 1, 0⟩)
  | .sel xs _ => match hullL env xs with
    | some (lo, hi) => some (.raw i, ⟨lo, hi, 0⟩)
    | none => none
  | .app c args j => match tb[c]? with
    | some bt => match avB env args with
      | some b => match bt b with
        | some bo => match bo[j]? with
          | some (lo, hi) => some (.raw i, ⟨lo, hi, 0⟩)
          | none => none
        | none => none
      | none => none
    | none => none

theorem cleanI_sound {F : Fns} {tb : Tb} (ht : TbOk F tb) {ρ : Nat → Int} {env : AEnv} (he : EnvOk ρ env) {i : Ins} {ci : CI} {v : Av} (h : cleanI tb env i = some (ci, v)) :
    i.ev F ρ = ci.ev F ρ ∧ v.has (i.ev F ρ) := by
  have pick : ∀ {x y : Av} {m n t : Int}, x.has m → y.has n → (t = m ∨ t = n) → (⟨minI x.lo y.lo, maxI x.hi y.hi, 0⟩ : Av).has t := by
    intro x y m n t hx hy ht
    have m1 := minI_l x.lo y.lo
    have m2 := minI_r x.lo y.lo
    have m3 := maxI_l x.hi y.hi
    have m4 := maxI_r x.hi y.hi
    have := hx.1; have := hx.2.1; have := hy.1; have := hy.2.1
    exact has0 (by omega) (by omega)
  unfold cleanI at h
  split at h
  · split at h
    · rename_i x y hx hy; exact clean2_sound he hx hy h
    · cases h
  · split at h
    · rename_i x hx
      have hh := avA_has he hx
      split at h
      · rename_i hr
        simp only [Bool.and_eq_true] at hr
        cases h
        have e := wrap_id (Int.le_trans (leI_le hr.1) hh.1) (Int.le_trans hh.2.1 (leI_le hr.2))
        show _ = A.ev ρ _ ∧ _
        simp only [Ins.ev]
        rw [e]; exact ⟨rfl, hh⟩
      · split at h
        · rename_i hu
          cases h
          simp only [Ins.ev, CI.ev]
          refine ⟨wrap_u hu _, has0 (wrap_in _ _).1 (wrap_in _ _).2⟩
        · cases h; exact ⟨rfl, has0 (wrap_in _ _).1 (wrap_in _ _).2⟩
    · cases h
  · split at h
    · rename_i x y hx hy
      cases h
      refine ⟨rfl, pick (avA_has he hx) (avA_has he hy) ?_⟩
      simp only [Ins.ev]; split <;> simp
    · cases h
  · split at h
    · rename_i x y hx hy
      cases h
      refine ⟨rfl, pick (avA_has he hx) (avA_has he hy) ?_⟩
      simp only [Ins.ev]; split <;> simp
    · cases h
  · split at h
    · rename_i x y hx hy
      cases h
      refine ⟨rfl, pick (avA_has he hx) (avA_has he hy) ?_⟩
      simp only [Ins.ev]; split <;> simp
    · cases h
  · rename_i by_ xs ys
    cases h
    have hb : ∀ c : Bool, (⟨0, 1, 0⟩ : Av).has (b2i c) := fun c => by cases c <;> exact has0 (by decide) (by decide)
    refine ⟨rfl, ?_⟩
    cases by_ <;> exact hb _
  · split at h
    · rename_i xs i _ lo hi hl
      cases h
      obtain ⟨h1, h2, h3⟩ := hullL_get he hl
      refine ⟨rfl, ?_⟩
      simp only [Ins.ev, List.getD_eq_getElem?_getD]
      cases hx : xs[(i.ev ρ).toNat]? with
      | none => exact has0 h1 h2
      | some a => have := h3 a (List.mem_of_getElem? hx); exact has0 this.1 this.2
    · cases h
  · split at h
    · rename_i c args j _ bt hc
      split at h
      · rename_i b hb
        split at h
        · rename_i bo hbo
          split at h
          · rename_i lo hi hj
            cases h
            have := InB.get (ht c bt hc b bo hbo _ (avB_ok he hb)) j _ hj
            exact ⟨rfl, has0 this.1 this.2⟩
          · cases h
        · cases h
      · cases h
    · cases h

def cleanL (tb : Tb) (env0 : AEnv) : List (Nat × Ins) → Option (List (Nat × CI) × AEnv)
  | [] => some ([], env0)
  | (x, i) :: r => match cleanL tb env0 r with
    | some (cl, env) => match cleanI tb env i with
      | some (ci, av) => some ((x, ci) :: cl, (x, av) :: env)
      | none => none
    | none => none

def CHold (F : Fns) (ρ : Nat → Int) : List (Nat × CI) → Prop
  | [] => True
  | (x, c) :: r => ρ x = c.ev F ρ ∧ CHold F ρ r

theorem cleanL_sound {F : Fns} {tb : Tb} (ht : TbOk F tb) {ρ : Nat → Int} {env0 : AEnv} (he : EnvOk ρ env0) : ∀ {l : List (Nat × Ins)} {cl : List (Nat × CI)} {env : AEnv}, cleanL tb env0 l = some (cl, env) → Sat F ρ l → CHold F ρ cl ∧ EnvOk ρ env
  | [], cl, env, h, _ => by simp [cleanL] at h; obtain ⟨rfl, rfl⟩ := h; exact ⟨trivial, he⟩
  | (x, i) :: r, cl, env, h, hs => by
    simp only [cleanL] at h
    split at h
    · rename_i cl1 env1 h1
      split at h
      · rename_i ci av h2
        cases h
        obtain ⟨k1, k2⟩ := cleanL_sound ht he h1 (fun y hy => hs y (List.mem_cons_of_mem _ hy))
        obtain ⟨e1, e2⟩ := cleanI_sound ht k2 h2
        have hx := hs (x, i) (List.mem_cons_self ..)
        simp only at hx
        refine ⟨⟨by rw [hx]; exact e1, k1⟩, ?_⟩
        intro y v hy
        simp only [lkE] at hy
        split at hy
        · rename_i e
          have := Nat.eq_of_beq_eq_true e
          subst this
          cases hy
          rw [hx]; exact e2
        · exact k2 y v hy
      · cases h
    · cases h

/-- the bounds of the inputs, as an environment -/
def env0 : Bd → Nat → AEnv
  | [], _ => []
  | (l, h) :: r, i => (i, ⟨l, h, 0⟩) :: env0 r (i + 1)

theorem env0_ok : ∀ {b : Bd} {xs : List Int} {i : Nat} {ρ : Nat → Int}, InB b xs → (∀ j, ρ (i + j) = xs.getD j 0) → EnvOk ρ (env0 b i)
  | [], [], i, ρ, _, _ => fun x v h => by cases h
  | [], _ :: _, _, _, h, _ => h.elim
  | _ :: _, [], _, _, h, _ => h.elim
  | (l, hh) :: r, x :: xs, i, ρ, h, hr => by
    intro y v hy
    simp only [env0, lkE] at hy
    split at hy
    · rename_i e
      have := Nat.eq_of_beq_eq_true e
      subst this
      cases hy
      have h0 := hr 0
      simp at h0
      rw [h0]; exact has0 h.1 h.2.1
    · refine env0_ok (xs := xs) h.2.2 ?_ y v hy
      intro j
      have := hr (j + 1)
      rw [show i + 1 + j = i + (j + 1) from by omega, this]
      simp

/-- what was asked on the way, by bounds alone -/
def asmB (prb : List Bd) (env : AEnv) : List Asm → Bool
  | [] => true
  | .pre c args :: r => (match prb[c]? with | some b => avInB env b args | none => false) && asmB prb env r
  | .cond a b :: r => (match avA env a, b with
    | some v, true => leI 1 v.lo
    | some v, false => leI 0 v.lo && leI v.hi 0
    | none, _ => false) && asmB prb env r
  | .rng a n :: r => (match avA env a with | some v => leI 0 v.lo && leI (v.hi + 1) n | none => false) && asmB prb env r
  | .nn a :: r => (match avA env a with | some v => leI 0 v.lo | none => false) && asmB prb env r

def PrOk (pr : Prs) (prb : List Bd) : Prop := ∀ c b, prb[c]? = some b → ∀ xs, InB b xs → pr c xs

theorem asmB_ok {pr : Prs} {prb : List Bd} (hp : PrOk pr prb) {ρ : Nat → Int} {env : AEnv} (he : EnvOk ρ env) : ∀ {l : List Asm}, asmB prb env l = true → Hold pr ρ l
  | [], _ => fun x hx => by cases hx
  | y :: r, h => by
    have key : y.holds pr ρ ∧ asmB prb env r = true := by
      cases y with
      | pre c args =>
        simp only [asmB, Bool.and_eq_true] at h
        refine ⟨?_, h.2⟩
        have h1 := h.1
        split at h1
        · rename_i b hb; exact hp c b hb _ (avInB_ok he h1)
        · cases h1
      | cond a b =>
        simp only [asmB, Bool.and_eq_true] at h
        refine ⟨?_, h.2⟩
        have h1 := h.1
        split at h1
        · rename_i v hv
          have := (avA_has he hv).1
          have := leI_le h1
          show (a.ev ρ != 0) = true
          simp; omega
        · rename_i v hv
          simp only [Bool.and_eq_true] at h1
          have hh := avA_has he hv
          have := hh.1; have := hh.2.1; have := leI_le h1.1; have := leI_le h1.2
          show (a.ev ρ != 0) = false
          simp; omega
        · cases h1
      | rng a n =>
        simp only [asmB, Bool.and_eq_true] at h
        refine ⟨?_, h.2⟩
        have h1 := h.1
        split at h1
        · rename_i v hv
          simp only [Bool.and_eq_true] at h1
          have hh := avA_has he hv
          have := hh.1; have := hh.2.1; have := leI_le h1.1; have := leI_le h1.2
          exact ⟨by omega, by omega⟩
        · cases h1
      | nn a =>
        simp only [asmB, Bool.and_eq_true] at h
        refine ⟨?_, h.2⟩
        have h1 := h.1
        split at h1
        · rename_i v hv
          have hh := (avA_has he hv).1
          have := leI_le h1
          show (0 : Int) ≤ _
          omega
        · cases h1
    intro x hx
    cases hx with
    | head => exact key.1
    | tail _ hx => exact asmB_ok hp he key.2 x hx

/-! ### functions with their bounds -/

structure Sem where
  f : List Int → List Int
  bi : Bd
  bt : Bd → Option Bd
  ok : ∀ b bo, bt b = some bo → ∀ xs, InB b xs → InB bo (f xs)

structure World0 (P : Program) where
  gv : Nat → Value
  gl : Nat → Nat
  I : World → Prop
  base : Nat
  hg : ∀ k, ∃ a cap, gv k = .slice a (gl k) cap
  st : Stable I base
  mix : P.follows .mixedOrders = true

/-- the template stands for the function, whatever its number -/
def Good {P : Program} (W : World0 P) (T : Tmpl) (s : Sem) : Prop :=
  ∀ (F : Fns) (pr : Prs) (c : Nat), F c = s.f → pr c = InB s.bi → TSound P F pr W.gv W.I W.base c T

def tabF (gl : Nat → Nat) (l : List Sem) : Fns := fun c => match l[c]? with
  | some t => t.f
  | none => fun _ => [((gl (c - 1000000) : Nat) : Int)]

def tabP (l : List Sem) : Prs := fun c => match l[c]? with
  | some t => InB t.bi
  | none => fun _ => False

/-- the table where no slice is asked for its length -/
abbrev tab (l : List Sem) : Fns := tabF (fun _ => 0) l

def GoodL {P : Program} (W : World0 P) : List Tmpl → List Sem → Prop
  | [], _ => True
  | _ :: _, [] => False
  | t :: r, s :: q => Good W t s ∧ GoodL W r q

theorem GoodL.get {P : Program} {W : World0 P} : ∀ {l : List Tmpl} {q : List Sem}, GoodL W l q → ∀ (i : Nat) (t : Tmpl), l[i]? = some t → ∃ s, q[i]? = some s ∧ Good W t s
  | [], _, _, i, t, h => by simp at h
  | _ :: _, [], h, _, _, _ => h.elim
  | x :: r, y :: q, h, i, t, ht => by
    cases i with
    | zero => simp at ht; subst ht; exact ⟨y, rfl, h.1⟩
    | succ i => simpa using GoodL.get h.2 i t (by simpa using ht)

theorem GoodL.cx {P : Program} {W : World0 P} {l : List Tmpl} {q : List Sem} (h : GoodL W l q) (hlen : q.length ≤ 1000000) (E : Env) (hE : E.gv = W.gv) : Cx P (tabF W.gl q) (tabP q) W.I W.base l E := by
  refine ⟨?_, ?_, W.st, W.mix⟩
  · intro i T hT
    obtain ⟨s, hs, hg⟩ := h.get i T hT
    rw [hE]
    exact hg _ _ i (by simp [tabF, hs]) (by simp [tabP, hs])
  · intro k
    obtain ⟨a, cap, e⟩ := W.hg k
    refine ⟨a, W.gl k, cap, by rw [hE, e], ?_⟩
    have hn : q[ghostFn k]? = none := List.getElem?_eq_none (by unfold ghostFn; omega)
    simp only [tabF, hn]
    simp [ghostFn]

theorem tbOk (gl : Nat → Nat) (l : List Sem) : TbOk (tabF gl l) (l.map Sem.bt) := by
  intro c bt hc bi bo hb xs hx
  rw [List.getElem?_map] at hc
  cases ht : l[c]? with
  | none => rw [ht] at hc; cases hc
  | some t =>
    rw [ht] at hc; cases hc
    simp only [tabF, ht]
    exact t.ok bi bo hb xs hx

theorem tabP_ok (l : List Sem) : PrOk (tabP l) (l.map Sem.bi) := by
  intro c b hc xs hx
  rw [List.getElem?_map] at hc
  cases ht : l[c]? with
  | none => rw [ht] at hc; cases hc
  | some t => rw [ht] at hc; cases hc; simp only [tabP, ht]; exact hx

/-- the variables of a run -/
def vals (l : List Sem) (g : List (Nat × Ins)) (xs : List Int) : Nat → Int := evalS (tab l) g fun x => xs.getD x 0

/-- the function of a run -/
def runF (l : List Sem) (g : List (Nat × Ins)) (outs : List A) (xs : List Int) : List Int := outs.map (A.ev (vals l g xs))

/-- no instruction looks beyond the table -/
def appLt (n : Nat) : List (Nat × Ins) → Bool
  | [] => true
  | (_, .app c _ _) :: r => Nat.blt c n && appLt n r
  | _ :: r => appLt n r

theorem evalS_congr {F F' : Fns} {n : Nat} (h : ∀ c, c < n → F c = F' c) {ρ0 : Nat → Int} : ∀ {g : List (Nat × Ins)}, appLt n g = true → evalS F g ρ0 = evalS F' g ρ0
  | [], _ => rfl
  | (x, i) :: r, hg => by
    have hr : appLt n r = true := by
      unfold appLt at hg
      split at hg
      · rename_i e; cases e
      · rename_i e; cases e; simp only [Bool.and_eq_true] at hg; exact hg.2
      · rename_i e; cases e; exact hg
    have ih := evalS_congr h (ρ0 := ρ0) hr
    have hi : i.ev F (evalS F r ρ0) = i.ev F' (evalS F' r ρ0) := by
      rw [ih]
      cases i with
      | app c args j =>
        have : c < n := by
          simp only [appLt, Bool.and_eq_true] at hg
          exact Nat.le_of_ble_eq_true hg.1
        simp only [Ins.ev]
        rw [h c this]
      | eqs b xs ys => cases b <;> rfl
      | _ => rfl
    funext y
    show (if y = x then _ else _) = (if y = x then _ else _)
    rw [hi, ih]

theorem vals_eq {gl : Nat → Nat} {l : List Sem} {g : List (Nat × Ins)} (h : appLt l.length g = true) (xs : List Int) : vals l g xs = evalS (tabF gl l) g fun x => xs.getD x 0 := by
  unfold vals
  refine evalS_congr ?_ h
  intro c hc
  simp [tabF, hc]

/-- bounds out of bounds, once for all inputs within bi -/
def subB : Bd → Bd → Bool
  | [], [] => true
  | (l, h) :: r, (l', h') :: r' => leI l' l && leI h h' && subB r r'
  | _, _ => false

theorem InB.sub : ∀ {b b' : Bd} {xs : List Int}, subB b b' = true → InB b xs → InB b' xs
  | [], [], xs, _, h => h
  | [], _ :: _, _, h, _ => by simp [subB] at h
  | _ :: _, [], _, h, _ => by simp [subB] at h
  | _ :: _, _ :: _, [], _, h => h.elim
  | (l, hh) :: r, (l', h') :: r', x :: xs, h, hx => by
    simp only [subB, Bool.and_eq_true] at h
    exact ⟨Int.le_trans (leI_le h.1.1) hx.1, Int.le_trans hx.2.1 (leI_le h.1.2), InB.sub h.2 hx.2.2⟩

def stB (bi bo : Bd) (b : Bd) : Option Bd := match subB b bi with
  | true => some bo
  | false => none

/-- a function given by hand -/
def Sem.of (f : List Int → List Int) (bi bo : Bd) (h : ∀ xs, InB bi xs → InB bo (f xs)) : Sem :=
  ⟨f, bi, stB bi bo, fun b bo' hb xs hx => by
    unfold stB at hb
    split at hb
    · rename_i hs; cases hb; exact h xs (hx.sub hs)
    · cases hb⟩

theorem env0_lt {x : Nat} {v : Av} : ∀ {b : Bd} {i : Nat}, lkE (env0 b i) x = some v → x < i + b.length
  | [], i, h => by cases h
  | p :: b, i, h => by
    simp only [env0, lkE] at h
    split at h
    · rename_i e; have := Nat.eq_of_beq_eq_true e; simp; omega
    · have := env0_lt h; simp; omega

/-- the plain equations of a run, its inputs within bounds -/
def cleanOf (l : List Sem) (g : List (Nat × Ins)) (b : Bd) : Option (List (Nat × CI) × AEnv) := cleanL (l.map Sem.bt) (env0 b 0) g

theorem run_env {l : List Sem} {g : List (Nat × Ins)} {nin top : Nat} (hw : wfS nin g top = true) {b : Bd} (hbl : Nat.ble b.length nin = true) {cl : List (Nat × CI)} {env : AEnv}
    (hc : cleanOf l g b = some (cl, env)) {xs : List Int} (hx : InB b xs) : CHold (tab l) (vals l g xs) cl ∧ EnvOk (vals l g xs) env ∧ ∀ x, x < nin → vals l g xs x = xs.getD x 0 := by
  have hbl := Nat.le_of_ble_eq_true hbl
  obtain ⟨hsat, hin, _⟩ := evalS_sat (F := tab l) (ρ0 := fun x => xs.getD x 0) hw
  have he : EnvOk (evalS (tab l) g fun x => xs.getD x 0) (env0 b 0) := by
    intro x v hv
    have hlt := env0_lt hv
    have := env0_ok (ρ := fun x => xs.getD x 0) (i := 0) hx (fun j => by simp) x v hv
    rw [hin x (by omega)]; exact this
  obtain ⟨k1, k2⟩ := cleanL_sound (tbOk _ l) he hc hsat
  exact ⟨k1, k2, hin⟩

/-- the checks of a run that ask for no program -/
def runB (l : List Sem) (g : List (Nat × Ins)) (nin top : Nat) (bi : Bd) : Bool :=
  wfS nin g top && Nat.beq bi.length nin && appLt l.length g

/-- bounds out of the run -/
def dyB (l : List Sem) (g : List (Nat × Ins)) (nin : Nat) (outs : List A) (b : Bd) : Option Bd :=
  match Nat.ble b.length nin with
  | true => match cleanOf l g b with
    | some (_, env) => avB env outs
    | none => none
  | false => none

def Sem.dy (l : List Sem) (g : List (Nat × Ins)) (nin top : Nat) (outs : List A) (bi : Bd) (h : runB l g nin top bi = true) : Sem :=
  ⟨runF l g outs, bi, dyB l g nin outs, by
    intro b bo hb xs hx
    simp only [runB, Bool.and_eq_true] at h
    unfold dyB at hb
    split at hb
    · rename_i hle
      split at hb
      · rename_i cl env hcl
        exact avB_ok (run_env h.1.1 hle hcl hx).2.1 hb
      · cases hb
    · cases hb⟩

def outBd (l : List Sem) (g : List (Nat × Ins)) (bi bo : Bd) (outs : List A) : Bool :=
  match cleanOf l g bi with
  | some (_, env) => avInB env bo outs
  | none => false

def Sem.st (l : List Sem) (g : List (Nat × Ins)) (nin top : Nat) (outs : List A) (bi bo : Bd) (h : (runB l g nin top bi && outBd l g bi bo outs) = true) : Sem :=
  Sem.of (runF l g outs) bi bo (by
    intro xs hx
    simp only [runB, Bool.and_eq_true] at h
    obtain ⟨⟨⟨h1, h2⟩, h3⟩, h4⟩ := h
    have h2 := Nat.eq_of_beq_eq_true h2
    unfold outBd at h4
    split at h4
    · rename_i cl env hcl
      exact avInB_ok (run_env h1 (Nat.ble_eq_true_of_le (by omega)) hcl hx).2.1 h4
    · cases h4)

/-- another function of the same values -/
theorem Good.swap {P : Program} {W : World0 P} {T : Tmpl} {s s' : Sem} (h : Good W T s) (hn : T.hasPre = true) (hb : s'.bi = s.bi) (hf : ∀ xs, InB s.bi xs → s.f xs = s'.f xs) : Good W T s' := by
  intro F pr c hF hp E σ w args hpre
  let F0 : Fns := fun i => if i = c then s.f else F i
  refine h F0 pr c (by simp [F0]) (by rw [hp, hb]) E σ w args ⟨hpre.gv, hpre.inv, hpre.ble, ?_, hpre.pre, hpre.free, hpre.rep, hpre.args⟩
  intro j hj
  rw [hpre.out j hj]
  have hin := hpre.pre hn
  rw [hp, hb] at hin
  simp only [F0, if_pos]
  rw [hF, hf _ hin]

/-! ### runs by paths -/

/-- what a path asks of its conditions -/
def CondHold (ρ : Nat → Int) : List Asm → Prop
  | [] => True
  | .cond a b :: r => (a.ev ρ != 0) = b ∧ CondHold ρ r
  | _ :: r => CondHold ρ r

/-- what was asked on the way but for the conditions, by bounds alone -/
def asmC (prb : List Bd) (env : AEnv) : List Asm → Bool
  | [] => true
  | .cond _ _ :: r => asmC prb env r
  | x :: r => asmB prb env [x] && asmC prb env r

theorem asmC_ok {pr : Prs} {prb : List Bd} (hp : PrOk pr prb) {ρ : Nat → Int} {env : AEnv} (he : EnvOk ρ env) : ∀ {l : List Asm}, asmC prb env l = true → CondHold ρ l → Hold pr ρ l
  | [], _, _ => fun x hx => by cases hx
  | y :: r, h, hc => by
    have key : y.holds pr ρ ∧ asmC prb env r = true ∧ CondHold ρ r := by
      cases y with
      | cond a b => exact ⟨hc.1, h, hc.2⟩
      | _ =>
        simp only [asmC, Bool.and_eq_true] at h
        exact ⟨asmB_ok hp he h.1 _ (List.mem_cons_self ..), h.2, hc⟩
    intro x hx
    cases hx with
    | head => exact key.1
    | tail _ hx => exact asmC_ok hp he key.2.1 key.2.2 x hx

structure Path where
  bi : Bd
  orc : List Bool
  out : Out
  ft : Fit
  fuel : Nat

/-- the checks of one path -/
def pathB (T : Tmpl) (l : List Sem) (p : Path) : Bool :=
  fitsB T p.out p.ft && runB l p.out.g.ssa T.nin p.out.g.n p.bi &&
  match cleanOf l p.out.g.ssa p.bi with
  | some (_, env) => asmC (l.map Sem.bi) env p.out.g.asm
  | none => false

theorem paths {P : Program} {W : World0 P} {ts : List Tmpl} {l : List Sem} (hl : GoodL W ts l) (hlen : Nat.ble l.length 1000000 = true) {T : Tmpl} {s : Sem} {fn : Func} {ps : List Path}
    (hf : P.funcs[T.f]? = some fn) (hc : ∀ args w, (callFunc T.f args).run P w = .ok (.enter T.f args) w)
    (hb : (ownT T && T.hasPre) = true) (hr : ∀ p ∈ ps, runBody P ts [] fn p.fuel T.args T.mem T.nin p.orc = some p.out ∧ pathB T l p = true)
    (hcov : ∀ xs, InB s.bi xs → ∃ p ∈ ps, InB p.bi xs ∧ CondHold (vals l p.out.g.ssa xs) p.out.g.asm ∧ s.f xs = p.ft.outs.map (A.ev (vals l p.out.g.ssa xs))) : Good W T s := by
  simp only [Bool.and_eq_true] at hb
  intro F pr c hFc hpc
  refine body_sound (F' := tabF W.gl l) (pr' := tabP l) (ls := []) hf hc hb.1 (fun E hE => hl.cx (Nat.le_of_ble_eq_true hlen) E hE) (fun _ h => by cases h) (fun _ _ _ _ _ h => by cases h) ?_
  intro xs hlx hpx
  have hx : InB s.bi xs := by have := hpx hb.2; rwa [hpc] at this
  obtain ⟨p, hp, hx, hcond, hval⟩ := hcov xs hx
  obtain ⟨hrun, hpb⟩ := hr p hp
  simp only [pathB, runB, Bool.and_eq_true] at hpb
  obtain ⟨⟨p1, ⟨⟨p2, p3⟩, p4⟩⟩, p5⟩ := hpb
  have p3 := Nat.eq_of_beq_eq_true p3
  have hv := vals_eq (gl := W.gl) p4 xs
  refine ⟨p.fuel, p.orc, p.out, p.ft, hrun, p1, p2, ?_, ?_⟩
  · intro j a hj
    rw [hFc, hval, ← hv]
    simp [List.getD_eq_getElem?_getD, hj]
  · rw [← hv]
    split at p5
    · rename_i cl env hcl
      exact asmC_ok (tabP_ok l) (run_env p2 (Nat.ble_eq_true_of_le (by omega)) hcl hx).2.1 p5 hcond
    · cases p5

/-- a path without its program -/
structure FPath where
  bi : Bd
  g : List (Nat × Ins)
  asm : List Asm
  outs : List A

def Path.fp (p : Path) : FPath := ⟨p.bi, p.out.g.ssa, p.out.g.asm, p.ft.outs⟩

/-- the paths cover what comes in -/
def Covered (l : List Sem) (s : Sem) (fs : List FPath) : Prop :=
  ∀ xs, InB s.bi xs → ∃ p ∈ fs, InB p.bi xs ∧ CondHold (vals l p.g xs) p.asm ∧ s.f xs = p.outs.map (A.ev (vals l p.g xs))

theorem paths_fp {l : List Sem} {s : Sem} {fs : List FPath} {ps : List Path} (h : Covered l s fs) (e : ps.map Path.fp = fs) :
    ∀ xs, InB s.bi xs → ∃ p ∈ ps, InB p.bi xs ∧ CondHold (vals l p.out.g.ssa xs) p.out.g.asm ∧ s.f xs = p.ft.outs.map (A.ev (vals l p.out.g.ssa xs)) := by
  intro xs hx
  obtain ⟨q, hq, h1, h2⟩ := h xs hx
  rw [← e] at hq
  obtain ⟨p, hp, rfl⟩ := List.mem_map.1 hq
  exact ⟨p, hp, h1, h2⟩

/-- a run without forks -/
def condFree : List Asm → Bool
  | [] => true
  | .cond _ _ :: _ => false
  | _ :: r => condFree r

theorem condFree_ok {ρ : Nat → Int} : ∀ {l : List Asm}, condFree l = true → CondHold ρ l
  | [], _ => trivial
  | .cond _ _ :: _, h => by simp [condFree] at h
  | .nn _ :: r, h => condFree_ok (l := r) h
  | .rng _ _ :: r, h => condFree_ok (l := r) h
  | .pre _ _ :: r, h => condFree_ok (l := r) h

theorem straight {P : Program} {W : World0 P} {ts : List Tmpl} {l : List Sem} (hl : GoodL W ts l) {T : Tmpl} {s : Sem} {fn : Func} {p : Path}
    (hf : P.funcs[T.f]? = some fn) (hc : ∀ args w, (callFunc T.f args).run P w = .ok (.enter T.f args) w)
    (hr : runBody P ts [] fn p.fuel T.args T.mem T.nin p.orc = some p.out) (hb : (Nat.ble l.length 1000000 && ownT T && T.hasPre && condFree p.out.g.asm && pathB T l p && subB s.bi p.bi) = true)
    (hF : s.f = runF l p.out.g.ssa p.ft.outs) : Good W T s := by
  simp only [Bool.and_eq_true] at hb
  obtain ⟨⟨⟨⟨⟨h0, h1⟩, h2⟩, h3⟩, h4⟩, h5⟩ := hb
  refine paths hl h0 (ps := [p]) hf hc (by simp [h1, h2]) ?_ ?_
  · intro q hq; simp at hq; subst hq; exact ⟨hr, h4⟩
  · intro xs hx
    exact ⟨p, by simp, hx.sub h5, condFree_ok h3, by rw [hF]; rfl⟩

end Go.X

namespace Go.X

/-! ### math/bits.Add64, which has no body -/

def f_add64 (xs : List Int) : List Int :=
  [(xs.getD 0 0 + xs.getD 1 0 + xs.getD 2 0) % 18446744073709551616, (xs.getD 0 0 + xs.getD 1 0 + xs.getD 2 0) / 18446744073709551616]

def bt_add64 (b : Bd) : Option Bd :=
  match b with
  | [(l0, h0), (l1, h1), (l2, h2)] => match leI 0 l0 && leI 0 l1 && leI 0 l2 with
    | true => match leI (h0 + h1 + h2) 18446744073709551615 with
      | true => some [(0, h0 + h1 + h2), (0, 0)]
      | false => some [(0, 18446744073709551615), (0, (h0 + h1 + h2) / 18446744073709551616)]
    | false => none
  | _ => none

def T_add64 (f : Nat) : Tmpl := ⟨f, [.one (.lf (.int .u64 (.v 0))), .one (.lf (.int .u64 (.v 1))), .one (.lf (.int .u64 (.v 2)))], [], 3, 2, true, .tup [.lf (.int .u64 (.v 3)), .lf (.int .u64 (.v 4))], [], []⟩

theorem ok_add64 (b bo : Bd) (h : bt_add64 b = some bo) (xs : List Int) (hx : InB b xs) : InB bo (f_add64 xs) := by
  unfold bt_add64 at h
  split at h
  · rename_i l0 h0 l1 h1 l2 h2
    split at h
    · rename_i hz
      simp only [Bool.and_eq_true] at hz
      have z0 := leI_le hz.1.1; have z1 := leI_le hz.1.2; have z2 := leI_le hz.2
      match xs, hx with
      | [x, y, z], hx =>
        obtain ⟨p1, p2, p3, p4, p5, p6, _⟩ := hx
        simp only [f_add64, List.getD_cons_zero, List.getD_cons_succ]
        split at h
        · rename_i hs
          have := leI_le hs
          cases h
          exact ⟨by omega, by omega, by omega, by omega, trivial⟩
        · cases h
          refine ⟨by omega, by omega, by omega, Int.ediv_le_ediv (by decide) (by omega), trivial⟩
    · cases h
  · cases h

def s_add64 : Sem := ⟨f_add64, [(0, 18446744073709551615), (0, 18446744073709551615), (0, 1)], bt_add64, ok_add64⟩

theorem good_add64_ {P : Program} (W : World0 P) {f : Nat} {fn : Func} (hf : P.funcs[f]? = some fn) (hname : (fn.name == "runtime.NumGoroutine") = false)
    (hb : fn.body.isNone = true) (hn : Extern.findNext fn = none) (he : Extern.find fn = some add64Entry) : Good W (T_add64 f) s_add64 := by
  intro F pr c hF hp E σ w args hpre
  have hargs := hpre.args
  simp only [T_add64] at hargs
  cases hargs with
  | cons a0 hargs => cases hargs with
    | cons a1 hargs => cases hargs with
      | cons a2 hargs => cases hargs with
        | nil =>
          have a0 : _ = Value.int .u64 (E.ρ 0) := a0
          have a1 : _ = Value.int .u64 (E.ρ 1) := a1
          have a2 : _ = Value.int .u64 (E.ρ 2) := a2
          subst a0; subst a1; subst a2
          have hin := hpre.pre rfl
          rw [hp] at hin
          obtain ⟨x0, _, y0, _, c0, c1, _⟩ := hin
          have e := run_callFunc_extern hf hname hb hn he #[.int .u64 (E.ρ 0), .int .u64 (E.ρ 1), .int .u64 (E.ρ 2)] w
          rw [run_add64 _ _ _ x0 y0 c0 c1] at e
          simp only [Result.andThen_ok] at e
          unfold Invokes
          have e' : Sem.run P (callFunc (T_add64 f).f ⟨[.int .u64 (E.ρ 0), .int .u64 (E.ρ 1), .int .u64 (E.ρ 2)]⟩) w = _ := e
          rw [e']
          simp only []
          refine ⟨_, σ, rfl, ?_⟩
          refine ⟨fun r hr => absurd hr (Nat.not_lt_zero _), fun r _ => hpre.free r (Nat.zero_le _), ?_, ?_, ⟨?_, ?_⟩, Ev.refl _ _⟩
          · have o0 := hpre.out 0 (by show (0 : Nat) < 2; decide)
            have o1 := hpre.out 1 (by show (1 : Nat) < 2; decide)
            rw [hF] at o0 o1
            refine ⟨_, rfl, .cons ?_ (.cons ?_ .nil)⟩
            · show _ = Value.int .u64 (E.ρ 3)
              have : E.ρ 3 = _ := o0
              rw [this]; rfl
            · show _ = Value.int .u64 (E.ρ 4)
              have : E.ρ 4 = _ := o1
              rw [this]; rfl
          · intro r cs p h; exact absurd h (by simp [T_add64])
          · intro j cs h; exact absurd h (by simp [T_add64])
          · intro i j p q cs cs' h; exact absurd h (by simp [T_add64])

end Go.X

namespace Go.X

/-! ### the state seen through another environment -/

def anyS : S → Bool
  | .one (.lf .any) => true
  | _ => false

def simT (nin nm : Nat) (ft : Fit) (T2 T : Tm) : Nat → Bool
  | 0 => true
  | t + 1 => (anyS (lk T2 t) || simS nin nm ft (lk T2 t) (lk T t)) && simT nin nm ft T2 T t

theorem simT_get {nin nm : Nat} {ft : Fit} {T2 T : Tm} : ∀ {n : Nat}, simT nin nm ft T2 T n = true → ∀ t, t < n → anyS (lk T2 t) = true ∨ simS nin nm ft (lk T2 t) (lk T t) = true
  | 0, _, t, ht => absurd ht (Nat.not_lt_zero _)
  | n + 1, h, t, ht => by
    simp only [simT, Bool.and_eq_true, Bool.or_eq_true] at h
    by_cases e : t = n
    · subst e; exact h.1
    · exact simT_get h.2 t (by omega)

theorem anyS_den {E : Env} {σ : Plc} {s : S} {v : Value} (h : anyS s = true) : s.Den E σ v := by
  unfold anyS at h
  split at h
  · trivial
  · cases h

def simM (nin nm : Nat) (ft : Fit) : Mem → Mem → Bool
  | [], _ => true
  | _ :: _, [] => false
  | c :: r, d :: q => simLs nin nm ft c d && simM nin nm ft r q

theorem simM_get {nin nm : Nat} {ft : Fit} : ∀ {M2 M : Mem}, simM nin nm ft M2 M = true → M2.length ≤ M.length ∧ ∀ (i : Nat) (c : List L), M2[i]? = some c → ∃ d : List L, M[i]? = some d ∧ simLs nin nm ft c d = true
  | [], M, _ => by simp
  | _ :: _, [], h => by simp [simM] at h
  | c :: r, d :: q, h => by
    simp only [simM, Bool.and_eq_true] at h
    obtain ⟨h1, h2⟩ := simM_get h.2
    refine ⟨by simp; omega, ?_⟩
    intro i c' hi
    cases i with
    | zero => simp at hi; subst hi; exact ⟨d, rfl, h.1⟩
    | succ i => simpa using h2 i c' (by simpa using hi)

/-- nothing beyond the frame is said -/
def inFrame (nt : Nat) : Tm → Bool
  | [] => true
  | (t, _) :: r => Nat.blt t nt && inFrame nt r

theorem inFrame_lk {nt : Nat} : ∀ {T : Tm}, inFrame nt T = true → ∀ t, nt ≤ t → lk T t = .tup []
  | [], _, t, _ => rfl
  | (u, s) :: r, h, t, ht => by
    simp only [inFrame, Bool.and_eq_true] at h
    have hu : u < nt := Nat.le_of_ble_eq_true h.1
    rw [lk_cons, if_neg (by omega)]
    exact inFrame_lk h.2 t ht

def cut (σ : Plc) (n : Nat) : Plc := fun r => if r < n then σ r else none

theorem fitOk_cut {nin nm : Nat} {outs : List A} {E2 E : Env} {σ : Plc} (hg : E2.gv = E.gv) (ha : ∀ t a, fA nin ⟨outs, []⟩ t = some a → t.ev E2.ρ = a.ev E.ρ) : FitOk nin nm ⟨outs, []⟩ E2 (cut σ nm) E σ := by
  refine ⟨hg, ha, ?_⟩
  intro r q hr p hp
  simp only [fR] at hr
  split at hr
  · rename_i hx
    cases hr
    have hx : r < nm := Nat.le_of_ble_eq_true hx
    show (if r < nm then σ r else none) = _
    rw [if_pos hx]; exact hp
  · simp at hr

section
variable {I : World → Prop} {base : Nat} {E E2 : Env} {nt : Nat} {σ0 : Plc} {M0 : Mem} {w0 : World} {σ : Plc} {T T2 : Tm} {M M2 : Mem} {g g2 : G} {a : Act} {w : World}

theorem Inv.fit {nin : Nat} {outs : List A} (hi : Inv I base E nt σ0 M0 w0 σ T M g a w) (hg : E2.gv = E.gv) (ha : ∀ t a, fA nin ⟨outs, []⟩ t = some a → t.ev E2.ρ = a.ev E.ρ)
    (h1 : simT nin M2.length ⟨outs, []⟩ T2 T nt = true) (h2 : simM nin M2.length ⟨outs, []⟩ M2 M = true) (h3 : inFrame nt T2 = true) (h4 : M0.length ≤ M2.length) (hw : ∀ x ∈ g.wr, x < M0.length → x ∈ g2.wr) :
    Inv I base E2 nt σ0 M0 w0 (cut σ M2.length) T2 M2 g2 a w := by
  have hok := fitOk_cut (nm := M2.length) (σ := σ) hg ha
  obtain ⟨m1, m2⟩ := simM_get h2
  have hcut : ∀ r p, cut σ M2.length r = some p → r < M2.length ∧ σ r = some p := by
    intro r p h
    unfold cut at h
    split at h
    · rename_i hlt; exact ⟨hlt, h⟩
    · cases h
  refine ⟨⟨?_, hi.t.size, hi.t.defers⟩, ⟨?_, ?_, ?_, ?_⟩, ?_, hi.inv, hi.ble, ?_, h4, ?_, ?_, ?_, ?_⟩
  · intro t
    by_cases ht : t < nt
    · rcases simT_get h1 t ht with h | h
      · exact anyS_den h
      · exact simS_den hok h (hi.t.get t)
    · rw [inFrame_lk h3 t (by omega)]
      have : a.tmps.getD t undef = undef := by
        rw [Array.getD_eq_getD_getElem?, Array.getElem?_eq_none (by have := hi.t.size; omega)]; rfl
      rw [this]
      exact ⟨[], rfl, .nil⟩
  · intro r p cs hr hm
    obtain ⟨_, hr⟩ := hcut r p hr
    obtain ⟨d, d1, d2⟩ := m2 r cs hm
    exact simLs_cells hok d2 (hi.m.rep r p d hr d1)
  · intro r r' p p' cs cs' hne hr hr' hm hm' i j hi' hj heq
    obtain ⟨_, hr⟩ := hcut r p hr
    obtain ⟨_, hr'⟩ := hcut r' p' hr'
    obtain ⟨d, d1, d2⟩ := m2 r cs hm
    obtain ⟨d', d1', d2'⟩ := m2 r' cs' hm'
    have := (simLs_get hok d2).1
    have := (simLs_get hok d2').1
    exact hi.m.dis r r' p p' d d' hne hr hr' d1 d1' i j (by omega) (by omega) heq
  · intro r p hr; exact hi.m.bas r p (hcut r p hr).2
  · intro r p hr; exact hi.m.lt r p (hcut r p hr).2
  · intro r hr
    show (if r < M2.length then σ r else none) = none
    rw [if_neg (by omega)]
  · intro r hr
    show (if r < M2.length then σ r else none) = _
    rw [if_pos (by omega)]; exact hi.same r hr
  · intro i cs cs' hc hc'
    obtain ⟨d, d1, d2⟩ := m2 i cs' hc'
    have := (simLs_get hok d2).1
    have := hi.lens i cs d hc d1
    omega
  · intro r p hr hp; exact hi.fresh r p hr (hcut r p hp).2
  · refine Ev.trans (Ev.refl (fun _ _ => False) w0) hi.ev (fun _ _ _ h => h.elim) ?_
    rintro x o _ ⟨r, p, cs, w1, w2, w3, w4⟩
    exact ⟨r, p, cs, hw r w1 (lt_of_get w3), w2, w3, w4⟩
  · intro r h h'
    obtain ⟨p, hp⟩ := hi.dom r h (by omega)
    exact ⟨p, by show (if r < M2.length then σ r else none) = _; rw [if_pos h']; exact hp⟩

def idR : Nat → List (Nat × Nat × Nat)
  | 0 => []
  | n + 1 => (n, n, 0) :: idR n

theorem idR_get : ∀ {n r : Nat}, lkR (idR n) r = if r < n then some (r, 0) else none
  | 0, r => by simp [idR, lkR]
  | n + 1, r => by
    simp only [idR, lkR]
    by_cases e : n = r
    · subst e; rw [beq_tt]; simp
    · rw [beq_ff e]
      simp only []
      rw [idR_get]
      by_cases h : r < n
      · rw [if_pos h, if_pos (by omega)]
      · rw [if_neg h, if_neg (by omega)]

def subT (u : Sub) : Tm → Option Tm
  | [] => some []
  | (t, s) :: r => match subS u s, subT u r with
    | some s, some r => some ((t, s) :: r)
    | _, _ => none

theorem subT_lk {u : Sub} {Et Ei : Env} {σt σi : Plc} (h : SubOk u Et σt Ei σi) : ∀ {x y : Tm}, subT u x = some y → ∀ t v, (lk x t).Den Et σt v → (lk y t).Den Ei σi v
  | [], y, e, t, v, hd => by simp [subT] at e; subst e; obtain ⟨vs, rfl, ha⟩ := hd; cases ha; exact ⟨[], rfl, .nil⟩
  | (t', s) :: r, y, e, t, v, hd => by
    simp only [subT] at e
    split at e
    · rename_i s' r' h1 h2
      cases e
      rw [lk_cons] at hd ⊢
      split
      · rename_i ht; rw [if_pos ht] at hd; exact subS_den h h1 hd
      · rename_i ht; rw [if_neg ht] at hd; exact subT_lk h h2 t v hd
    · cases e

theorem Inv.sub {u : Sub} (hi : Inv I base E2 nt σ0 M0 w0 σ T2 M2 g2 a w) (hu : SubOk u E2 σ E σ) (h1 : subT u T2 = some T) (h2 : subM u M2 = some M) (hw : ∀ x ∈ g2.wr, x ∈ g.wr) :
    Inv I base E nt σ0 M0 w0 σ T M g a w := by
  obtain ⟨ml, mg⟩ := subM_get h2
  refine ⟨⟨fun t => subT_lk hu h1 t _ (hi.t.get t), hi.t.size, hi.t.defers⟩, ⟨?_, ?_, hi.m.bas, hi.m.lt⟩, fun r hr => hi.free r (by omega), hi.inv, hi.ble, hi.same, by have := hi.grow; omega, ?_, hi.fresh, ?_, fun r h h' => hi.dom r h (by omega)⟩
  · intro r p cs hr hm
    obtain ⟨c, c1, c2⟩ := mg r cs hm
    exact subLs_cells hu c2 (hi.m.rep r p c hr c1)
  · intro r r' p p' cs cs' hne hr hr' hm hm' i j hi' hj heq
    obtain ⟨c, c1, c2⟩ := mg r cs hm
    obtain ⟨c', c1', c2'⟩ := mg r' cs' hm'
    have := (subLs_get hu c2).1
    have := (subLs_get hu c2').1
    exact hi.m.dis r r' p p' c c' hne hr hr' c1 c1' i j (by omega) (by omega) heq
  · intro i cs cs' hc hc'
    obtain ⟨c, c1, c2⟩ := mg i cs' hc'
    have := (subLs_get hu c2).1
    have := hi.lens i cs c hc c1
    omega
  · refine Ev.trans (Ev.refl (fun _ _ => False) w0) hi.ev (fun _ _ _ h => h.elim) ?_
    rintro x o _ ⟨r, p, cs, w1, w2⟩
    exact ⟨r, p, cs, hw r w1, w2⟩

end

end Go.X
