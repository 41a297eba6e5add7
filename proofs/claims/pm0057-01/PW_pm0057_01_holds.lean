import PyProof.Rows.All
import Wide.All
import OpenK.AllK
import Wide.FinOn
import PySem.Challenge.RW_pm0057_01
set_option Elab.async false
set_option rowWalk.seconds 0
section
open PySem PySem.W PyProof.Rows
namespace Mine
set_option maxRecDepth 100000
set_option maxHeartbeats 8000000
open_top hd for PySem.Challenge.rw_pm0057_01
end Mine
end

theorem Mine.calm : True := by
  w_top off
  trivial

section
open PySem PySem.W PySem.Calls PyProof.Rows
set_option maxRecDepth 100000
set_option maxHeartbeats 8000000
namespace Mine
noncomputable abbrev lo : List Str := looseW Mine.hd.view_39
      [Str.ofString "tspecials", Str.ofString "_name_disallowed_re", Str.ofString "_value_disallowed_re",
        Str.ofString "_formatparam", Str.ofString "bisect_right", Str.ofString "bisect_left"]

theorem enterP {prog : Program} {w : World} {A₀ A : Around} {s : Shared} {base h₀ : Heap} {L : Addr} {m : Str → Option Value} {K : Frag} {p : Program} {loose : List Str} {mean : ExcName → Option Value} {mg mb : Str → Option Value}
    {env : Env} {outer : List Env} {R : Result → Shared → Prop} {name qual : Str} {params : Arguments} {body : List Stmt} {scope : Scope} {dV kV doc pm cdv ct oc : Value} {an od : Option Addr} {osl : Array (Option Value)} {f : Addr} {args : Args} {binds : List (Str × Value)}
    (B : Below A₀ base outer h₀) (F : Fr h₀ L s.heap m) (X₀ : K.In h₀) (T : Top p loose mean mg mb h₀) (hA : A.frames = some (env :: outer)) (hf : env.frame = some L) (hke : env.scope.kind = .function)
    (ho : K.lookup f = some ⟨oc, od, .func (fnOf name qual params body scope dV kV doc pm an cdv ct), osl⟩) (hcd : codeIn K cdv qual = true) (hroom : A.depth < recursionLimit)
    (hbind : ∀ S, peek K S (bindArgs (fnOf name qual params body scope dV kV doc pm an cdv ct) args) = some binds) (hloc : ∀ y ∈ binds, scope.names.lookup y.1 = some .local)
    (h : ∀ L' h₁, Fr s.heap L' h₁ (fun y => binds.reverse.lookup y) → News s.heap L' h₁ [] → Below A base (env :: outer) s.heap → K.In s.heap → Top p loose mean mg mb s.heap →
      wpAny (model prog w) (A.deeper (envOf qual scope L' f cdv)) (execs body (envOf qual scope L' f cdv))
        (fun fl s' => R (.ok (.ret (match fl with | .ret v => v | _ => .none))) s')
        (fun e s' => wpAny (model prog w) (A.deeper (envOf qual scope L' f cdv)) (leaving (envOf qual scope L' f cdv) e) (fun _ s'' => R (.error e) s'') (fun e' s'' => R (.error e') s'') s')
        { s with heap := h₁, toks := s.toks + binds.length })
    (hco : scope.isCoroutine = false) (hgen : scope.isGenerator = false) (hk : scope.kind = .function)
    (hcell : ∀ x ∈ scope.names, x.2 ≠ .cell) : codeAny (model prog w) A (.call (.ref f) args) R s := by
  obtain ⟨_, BG, st, _⟩ := groundX (R := R) B F News.nil hA hf hke
  refine codeAny_call_def (fd := fnX name qual params body scope [] dV kV doc pm an cdv ct) (body := body) (binds := binds) hroom ((X₀.keeps F.keep) _ _ ho) rfl (T.nolimit.keeps F.keep) (codeRec_of (X₀.keeps F.keep) hcd) rfl (kp_binds (X₀.keeps F.keep) hbind) hcell hloc (fun h₁ hns hk₁ => ?_) hco hgen hk
  exact h s.heap.objs.size h₁ ⟨hns, hk₁, Nat.le_refl _⟩ News.nil BG (X₀.keeps st) (T.keeps st)

theorem enterPC {prog : Program} {w : World} {A₀ A : Around} {s : Shared} {base h₀ : Heap} {L : Addr} {m : Str → Option Value} {K : Frag} {p : Program} {loose : List Str} {mean : ExcName → Option Value} {mg mb : Str → Option Value}
    {env : Env} {outer : List Env} {R : Result → Shared → Prop} {name qual : Str} {params : Arguments} {body : List Stmt} {scope : Scope} {dV kV doc pm cdv ct oc : Value} {an od : Option Addr} {osl : Array (Option Value)} {f : Addr} {args : Args} {binds : List (Str × Value)}
    (B : Below A₀ base outer h₀) (F : Fr h₀ L s.heap m) (X₀ : K.In h₀) (T : Top p loose mean mg mb h₀) (hA : A.frames = some (env :: outer)) (hf : env.frame = some L) (hke : env.scope.kind = .function)
    (ho : K.lookup f = some ⟨oc, od, .func (fnOf name qual params body scope dV kV doc pm an cdv ct), osl⟩) (hcd : codeIn K cdv qual = true) (hroom : A.depth < recursionLimit)
    (hbind : ∀ S, peek K S (bindArgs (fnOf name qual params body scope dV kV doc pm an cdv ct) args) = some binds) (hkind : (binds.all fun y => scope.names.lookup y.1 == some .local || scope.names.lookup y.1 == some .cell) = true)
    (hnd : ((cellsFrom 0 scope.names []).map (·.1)).Nodup)
    (h : ∀ L' h₁ tk cells, Fr s.heap L' h₁ (bindL (envOfC qual scope L' f cdv).kindOf binds fun _ => none) → News s.heap L' h₁ (cells ++ []) →
      CellsAre (bindC (envOfC qual scope L' f cdv).kindOf binds fun _ => none) (cellsFrom (L' + 1) scope.names []) cells → Below A base (env :: outer) s.heap → K.In s.heap → Top p loose mean mg mb s.heap →
      wpAny (model prog w) (A.deeper (envOfC qual scope L' f cdv)) (execs body (envOfC qual scope L' f cdv))
        (fun fl s' => R (.ok (.ret (match fl with | .ret v => v | _ => .none))) s')
        (fun e s' => wpAny (model prog w) (A.deeper (envOfC qual scope L' f cdv)) (leaving (envOfC qual scope L' f cdv) e) (fun _ s'' => R (.error e) s'') (fun e' s'' => R (.error e') s'') s')
        { s with heap := h₁, toks := tk })
    (hco : scope.isCoroutine = false) (hgen : scope.isGenerator = false) (hk : scope.kind = .function) : codeAny (model prog w) A (.call (.ref f) args) R s := by
  obtain ⟨_, BG, st, _⟩ := groundX (R := R) B F News.nil hA hf hke
  refine codeAny_call_function hroom ((X₀.keeps F.keep) _ _ ho) (show (Obj.mk oc od (.func (fnX name qual params body scope [] dV kV doc pm an cdv ct)) osl).data = _ from rfl) hco hgen rfl (codeRec_of (X₀.keeps F.keep) hcd) (kp_binds (X₀.keeps F.keep) hbind _ _ _ _ ?_)
  refine wpAny_newFunctionEnv_cells hk (kindsX hkind _) fun env' he s' x => ?_
  subst he
  refine ⟨(T.nolimit.keeps F.keep).keeps x.toInCall.keep, codeAny_func ?_⟩
  obtain ⟨h₁, tk, rfl, _⟩ := x.done
  have hk₁ := x.toInCall.keep
  obtain ⟨cells, NC, Y⟩ := Cl.news (h₀ := s.heap) (Nat.le_refl _) fun n c hm => ⟨x.cell n c (lookup_of_mem_nodup (cellsFrom_names scope.names 0 (s.heap.objs.size + 1) [] [] rfl ▸ hnd) hm), x.above n c hm⟩
  exact h s.heap.objs.size h₁ tk cells ⟨x.toInCall.ns, hk₁, Nat.le_refl _⟩ (by simpa using NC) Y BG (X₀.keeps st) (T.keeps st)

/-- where a call of the text's stands -/
inductive CxI (w : World) (A : Around) (h : Heap) : Prop
  | mk (dp un gd : _) (cn : _) (cs : _) (L a : _) (ccd : _) (cl : _) (outer : _) (A₀ : _) (base : _) (h₀ : _) (m : _) (mean : _) (mg : _) (mb : _) (z1 : A = ktrTop dp un gd cn cs L a ccd cl outer) (z2 : Below A₀ base outer h₀) (z3 : Fr h₀ L h m)
    (z4 : (Mine.hd.heap_39 w.params).In h₀) (z5 : Top Mine.hd.view_39 lo mean mg mb h₀) (z6 : cs.kind = .function) : CxI w A h
structure Cx (w : World) (A : Around) (h : Heap) : Prop where
  is : CxI w A h
theorem Cx.of {w : World} {dp un : Nat} {gd : Option (List Code)} {cn : Str} {cs : Scope} {L a : Addr} {ccd : Value} {cl : List (Str × Addr)} {outer : List Env} {A₀ : Around} {base h₀ h : Heap} {m : Str → Option Value} {mean : ExcName → Option Value} {mg mb : Str → Option Value}
    (B : Below A₀ base outer h₀) (F : Fr h₀ L h m) (X : (Mine.hd.heap_39 w.params).In h₀) (T : Top Mine.hd.view_39 lo mean mg mb h₀) (hk : cs.kind = .function) : Cx w (ktrTop dp un gd cn cs L a ccd cl outer) h := ⟨dp, un, gd, cn, cs, L, a, ccd, cl, outer, A₀, base, h₀, m, mean, mg, mb, rfl, B, F, X, T, hk⟩
theorem Cx.keeps {w : World} {A : Around} {h h' : Heap} (c : Cx w A h) (k : ∀ b o, h.get? b = some o → h'.get? b = some o) : Cx w A h' := by
  obtain ⟨dp, un, gd, cn, cs, L, a, ccd, cl, outer, A₀, base, h₀, m, mean, mg, mb, e, B, F, X, T, hk⟩ := c.is
  exact ⟨dp, un, gd, cn, cs, L, a, ccd, cl, outer, A₀, base, h₀, m, mean, mg, mb, e, B, F.keeps k, X, T, hk⟩
theorem Keeps.fr {s : Shared} {h : Heap} {L : Addr} {m : Str → Option Value} {tk : Nat} {g : Heap} (F : Fr g L h m) (e : g = s.heap) : Keeps s { s with heap := h, toks := tk } := by
  subst e
  exact ⟨h, tk, rfl, F.keep⟩
/-- a value, and what stood still stands -/
def Fin1 {α : Type} (R : α → Heap → Prop) (s : Shared) (v : α) (s' : Shared) : Prop := R v s'.heap ∧ Keeps s s'
theorem Fin1.mk {α : Type} {R : α → Heap → Prop} {s : Shared} {v : α} {h g : Heap} {tk : Nat} {L : Addr} {m : Str → Option Value} (F : Fr g L h m) (e : g = s.heap) (r : R v h) : Fin1 R s v { s with heap := h, toks := tk } := ⟨r, Keeps.fr F e⟩
theorem Fin1.of {α : Type} {R : α → Heap → Prop} {s : Shared} {v : α} {h : Heap} {tk : Nat} (k : ∀ b o, s.heap.get? b = some o → h.get? b = some o) (r : R v h) : Fin1 R s v { s with heap := h, toks := tk } := ⟨r, h, tk, rfl, k⟩
theorem Fin1.use {α : Type} {M : Model} {A : Around} {t : Sem α} {R : α → Heap → Prop} {Q : α → Shared → Prop} {E E' : Value → Shared → Prop} {s : Shared} {h₀ : Heap} {L : Addr} {m : Str → Option Value} {news : List (Addr × Obj)}
    (P : wpAny M A t (Fin1 R s) E' s) (F : Fr h₀ L s.heap m) (N : News h₀ L s.heap news)
    (hE : ∀ e s', E' e s' → E e s')
    (ret : ∀ v h' tk', R v h' → Fr h₀ L h' m → News h₀ L h' news → (∀ b o, s.heap.get? b = some o → h'.get? b = some o) → Q v { s with heap := h', toks := tk' }) : wpAny M A t Q E s :=
  wpAny_mono P (fun v s' h => by
    obtain ⟨hR, h', tk', rfl, hk⟩ := h
    exact ret v h' tk' hR (F.keeps hk) (N.grown hk) hk) hE
end Mine
end

section
namespace Mine
/-- the small letter -/
def lowc (c : Nat) : Nat := if 65 ≤ c ∧ c ≤ 90 then c + 32 else c
/-- the places of the other ends with the same letter -/
def others (cs : List Nat) (h : Nat) : List Nat := (List.range cs.length).filter fun k => k != h && lowc (cs.getD k 0) == lowc (cs.getD h 0)
def partner (cs : List Nat) (h : Nat) : Nat := (others cs h).headD 0
/-- the point across the ribbon -/
def acr (cs : List Nat) (p : Nat) : Nat := 2 * partner cs (p / 2) + (if cs.getD (p / 2) 0 = cs.getD (partner cs (p / 2)) 0 then p % 2 else 1 - p % 2)
theorem headD_get {l : List Nat} (h : l ≠ []) : l[0]? = some (l.headD 0) := by
  cases l with
  | nil => exact absurd rfl h
  | cons a r => rfl
theorem others_mem {cs : List Nat} {h k : Nat} (m : k ∈ others cs h) : k < cs.length ∧ k ≠ h ∧ lowc (cs.getD k 0) = lowc (cs.getD h 0) := by
  simp [others] at m
  simpa using m
theorem partner_mem {cs : List Nat} {h : Nat} (e : others cs h ≠ []) : partner cs h ∈ others cs h := by
  unfold partner
  cases c : others cs h with
  | nil => exact absurd c e
  | cons a r => exact .head _
end Mine
namespace Mine
/-- along the rim from the end of a ribbon's edge -/
def stepP (N r : Nat) : Nat := (r + r % 2 * 2 + N - 1) % N
def nxt (cs : List Nat) (p : Nat) : Nat := stepP (2 * cs.length) (acr cs p)
def orb (cs : List Nat) : Nat → Nat → List Nat → List Nat
  | 0, _, seen => seen
  | f + 1, p, seen => if p ∈ seen then seen else orb cs f (nxt cs p) (seen ++ [p, acr cs p])
def rimStep (cs : List Nat) (st : Nat × List Nat) (start : Nat) : Nat × List Nat :=
  (if start ∈ st.2 then st.1 else st.1 + 1, orb cs (2 * cs.length + 1) start st.2)
def rimsTo (cs : List Nat) (i : Nat) : Nat × List Nat := (List.range i).foldl (rimStep cs) (0, [])
def rims (cs : List Nat) : Nat := (rimsTo cs (2 * cs.length)).1
def cnt (N : Nat) (seen : List Nat) : Nat := ((List.range N).filter fun q => !decide (q ∈ seen)).length
theorem cnt_le (N : Nat) (seen : List Nat) : cnt N seen ≤ N := by
  have := List.length_filter_le (fun q => !decide (q ∈ seen)) (List.range N)
  simpa [cnt] using this
theorem filter_length_lt {l : List Nat} {p q : Nat → Bool} (h : ∀ x, q x = true → p x = true) {a : Nat} (ha : a ∈ l) (hp : p a = true) (hq : q a = false) : (l.filter q).length < (l.filter p).length := by
  induction l with
  | nil => cases ha
  | cons b r ih =>
    have mono : ∀ l : List Nat, (l.filter q).length ≤ (l.filter p).length := by
      intro l
      induction l with
      | nil => simp
      | cons c t iht =>
        by_cases h1 : q c = true
        · rw [List.filter_cons_of_pos h1, List.filter_cons_of_pos (h c h1)]; simp; exact iht
        · rw [List.filter_cons_of_neg h1]
          by_cases h2 : p c = true
          · rw [List.filter_cons_of_pos h2]; simp; omega
          · rw [List.filter_cons_of_neg h2]; exact iht
    rcases List.mem_cons.mp ha with rfl | ha
    · rw [List.filter_cons_of_pos hp, List.filter_cons_of_neg (by simp [hq])]
      have := mono r
      simp; omega
    · have := ih ha
      by_cases h1 : q b = true
      · rw [List.filter_cons_of_pos h1, List.filter_cons_of_pos (h b h1)]; simpa using this
      · rw [List.filter_cons_of_neg h1]
        by_cases h2 : p b = true
        · rw [List.filter_cons_of_pos h2]; simp; omega
        · rw [List.filter_cons_of_neg h2]; exact this
theorem cnt_lt {N p : Nat} {seen : List Nat} (r : Nat) (hp : p < N) (h : p ∉ seen) : cnt N (seen ++ [p, r]) < cnt N seen :=
  filter_length_lt (fun x hx => by simp at hx ⊢; exact hx.1) (List.mem_range.mpr hp) (by simpa using h) (by simp)
theorem orb_in {cs : List Nat} {f p : Nat} {seen : List Nat} (h : p ∈ seen) : orb cs f p seen = seen := by
  cases f with
  | zero => rfl
  | succ f => simp [orb, h]
theorem orb_out {cs : List Nat} {f p : Nat} {seen : List Nat} (h : p ∉ seen) : orb cs (f + 1) p seen = orb cs f (nxt cs p) (seen ++ [p, acr cs p]) := by simp [orb, h]
theorem stepP_lt {N r : Nat} (h : 0 < N) : stepP N r < N := Nat.mod_lt _ h
theorem stepP_int (N r : Nat) (h : 0 < N) : ((r : Int) + ((r % 2 : Nat) : Int) * 2 - 1) % (N : Int) = ((stepP N r : Nat) : Int) := by
  unfold stepP
  have e : ((r + r % 2 * 2 + N - 1 : Nat) : Int) = ((r : Int) + ((r % 2 : Nat) : Int) * 2 - 1) + (N : Int) := by omega
  have e2 : (((r + r % 2 * 2 + N - 1) % N : Nat) : Int) = ((r + r % 2 * 2 + N - 1 : Nat) : Int) % (N : Int) := Int.natCast_emod _ _
  rw [e2, e, Int.add_emod_right]
end Mine
namespace Mine
theorem rimsTo_succ (cs : List Nat) (i : Nat) : rimsTo cs (i + 1) = rimStep cs (rimsTo cs i) i := by
  unfold rimsTo
  rw [List.range_succ, List.foldl_append]; rfl
theorem orb_bound {cs : List Nat} (h0 : 0 < 2 * cs.length) : ∀ (f p : Nat) (seen : List Nat), p < 2 * cs.length → seen.length + 2 * cnt (2 * cs.length) seen ≤ 4 * cs.length →
    (orb cs f p seen).length + 2 * cnt (2 * cs.length) (orb cs f p seen) ≤ 4 * cs.length
  | 0, _, _, _, h => h
  | f + 1, p, seen, hp, h => by
    by_cases c : p ∈ seen
    · rw [orb_in c]; exact h
    · rw [orb_out c]
      refine orb_bound h0 f _ _ (stepP_lt h0) ?_
      have := cnt_lt (acr cs p) hp c
      simp; omega
theorem rimsTo_bound (cs : List Nat) (h0 : 0 < 2 * cs.length) : ∀ i, i ≤ 2 * cs.length → (rimsTo cs i).2.length + 2 * cnt (2 * cs.length) (rimsTo cs i).2 ≤ 4 * cs.length
  | 0, _ => by
    have := cnt_le (2 * cs.length) []
    show (([] : List Nat).length) + 2 * cnt (2 * cs.length) [] ≤ _
    simp; omega
  | i + 1, h => by
    rw [rimsTo_succ]
    exact orb_bound h0 _ _ _ (by omega) (rimsTo_bound cs h0 i (by omega))
end Mine
namespace Mine
theorem rimsTo_le (cs : List Nat) : ∀ i, (rimsTo cs i).1 ≤ i
  | 0 => Nat.le_refl _
  | i + 1 => by
    rw [rimsTo_succ]
    have := rimsTo_le cs i
    unfold rimStep
    dsimp only
    split <;> omega
theorem rims_le (cs : List Nat) : rims cs ≤ 2 * cs.length := rimsTo_le cs _
end Mine
end

section
open PySem PySem.W PySem.Calls PyProof.Rows
set_option maxRecDepth 100000
set_option maxHeartbeats 8000000
namespace Mine
local macro_rules | `(tactic| walk_at "none at all") => `(tactic| fail)
local macro_rules | `(tactic| ktr_enter) => `(tactic| (
  refine' enterP ?k1 ?k2 ?k3 ?k4 ?kA ?kF ?kK ?k6 ?k7 ?k8 ?k9 ?kB ?_ ?c2 ?c3 ?c4 ?c5; (case kA | kF => exact rfl); (case kK => assumption); (case k1 | k2 | k3 | k4 => k_asm); (case k6 | k7 => k_is); (case k8 => ktr_room); (case k9 => exact fun _ => rfl); (case c5 => decide); (case kB => exact locs rfl); (case c2 | c3 | c4 => exact rfl); k_whole; intro L' h' F' N' B' X' T'; (try dsimp only); (try k_fold)))

theorem bisR {w : World} {A : Around} {s : Shared} {E : Value → Shared → Prop} {l : Addr} {x0 x1 x : Int} {t0 t1 tx : Tok}
    (c : Cx w A s.heap) (hd : A.depth + 10 < recursionLimit) (hu : A.units + 100 < cLine)
    (hl : s.heap.IsList l [Value.int x0 t0, Value.int x1 t1].toArray) (hlt : x0 < x1) :
    wpAny (model PySem.Challenge.rw_pm0057_01.row.toRowW.prog w) A (call (.ref 195) [.ref l, .int x tx]) (Fin1 (fun v _ => ∃ t, v = .int (if x < x0 then 0 else if x < x1 then 1 else 2) t) s) E s := by
  obtain ⟨dp, un, gd, cn, cs, L, a, ccd, cl, outer, A₀, base, h₀, m, mean, mg, mb, rfl, B, F, X, T, hk⟩ := c.is
  clear c
  have hI : IntsAre [Value.int x0 t0, Value.int x1 t1] [x0, x1] := by repeat' constructor
  revert X; k_fill; intro X
  refine wpAny_call ?_
  k_dflt ktr_enter
  k_steps
  all_goals (try dsimp only)
  all_goals (k_unfold; dsimp only; refine Fin1.mk (by assumption) rfl ⟨_, congrArg (Value.int · _) ?_⟩)
  all_goals (simp at *)
  all_goals (first | omega | (split <;> first | omega | (split <;> omega)))
theorem bisL {w : World} {A : Around} {s : Shared} {E : Value → Shared → Prop} {l : Addr} {x0 x1 x : Int} {t0 t1 tx : Tok}
    (c : Cx w A s.heap) (hd : A.depth + 10 < recursionLimit) (hu : A.units + 100 < cLine)
    (hl : s.heap.IsList l [Value.int x0 t0, Value.int x1 t1].toArray) (hlt : x0 < x1) :
    wpAny (model PySem.Challenge.rw_pm0057_01.row.toRowW.prog w) A (call (.ref 204) [.ref l, .int x tx]) (Fin1 (fun v _ => ∃ t, v = .int (if x ≤ x0 then 0 else if x ≤ x1 then 1 else 2) t) s) E s := by
  obtain ⟨dp, un, gd, cn, cs, L, a, ccd, cl, outer, A₀, base, h₀, m, mean, mg, mb, rfl, B, F, X, T, hk⟩ := c.is
  clear c
  have hI : IntsAre [Value.int x0 t0, Value.int x1 t1] [x0, x1] := by repeat' constructor
  revert X; k_fill; intro X
  refine wpAny_call ?_
  k_dflt ktr_enter
  k_steps
  all_goals (try dsimp only)
  all_goals (k_unfold; dsimp only; refine Fin1.mk (by assumption) rfl ⟨_, congrArg (Value.int · _) ?_⟩)
  all_goals (simp at *)
  all_goals (first | omega | (split <;> first | omega | (split <;> omega)))
end Mine
end

section
open PySem PySem.W PySem.Calls PyProof.Rows PySem.Spec
set_option maxRecDepth 100000
set_option maxHeartbeats 8000000
namespace Mine
section
variable {prog : Program} {w : World} {A : Around} {E : Value → Shared → Prop} {s : Shared} {h₀ : Heap} {L : Addr} {m : Str → Option Value} {news : List (Addr × Obj)} {env : Env}

/-- the tests of a comprehension -/
abbrev testsOf (ifs : List Expr) (cenv : Env) : Sem Bool := forIn ifs true fun c r => if r = true then do let ok ← isTrue c cenv (eval c cenv); pure (ForInStep.yield ok) else pure (ForInStep.yield r)

/-- a list comprehension over a list that stands, its items' results as F says -/
inductive LcAt (prog : Program) (w : World) (A : Around) (env : Env) (scope : Scope) (cl : List (Str × Addr)) (x : Str) (ifs : List Expr) (elt : Expr) (Q : Value → Shared → Prop) (xv : Value) (s₁ : Shared) : Prop
  | mk (ax : Addr) (vs : List Value) (p : Value → Bool) (F : Value → Value → Prop)
    (z1 : xv = .ref ax)
    (z2 : s₁.heap.IsList ax vs.toArray)
    (z3 : vs.length ≤ sizeLine)
    (z4 : (∀ C v s₂ m₂ E', v ∈ vs → s₂.heap.Ns (compEnvC scope cl C env).locals m₂ → m₂ x = some v → (∀ b o, s₁.heap.get? b = some o → s₂.heap.get? b = some o) →
      wpAny (model prog w) A (testsOf ifs (compEnvC scope cl C env)) (Fin1 (fun ok _ => ok = p v) s₂) E' s₂))
    (z5 : (∀ C v s₂ m₂ E', v ∈ vs → p v = true → s₂.heap.Ns (compEnvC scope cl C env).locals m₂ → m₂ x = some v → (∀ b o, s₁.heap.get? b = some o → s₂.heap.get? b = some o) →
      wpAny (model prog w) A (eval elt (compEnvC scope cl C env)) (Fin1 (fun y _ => F v y) s₂) E' s₂))
    (z6 : (∀ D ys k h' tk, s₁.heap.get? D = none → h'.get? D = some (listOf ys k) → Paired F (vs.filter p) ys.toList → (∀ b o, s₁.heap.get? b = some o → h'.get? b = some o) → Q (.ref D) { s₁ with heap := h', toks := tk })) : LcAt prog w A env scope cl x ifs elt Q xv s₁

theorem lcL {elt iter : Expr} {x : Str} {px : Pos} {ifs : List Expr} {scope : Scope} {cl : List (Str × Addr)} {pos : Pos} {Q : Value → Shared → Prop}
    (hh : A.handled = none) (hclos : closureFor scope env = pure cl) (hcell : ∀ y ∈ scope.names, y.2 ≠ .cell) (hkind : scope.kind = .function)
    (hnames : ∀ y ∈ scope.names, y.2 = .local → scope.names.lookup y.1 = some .local) (hx : scope.names.lookup x = some .local)
    (hs : ∀ x, foldedSetIterable iter env x = pure x)
    (h : wpAny (model prog w) A (eval iter env) (LcAt prog w A env scope cl x ifs elt Q) E s) :
    wpAny (model prog w) A (eval (.ListComp elt [⟨.Name x px, iter, ifs, 0⟩] scope pos) env) Q E s := by
  rw [eval_ListComp]
  refine wpAny_comprehension_free (use := none) rfl hs hclos hkind hnames (wpAny_mono h (fun xv s₁ h₁ => ?_) fun _ _ e => e)
  obtain ⟨ax, vs, p, F, rfl, hl, hsz, htests, helt, hQ⟩ := h₁
  have hlt : ax < s₁.heap.objs.size := by obtain ⟨_, e, _⟩ := hl; exact Heap.lt_size e
  have up : ∀ (s₃ : Shared), (∀ b o, b ∉ [s₁.heap.objs.size] → (s₁.heap.push { cls := .type "list_iterator", data := .fields #[.ref ax, .int 0 0] }).get? b = some o → s₃.heap.get? b = some o) → ∀ b o, s₁.heap.get? b = some o → s₃.heap.get? b = some o :=
    fun s₃ hk b o e => hk b o (fun hm => by rcases List.mem_cons.mp hm with rfl | hm; exact Nat.lt_irrefl _ (Heap.lt_size e); cases hm) (Heap.get?_push_of_some _ e)
  refine wpAny_pyIter_list hl ?_
  refine comp_block_walkC (fp := [s₁.heap.objs.size, ax]) (RR := fun acc C => compPost (model prog w) A E none Q acc C) (Walks.list hh s₁.heap.objs.size ax (Nat.ne_of_lt hlt) vs.toArray) (by rw [List.size_toArray]; exact hsz) p F hcell hkind hx
    ⟨⟨_, Heap.get?_push_size _ rfl, rfl, rfl⟩, hl.push _⟩ ?_ ⟨?_, ?_⟩ ?_
  · intro b hb
    show b < (s₁.heap.push _).objs.size
    rw [Heap.size_push]
    rcases List.mem_cons.mp hb with rfl | hb
    · exact Nat.lt_succ_self _
    · rcases List.mem_cons.mp hb with rfl | hb
      · exact Nat.lt_succ_of_lt hlt
      · cases hb
  · intro C i v s₃ m₃ E' _ hP hn hm hk _
    exact htests C v s₃ m₃ E' (by have := Array.mem_of_getElem? hP; simpa using this) hn hm (up s₃ hk)
  · intro C i v s₃ m₃ E' _ hP hp hn hm hk _
    exact helt C v s₃ m₃ E' (by have := Array.mem_of_getElem? hP; simpa using this) hp hn hm (up s₃ hk)
  · intro D C h' tk m' ys vs' hD hC hDC hn hlD hpl hlen hP hF hk
    refine ⟨m', hn, fun h'' hs'' => ?_⟩
    have e : vs' = vs := by simpa using list_of_places hlen hP
    subst e
    obtain ⟨k, hk1⟩ := hpl.extBut hs''.extBut hDC
    refine hQ D ys k h'' tk ?_ hk1 hF (up { s₁ with heap := h'' } fun b o hbf e => hs''.extBut b o (by rintro rfl; rw [hC] at e; cases e) (hk b o hbf e))
    cases e : s₁.heap.get? D with
    | none => rfl
    | some o' => rw [Heap.get?_push_of_some _ e] at hD; cases hD
end
theorem Paired.memL {α β : Type} {R : α → β → Prop} : ∀ {l : List α} {l' : List β}, Paired R l l' → ∀ v ∈ l, ∃ q ∈ l', R v q
  | _, _, .nil, _, h => nomatch h
  | _, _, .cons h t, v, hv => by
    rcases List.mem_cons.mp hv with rfl | hv
    · exact ⟨_, .head _, h⟩
    · obtain ⟨q, hq, hr⟩ := Paired.memL t v hv
      exact ⟨q, .tail _ hq, hr⟩
theorem Paired.filt {α β γ : Type} {R : α → β → Prop} {F : α → γ → Prop} {G : β → γ → Prop} {p : α → Bool} {pz : β → Bool} : ∀ {l : List α} {l' : List β} {ys : List γ}, Paired R l l' →
    (∀ v q, q ∈ l' → R v q → p v = pz q) → (∀ v q y, q ∈ l' → R v q → F v y → G q y) → Paired F (l.filter p) ys → Paired G (l'.filter pz) ys
  | _, _, _, .nil, _, _, h => by cases h; exact .nil
  | _, _, ys, .cons (a := v) (b := q) h t, hp, hF, hy => by
    have e := hp v q (.head _) h
    have ih := fun ys => Paired.filt (ys := ys) t (fun v q hq => hp v q (.tail _ hq)) (fun v q y hq => hF v q y (.tail _ hq))
    by_cases c : pz q = true
    · rw [List.filter_cons_of_pos (by rw [e]; exact c)] at hy
      rw [List.filter_cons_of_pos c]
      cases hy with
      | cons h1 h2 => exact .cons (hF v q _ (.head _) h h1) (ih _ h2)
    · rw [List.filter_cons_of_neg (by rw [e]; exact c)] at hy
      rw [List.filter_cons_of_neg c]
      exact ih _ hy
theorem Paired.imp {α β : Type} {R R' : α → β → Prop} : ∀ {l : List α} {l' : List β}, Paired R l l' → (∀ v q, v ∈ l → q ∈ l' → R v q → R' v q) → Paired R' l l'
  | _, _, .nil, _ => .nil
  | _, _, .cons h t, k => .cons (k _ _ (.head _) (.head _) h) (Paired.imp t fun v q hv hq => k v q (.tail _ hv) (.tail _ hq))
theorem Paired.conv {α β γ : Type} {R : α → β → Prop} {F : α → γ → Prop} {G : β → γ → Prop} : ∀ {l : List α} {l' : List β} {ys : List γ}, Paired R l l' →
    (∀ v q y, q ∈ l' → R v q → F v y → G q y) → Paired F l ys → Paired G l' ys
  | _, _, _, .nil, _, h => by cases h; exact .nil
  | _, _, _, .cons h t, hF, .cons h1 h2 => .cons (hF _ _ _ (.head _) h h1) (Paired.conv t (fun v q y hq => hF v q y (.tail _ hq)) h2)
theorem Paired.symm' {α β : Type} {R : α → β → Prop} : ∀ {l : List α} {l' : List β}, Paired (fun q y => R y q) l' l → Paired R l l'
  | _, _, .nil => .nil
  | _, _, .cons h t => .cons h (Paired.symm' t)
theorem Paired.symmF {α β : Type} {R : α → β → Prop} : ∀ {l : List α} {l' : List β}, Paired R l l' → Paired (fun y v => R v y) l' l
  | _, _, .nil => .nil
  | _, _, .cons h t => .cons h (Paired.symmF t)
theorem Paired.mapR {α β γ : Type} {R : α → γ → Prop} {f : β → γ} : ∀ {l : List α} {l' : List β}, Paired (fun v q => R v (f q)) l l' → Paired R l (l'.map f)
  | _, _, .nil => .nil
  | _, _, .cons h t => .cons h (Paired.mapR t)
end Mine
end

section
open PySem PySem.W PySem.Calls PyProof.Rows PySem.Spec Mine
set_option maxRecDepth 100000
set_option maxHeartbeats 8000000
namespace Mine
section
variable {prog : Program} {w : World} {A : Around} {E : Value → Shared → Prop} {s : Shared} {env : Env}

/-- the same heap but at the addresses X -/
def KeptBut (X : List Addr) (h h' : Heap) : Prop := ∀ b o, b ∉ X → h.get? b = some o → h'.get? b = some o

/-- a comprehension without a test over a list that stands; an item's result may be an object of its own -/
inductive LgAt (prog : Program) (w : World) (A : Around) (env : Env) (scope : Scope) (cl : List (Str × Addr)) (target : Expr) (elt : Expr) (Q : Value → Shared → Prop) (xv : Value) (s₁ : Shared) : Prop
  | mk (ax : Addr) (vs : List Value) (G : List Addr → Heap → Value → Value → Prop)
    (z1 : xv = .ref ax)
    (z2 : s₁.heap.IsList ax vs.toArray)
    (z3 : vs.length ≤ sizeLine)
    (z4 : (∀ X h h' v y, G X h v y → KeptBut X h h' → G X h' v y))
    (z5 : (∀ v ∈ vs, ∀ (I l : Addr) (i : Nat) (s : Shared) (Q : Unit → Shared → Prop) (E : Value → Shared → Prop), s.heap.IsListIter I l i → Q () s → wpAny (model prog w) A (letOwnedTupleGo target (.ref I) v) Q E s))
    (z6 : (∀ C I D v s₂ m₂ E', v ∈ vs → s₂.heap.Ns C m₂ → (∀ b o, s₁.heap.get? b = some o → s₂.heap.get? b = some o) → (s₂.heap.get? I).isSome → (s₂.heap.get? D).isSome → C ≠ D → C ≠ I → s₁.heap.get? C = none →
      wpAny (model prog w) A (assign target (compEnvC scope cl C env) v) (fun _ s₃ => wpAny (model prog w) A (eval elt (compEnvC scope cl C env))
        (fun y s₄ => ∃ h tk m', s₄ = { s₂ with heap := h, toks := tk } ∧ h.Ns C m' ∧ (∀ b o, b ≠ C → s₂.heap.get? b = some o → h.get? b = some o) ∧ G [C, D, I] h v y) E' s₃) E' s₂))
    (z7 : (∀ X D ys k h' tk, s₁.heap.get? D = none → h'.get? D = some (listOf ys k) → Paired (G X h') vs ys.toList → (∀ b o, s₁.heap.get? b = some o → h'.get? b = some o) → Q (.ref D) { s₁ with heap := h', toks := tk })) : LgAt prog w A env scope cl target elt Q xv s₁

inductive LgJ (s₁ : Shared) (ax I C D : Addr) (vs : List Value) (G : Heap → Value → Value → Prop) (k : Nat) (s' : Shared) : Prop
  | mk (h : Heap) (tk : Nat) (m' : Str → Option Value) (ys : Array Value) (i : Nat) (z1 : s' = { s₁ with heap := h, toks := tk }) (z2 : i ≤ vs.length) (z3 : k = vs.length - i) (z4 : h.IsListIter I ax i) (z5 : h.IsList ax vs.toArray) (z6 : h.PlainList D ys) (z7 : h.Ns C m')
    (z8 : Paired (G h) (vs.take i) ys.toList) (z9 : ∀ b o, s₁.heap.get? b = some o → h.get? b = some o) : LgJ s₁ ax I C D vs G k s'
theorem lcGen {elt iter target : Expr} {scope : Scope} {cl : List (Str × Addr)} {pos : Pos} {Q : Value → Shared → Prop}
    (hh : A.handled = none) (hclos : closureFor scope env = pure cl) (hcell : ∀ y ∈ scope.names, y.2 ≠ .cell) (hkind : scope.kind = .function)
    (hnames : ∀ y ∈ scope.names, y.2 = .local → scope.names.lookup y.1 = some .local)
    (hs : ∀ x, foldedSetIterable iter env x = pure x)
    (h : wpAny (model prog w) A (eval iter env) (LgAt prog w A env scope cl target elt Q) E s) :
    wpAny (model prog w) A (eval (.ListComp elt [⟨target, iter, [], 0⟩] scope pos) env) Q E s := by
  rw [eval_ListComp]
  refine wpAny_comprehension_free (use := none) rfl hs hclos hkind hnames (wpAny_mono h (fun xv s₁ h₁ => ?_) fun _ _ e => e)
  obtain ⟨ax, vs, G, rfl, hl, hsz, stab, hgo, turn, hQ⟩ := h₁
  have hlt : ax < s₁.heap.objs.size := by obtain ⟨_, e, _⟩ := hl; exact Heap.lt_size e
  refine wpAny_pyIter_list hl ?_
  refine wpAny_newObj_type (wpAny_newFunctionEnv hcell (by intro y hy; simp at hy) (fun h₁ hns₁ hsb₁ => ?_) hkind)
  dsimp only at hns₁ hsb₁ ⊢
  generalize hI : s₁.heap.objs.size = I at *
  generalize hH1 : s₁.heap.push { cls := .type "list_iterator", data := .fields #[.ref ax, .int 0 0] } = H1 at hns₁ hsb₁ ⊢
  generalize hH2 : H1.push { cls := .type "list", dict := none, data := .seq ([] : List Value).toArray } = H2 at hns₁ hsb₁ ⊢
  generalize hD : H1.objs.size = D at *
  generalize hC : H2.objs.size = C at *
  have hD' : D = I + 1 := by rw [← hD, ← hH1, Heap.size_push, hI]
  have hC' : C = I + 2 := by rw [← hC, ← hH2, Heap.size_push, hD, hD']
  have old1 : ∀ b o, s₁.heap.get? b = some o → H1.get? b = some o := fun b o e => hH1 ▸ Heap.get?_push_of_some _ e
  have old2 : ∀ b o, H1.get? b = some o → H2.get? b = some o := fun b o e => hH2 ▸ Heap.get?_push_of_some _ e
  have old3 : ∀ b o, b ≠ C → H2.get? b = some o → h₁.get? b = some o := fun b o hb e => hsb₁.extBut b o hb (Heap.get?_push_of_some _ e)
  have below : ∀ b o, s₁.heap.get? b = some o → b < I := fun b o e => hI ▸ Heap.lt_size e
  have old : ∀ b o, s₁.heap.get? b = some o → h₁.get? b = some o := fun b o e => old3 b o (by rintro rfl; have h1 : @LT.lt Nat _ b I := below b o e; omega) (old2 b o (old1 b o e))
  have hit : h₁.IsListIter I ax 0 := ⟨_, old3 _ _ (by rw [hC']; exact Nat.ne_of_lt (Nat.lt_add_of_pos_right (by decide))) (old2 _ _ (by rw [← hH1, ← hI]; exact Heap.get?_push_size _ rfl)), rfl, rfl⟩
  have hacc : h₁.PlainList D #[] := ⟨0, old3 _ _ (by rw [hC', hD']; exact Nat.ne_of_lt (Nat.lt_succ_self _)) (by rw [← hH2, ← hD]; exact Heap.get?_push_size _ rfl)⟩
  have fresh : ∀ a, I ≤ a → s₁.heap.get? a = none := fun a ha => by
    cases e : s₁.heap.get? a with
    | none => rfl
    | some o' => exact absurd (below a o' e) (Nat.not_lt.mpr ha)
  have hlt' : ax < I := hI ▸ hlt
  have nDI : D ≠ I := by rw [hD']; exact Nat.succ_ne_self I
  have nCI : C ≠ I := by rw [hC']; exact Nat.ne_of_gt (Nat.lt_add_of_pos_right (by decide))
  have nCD : C ≠ D := by rw [hC', hD']; exact Nat.ne_of_gt (Nat.lt_succ_self _)
  have nb : ∀ b o, s₁.heap.get? b = some o → b ∉ [C, D, I] := fun b o e hm => by
    have h1 : @LT.lt Nat _ b I := below b o e
    simp only [List.mem_cons, List.not_mem_nil, or_false] at hm
    rcases hm with rfl | rfl | rfl <;> omega
  have nax : ax ∉ [C, D, I] := fun hm => by
    have h1 : @LT.lt Nat _ ax I := hlt'
    simp only [List.mem_cons, List.not_mem_nil, or_false] at hm
    rcases hm with rfl | rfl | rfl <;> omega
  have m1 : ∀ b, b ∉ [C, D, I] → b ≠ C := fun b hb e => hb (e ▸ .head _)
  have m2 : ∀ b, b ∉ [C, D, I] → b ≠ D := fun b hb e => hb (e ▸ .tail _ (.head _))
  have m3 : ∀ b, b ∉ [C, D, I] → b ≠ I := fun b hb e => hb (e ▸ .tail _ (.tail _ (.head _)))
  have W := Walks.list (prog := prog) (w := w) hh I ax (Nat.ne_of_lt hlt') vs.toArray
  have loop : ∀ s₃ : Shared, s₃ = { s₁ with heap := h₁, toks := s₁.toks + ([] : List (Str × Value)).length } →
      codeAny (model prog w) A (.compLoop (.ListComp elt [⟨target, iter, [], 0⟩] scope pos) 0 (.ref I) (.ref D) (compEnvC scope cl C env))
        (compPost (model prog w) A E none Q (.ref D) C) s₃ := by
    rintro s₃ rfl
    refine kcp_loop (LgJ s₁ ax I C D vs (G [C, D, I])) ?_ vs.length
      ⟨h₁, _, _, #[], 0, rfl, Nat.zero_le _, rfl, hit, hl.at fun o e => old _ o e, hacc, hns₁, by simpa using Paired.nil, old⟩
    rintro k s' ⟨h, tk, m', ys, i, rfl, hi, rfl, hit', hl', hacc', hn', hP, hk⟩
    by_cases hlast : i < vs.length
    · refine W.item i _ _ _ (by simpa using hlast) ⟨hit', hl'⟩ fun v h₂ tk₂ hPv hst₂ hk₂ => ?_
      have hv : v = vs[i] := by
        have : vs.toArray[i]? = some v := hPv
        simp [hlast] at this
        exact this.symm
      have hk₂' : ∀ b o, b ≠ I → h.get? b = some o → h₂.get? b = some o := fun b o hb e => hk₂ b o (by simpa using hb) e
      have hn₂ : h₂.Ns C m' := hn'.at' fun o e => hk₂' _ o nCI e
      refine hgo v (by rw [hv]; exact List.getElem_mem _) I ax (i + 1) _ _ _ hst₂.1 ?_
      have hkeep₂ : ∀ b o, s₁.heap.get? b = some o → h₂.get? b = some o := fun b o e => hk₂' b o (m3 _ (nb b o e)) (hk b o e)
      have hacc₂ : h₂.PlainList D ys := hacc'.at fun o e => hk₂' _ o nDI e
      have hsomeI : (h₂.get? I).isSome := by obtain ⟨o, e, _⟩ := hst₂.1; rw [e]; rfl
      have hsomeD : (h₂.get? D).isSome := by obtain ⟨o, e⟩ := hacc₂; rw [e]; rfl
      refine wpAny_mono (turn C I D v { s₁ with heap := h₂, toks := tk₂ } m' _ (by rw [hv]; exact List.getElem_mem _) hn₂ hkeep₂ hsomeI hsomeD nCD nCI (fresh _ (by rw [hC']; exact Nat.le_add_right _ _))) (fun _ s₃ h₃ => ?_) fun _ _ e => e
      refine wpAny_mono h₃ (fun y s₄ h₄ => ?_) fun _ _ e => e
      obtain ⟨h₄, tk₄, m₄, rfl, hn₄, hk₄, hG⟩ := h₄
      have hys : ys.size ≤ sizeLine := by
        have e1 := hP.length
        rw [List.length_take] at e1
        have e4 : ys.toList.length = ys.size := by simp
        omega
      refine wpAny_list_append_plain (hsz := hys) (hacc₂.at fun o e => hk₄ _ o nCD.symm e) fun h₅ hl₅ hs₅ => ?_
      have k45 : KeptBut [C, D, I] h₄ h₅ := fun b o hb e => hs₅.extBut b o (m2 b hb) e
      have k25 : KeptBut [C, D, I] h h₅ := fun b o hb e => k45 b o hb (hk₄ b o (m1 b hb) (hk₂' b o (m3 b hb) e))
      refine ⟨vs.length - (i + 1), by omega, h₅, tk₄, m₄, ys.push y, i + 1, rfl, by omega, rfl, ?_, ?_, hl₅, hn₄.sameBut hs₅ nCD, ?_, fun b o e => k25 b o (nb b o e) (hk b o e)⟩
      · exact hst₂.1.at fun o e => hs₅.extBut _ o nDI.symm (hk₄ _ o nCI.symm e)
      · exact hst₂.2.at fun o e => hs₅.extBut _ o (m2 _ nax) (hk₄ _ o (m1 _ nax) e)
      · rw [List.take_add_one, List.getElem?_eq_getElem hlast, Array.toList_push]
        exact Paired.snoc (Paired.imp hP fun v q _ _ hg => stab _ _ _ _ _ hg k25) (hv ▸ stab _ _ _ _ _ hG k45)
    · have hin : i = vs.length := by omega
      subst hin
      refine W.done _ _ _ (by simpa using And.intro hit' hl') fun h₂ tk₂ hk₂ => ?_
      have hk₂' : ∀ b o, b ≠ I → h.get? b = some o → h₂.get? b = some o := fun b o hb e => hk₂ b o (by simpa using hb) e
      refine ⟨m', hn'.at' fun o e => hk₂' _ o nCI e, fun h₃ hs₃ => ?_⟩
      have k3 : KeptBut [C, D, I] h h₃ := fun b o hb e => hs₃.extBut b o (m1 b hb) (hk₂' b o (m3 b hb) e)
      obtain ⟨kk, hkk⟩ := (hacc'.at fun o e => hs₃.extBut _ o nCD.symm (hk₂' _ o nDI e) : h₃.PlainList D ys)
      refine hQ [C, D, I] D ys kk h₃ tk₂ (fresh _ (by rw [hD']; exact Nat.le_succ _)) hkk ?_ fun b o e => k3 b o (nb b o e) (hk b o e)
      rw [List.take_length] at hP
      exact Paired.imp hP fun v q _ _ hg => stab _ _ _ _ _ hg k3
  exact codeAny_compStart_list (loop _ rfl) (W.self 0 _ _ _ ⟨hit, hl.at fun o e => old _ o e⟩ (loop _ rfl))
end
end Mine
end

section
open PySem PySem.W PySem.Calls PyProof.Rows PySem.Spec Mine
set_option maxRecDepth 100000
set_option maxHeartbeats 8000000
namespace Mine
section
variable {prog : Program} {w : World} {A : Around} {E : Value → Shared → Prop} {s : Shared} {env : Env}
/-- a comprehension over any iterator that is known to walk -/
inductive LcAtW (prog : Program) (w : World) (A : Around) (env : Env) (scope : Scope) (cl : List (Str × Addr)) (x : Str) (ifs : List Expr) (elt : Expr) (Q : Value → Shared → Prop) (it : Value) (s₂ : Shared) : Prop
  | mk (I : Addr) (fp wr : List Addr) (n : Nat) (P : Nat → Value → Prop) (St : Nat → Heap → Prop) (p : Value → Bool) (F : Value → Value → Prop)
    (z1 : it = .ref I)
    (z2 : Walks prog w A I fp wr n P St)
    (z3 : n ≤ sizeLine)
    (z4 : St 0 s₂.heap)
    (z5 : (∀ b ∈ fp, b < s₂.heap.objs.size))
    (z6 : (∀ C i v s₃ m₂ E', P i v → s₃.heap.Ns (compEnvC scope cl C env).locals m₂ → m₂ x = some v → (∀ b o, b ∉ wr → s₂.heap.get? b = some o → s₃.heap.get? b = some o) →
      wpAny (model prog w) A (testsOf ifs (compEnvC scope cl C env)) (Fin1 (fun ok _ => ok = p v) s₃) E' s₃))
    (z7 : (∀ C i v s₃ m₂ E', P i v → p v = true → s₃.heap.Ns (compEnvC scope cl C env).locals m₂ → m₂ x = some v → (∀ b o, b ∉ wr → s₂.heap.get? b = some o → s₃.heap.get? b = some o) →
      wpAny (model prog w) A (eval elt (compEnvC scope cl C env)) (Fin1 (fun y _ => F v y) s₃) E' s₃))
    (z8 : (∀ D ys k h' tk (vs : List Value), s₂.heap.get? D = none → h'.get? D = some (listOf ys k) → vs.length = n → (∀ j v, vs[j]? = some v → P j v) → Paired F (vs.filter p) ys.toList → (∀ b o, b ∉ wr → s₂.heap.get? b = some o → h'.get? b = some o) → Q (.ref D) { s₂ with heap := h', toks := tk })) : LcAtW prog w A env scope cl x ifs elt Q it s₂

theorem lcW {elt iter : Expr} {x : Str} {px : Pos} {ifs : List Expr} {scope : Scope} {cl : List (Str × Addr)} {pos : Pos} {Q : Value → Shared → Prop}
    (hclos : closureFor scope env = pure cl) (hcell : ∀ y ∈ scope.names, y.2 ≠ .cell) (hkind : scope.kind = .function)
    (hnames : ∀ y ∈ scope.names, y.2 = .local → scope.names.lookup y.1 = some .local) (hx : scope.names.lookup x = some .local)
    (hs : ∀ x, foldedSetIterable iter env x = pure x)
    (h : wpAny (model prog w) A (eval iter env) (fun xv s₁ => wpAny (model prog w) A (pyIter xv) (LcAtW prog w A env scope cl x ifs elt Q) E s₁) E s) :
    wpAny (model prog w) A (eval (.ListComp elt [⟨.Name x px, iter, ifs, 0⟩] scope pos) env) Q E s := by
  rw [eval_ListComp]
  refine wpAny_comprehension_free (use := none) rfl hs hclos hkind hnames (wpAny_mono h (fun xv s₁ h₁ => wpAny_mono h₁ (fun it s₂ h₂ => ?_) fun _ _ e => e) fun _ _ e => e)
  obtain ⟨I, fp, wr, n, P, St, p, F, rfl, W, hsz, hst, hfp, htests, helt, hQ⟩ := h₂
  refine comp_block_walkC (RR := fun acc C => compPost (model prog w) A E none Q acc C) W hsz p F hcell hkind hx hst hfp ⟨?_, ?_⟩ ?_
  · intro C i v s₃ m₃ E' _ hP hn hm hk _
    exact htests C i v s₃ m₃ E' hP hn hm hk
  · intro C i v s₃ m₃ E' _ hP hp hn hm hk _
    exact helt C i v s₃ m₃ E' hP hp hn hm hk
  · intro D C h' tk m' ys vs' hD hC hDC hn hlD hpl hlen hP hF hk
    refine ⟨m', hn, fun h'' hs'' => ?_⟩
    obtain ⟨k, hk1⟩ := hpl.extBut hs''.extBut hDC
    exact hQ D ys k h'' tk vs' hD hk1 hlen hP hF fun b o hbf e => hs''.extBut b o (by rintro rfl; rw [hC] at e; cases e) (hk b o hbf e)
end
end Mine
end

section
open PySem PySem.W PySem.Calls PyProof.Rows PySem.Spec Mine
set_option maxRecDepth 100000
set_option maxHeartbeats 8000000
namespace Mine
section
variable {prog : Program} {w : World} {A : Around} {E : Value → Shared → Prop} {s : Shared} {env : Env}

/-- a turn's end, kept short -/
theorem turn_gen {M : Model} {A : Around} {s : Shared} {a : Sem Unit} {b : Sem Flow} {Q : Flow → Shared → Prop} {E E' : Value → Shared → Prop} (h : ∀ QQ : Flow → Shared → Prop, (∀ f s', Q f s' → QQ f s') → wpAny M A a (fun _ s' => wpAny M A b QQ E' s') E s) : wpAny M A a (fun _ s' => wpAny M A b Q E' s') E s := h Q fun _ _ h => h
theorem body_gen {M : Model} {A : Around} {s : Shared} {b : Sem Flow} {Q : Flow → Shared → Prop} {E : Value → Shared → Prop} (h : ∀ QQ : Flow → Shared → Prop, (∀ f s', Q f s' → QQ f s') → wpAny M A b QQ E s) : wpAny M A b Q E s := h Q fun _ _ h => h
/-- a turn's end -/
inductive Turned (J : Heap → Prop) (fp : List Addr) (h₁ : Heap) (s₂ s'' : Shared) : Prop
  | mk (h' : Heap) (tk' : Nat) (z1 : s'' = { s₂ with heap := h', toks := tk' }) (z2 : J h') (z3 : ∀ b ∈ fp, ∀ o, h₁.get? b = some o → h'.get? b = some o) : Turned J fp h₁ s₂ s''
/-- where a turn of a loop leads -/
def TurnTo (Q : Flow → Shared → Prop) (J : Heap → Prop) (fp : List Addr) (h₁ : Heap) (s₂ : Shared) (fl : Flow) (s'' : Shared) : Prop :=
  match fl with
  | .ret v => Q (.ret v) s''
  | .brk => Q .next s''
  | _ => Turned J fp h₁ s₂ s''
/-- a loop whose state is told by J of the heap -/
inductive ForAt (prog : Program) (w : World) (A : Around) (env : Env) (target : Expr) (body : List Stmt) (Q : Flow → Shared → Prop) (it : Value) (s₂ : Shared) : Prop
  | mk (I : Addr) (fp wr : List Addr) (n : Nat) (P : Nat → Value → Prop) (St : Nat → Heap → Prop) (J : Nat → Heap → Prop)
    (z1 : it = .ref I)
    (z2 : Walks prog w A I fp wr n P St)
    (z3 : (∀ v, letOwnedTupleGo target it v = pure ()))
    (z4 : St 0 s₂.heap)
    (z5 : J 0 s₂.heap)
    (z6 : (∀ i v h h₁ tk, i < n → P i v → J i h → KeptBut wr h h₁ → St (i + 1) h₁ →
      wpAny (model prog w) A (assign target env v) (fun _ s' => wpAny (model prog w) A (execs body env) (TurnTo Q (J (i + 1)) fp h₁ s₂) (fun _ _ => False) s') (fun _ _ => False) { s₂ with heap := h₁, toks := tk }))
    (z7 : (∀ h h' tk, J n h → KeptBut wr h h' → Q .next { s₂ with heap := h', toks := tk })) : ForAt prog w A env target body Q it s₂

theorem forW {Q : Flow → Shared → Prop} {target iter : Expr} {body : List Stmt} {pos : Pos}
    (hs : ∀ x, foldedSetIterable iter env x = pure x)
    (h : wpAny (model prog w) A (eval iter env) (fun xv s₁ => wpAny (model prog w) A (pyIter xv) (ForAt prog w A env target body Q) E s₁) E s) :
    wpAny (model prog w) A (exec (.For target iter body [] pos) env) Q E s := by
  refine wpAny_For (wpAny_mono h (fun xv s₁ h₁ => wpAny_mono h₁ (fun it s₂ h₂ => ?_) fun _ _ e => e) fun _ _ e => e) hs
  obtain ⟨I, fp, wr, n, P, St, J, rfl, W, hgo, hst, h0, turn, done⟩ := h₂
  refine codeAny_forLoop (fun k s' => ∃ h tk i, s' = { s₂ with heap := h, toks := tk } ∧ i ≤ n ∧ k = n - i ∧ St i h ∧ J i h) ?_ n ⟨s₂.heap, s₂.toks, 0, rfl, Nat.zero_le _, rfl, hst, h0⟩ hgo
  rintro k s' ⟨h, tk, i, rfl, hi, rfl, hst, hJ⟩
  by_cases hlast : i < n
  · refine W.item i _ _ _ hlast hst fun v h₁ tk₁ hPv hst₁ hk₁ => ?_
    refine wpAny_mono (turn i v h h₁ tk₁ hlast hPv hJ hk₁ hst₁) (fun _ s' h' => wpAny_mono h' (fun fl s'' hf => ?_) fun _ _ e => e.elim) fun _ _ e => e.elim
    cases fl with
    | ret v => exact hf
    | brk => exact hf
    | next =>
      obtain ⟨h', tk', rfl, hJ', hk'⟩ := hf
      exact ⟨n - (i + 1), by omega, h', tk', i + 1, rfl, hlast, rfl, W.frame _ _ _ hst₁ hk', hJ'⟩
    | cont =>
      obtain ⟨h', tk', rfl, hJ', hk'⟩ := hf
      exact ⟨n - (i + 1), by omega, h', tk', i + 1, rfl, hlast, rfl, W.frame _ _ _ hst₁ hk', hJ'⟩
  · have hin : i = n := by omega
    subst hin
    refine W.done _ _ _ hst fun h₁ tk₁ hk₁ => wpAny_execs_nil ?_
    exact done h h₁ tk₁ hJ hk₁
end
end Mine
end

section
open PySem PySem.W PySem.Calls PyProof.Rows
set_option maxRecDepth 100000
set_option maxHeartbeats 8000000
namespace Mine
theorem entry_search : entryFor table "re.Pattern.search" = some Builtin.«re.Pattern.search» := entryFor_of_fast (by kernel_rfl)
theorem plain_search : plainId "re.Pattern.search" = true := by decide +kernel

theorem call_peek {prog : Program} {w : World} {A : Around} {E : Value → Shared → Prop} {s : Shared} {Q : Value → Shared → Prop} {K : Frag} {id : String} {b : Builtin} {args : List Value} {r : Value}
    (X : K.In s.heap) (hq : plainId id = true) (hb : entryFor table id = some b) (hchk : ∀ S, peek K S (checkBuiltinCall id ⟨args, []⟩) = some ()) (hbody : ∀ S, peek K S (b ⟨args, []⟩) = some (.done (.ret r)))
    (h : Q r s) : wpAny (model prog w) A (call (.builtin id) args) Q E s := by
  refine wpAny_call (codeAny_of_tree ?_)
  show wpAny _ _ (do checkBuiltinCall id ⟨args, []⟩; again (.builtin id ⟨args, []⟩)) _ _ s
  have step : wpAny (model prog w) (A.under (.call (.builtin id) ⟨args, []⟩)) (again (.builtin id ⟨args, []⟩)) (fun fin s' => match fin with
      | .done f => (match (Except.ok f : Result) with | .ok (.ret v) => Q v s' | .ok _ => False | .error e => E e s')
      | .again c' => c'.quiet = true ∧ codeAny (model prog w) A c' (fun r s' => match r with | .ok (.ret v) => Q v s' | .ok _ => False | .error e => E e s') s') (fun e s' => E e s') s := ?_
  · exact wpAny_bind (fun Γ p _ => wp_of_peek X step _ (hchk _))
  refine wpAny_pure (a := Fin.again (.builtin id ⟨args, []⟩)) ⟨plainId_quiet hq _, codeAny_of_tree ?_⟩
  show wpAny _ _ (match entryFor table id with | some b => b ⟨args, []⟩ | none => unsupported ((withoutEnding? id "#data").getD id)) _ _ s
  rw [hb]
  exact fun Γ p _ => wp_of_peek X h _ (hbody _)

/-- the signs and the figures -/
def okCode (c : Nat) : Bool := (48 ≤ c && c ≤ 57) || (65 ≤ c && c ≤ 69) || (97 ≤ c && c ≤ 101)
abbrev T1 (c : Nat) : Str := ⟨#[c]⟩
theorem okCode_in {c : Nat} (h : okCode c = true) : c ∈ [48, 49, 50, 51, 52, 53, 54, 55, 56, 57, 65, 66, 67, 68, 69, 97, 98, 99, 100, 101] := by
  have all : ((List.range 128).all fun c => !okCode c || [48, 49, 50, 51, 52, 53, 54, 55, 56, 57, 65, 66, 67, 68, 69, 97, 98, 99, 100, 101].contains c) = true := by decide +kernel
  have hlt : c < 128 := by
    simp [okCode] at h
    omega
  have := List.all_eq_true.mp all c (List.mem_range.mpr hlt)
  rw [h] at this
  exact List.contains_iff_mem.mp this
theorem okCode_lt {c : Nat} (h : okCode c = true) : c < 128 := by
  simp [okCode] at h
  omega
theorem search_none {P : Params} {c p : Nat} (hc : okCode c = true) (hp : p = 48 ∨ p = 53) (t : Tok) :
    (∀ S, peek (Mine.hd.heap_39 P) S (checkBuiltinCall "re.Pattern.search" ⟨[.ref p, .str (T1 c) t], []⟩) = some ()) ∧
    (∀ S, peek (Mine.hd.heap_39 P) S (Builtin.«re.Pattern.search» ⟨[.ref p, .str (T1 c) t], []⟩) = some (.done (.ret .none))) := by
  have := okCode_in hc
  clear hc
  simp only [List.mem_cons, List.not_mem_nil, or_false] at this
  rcases hp with rfl | rfl <;> rcases this with rfl | rfl | rfl | rfl | rfl | rfl | rfl | rfl | rfl | rfl | rfl | rfl | rfl | rfl | rfl | rfl | rfl | rfl | rfl | rfl <;>
  exact ⟨fun S => by kernel_rfl, fun S => by kernel_rfl⟩
theorem call_search {prog : Program} {w : World} {A : Around} {E : Value → Shared → Prop} {s : Shared} {Q : Value → Shared → Prop} {c p : Nat} {t : Tok} (X : (Mine.hd.heap_39 w.params).In s.heap) (hc : okCode c = true) (hp : p = 48 ∨ p = 53)
    (h : Q .none s) : wpAny (model prog w) A (call (.builtin "re.Pattern.search") [.ref p, .str (T1 c) t]) Q E s :=
  call_peek X plain_search entry_search (search_none hc hp t).1 (search_none hc hp t).2 h
theorem getMethod_search {M : Model} {w : World} {A : Around} {E : Value → Shared → Prop} {s : Shared} {Q : Value × List Value → Shared → Prop} {p : Nat} {pl : Sem Bool} (X : (Mine.hd.heap_39 w.params).In s.heap) (hp : p = 48 ∨ p = 53)
    (h : Q (.builtin "re.Pattern.search", [.ref p]) s) : wpAny M A (getMethod (.ref p) (Str.ofString "search") pl) Q E s := by
  rcases hp with rfl | rfl
  · exact fun Γ p _ => wp_of_peek X h _ (by kernel_rfl)
  · exact fun Γ p _ => wp_of_peek X h _ (by kernel_rfl)
theorem lower_T1 {c : Nat} (hc : okCode c = true) : Txt.lower (T1 c) = T1 (lowc c) ∧ okCode (lowc c) = true ∧ Builtin.Str.tooLong (Txt.lower (T1 c)).length = false := by
  have := okCode_in hc
  clear hc
  simp only [List.mem_cons, List.not_mem_nil, or_false] at this
  rcases this with rfl | rfl | rfl | rfl | rfl | rfl | rfl | rfl | rfl | rfl | rfl | rfl | rfl | rfl | rfl | rfl | rfl | rfl | rfl | rfl <;> exact ⟨by decide +kernel, by decide +kernel, by decide +kernel⟩
theorem call_lower {prog : Program} {w : World} {A : Around} {E : Value → Shared → Prop} {s : Shared} {Q : Value → Shared → Prop} {c : Nat} {t : Tok} (hc : okCode c = true)
    (h : ∀ t' tk, okCode (lowc c) = true → Q (.str (T1 (lowc c)) t') { s with toks := tk }) : wpAny (model prog w) A (call (.builtin "str.lower") [.str (T1 c) t]) Q E s :=
  SC.lower (lower_T1 hc).2.2 (by rw [(lower_T1 hc).1]; exact h _ _ (lower_T1 hc).2.1)

/-- the Headers object at x: its dict dx, its list hl -/
structure Hdr (h : Heap) (x dx hl : Addr) (its : List Value) (n : Nat) : Prop where
  inst : ∃ hsh tk k, InstAt h x (instObj 182 dx) 182 (some (dictOf [⟨hsh, .str (Str.ofString "_headers") tk, .ref hl⟩] k))
  list : h.get? hl = some (listOf its.toArray n)
theorem InstAt.mono {h h' : Heap} {x C : Addr} {ox : Obj} {od : Option Obj} (I : InstAt h x ox C od) (k : ∀ b o, h.get? b = some o → h'.get? b = some o) : InstAt h' x ox C od := by
  refine ⟨k _ _ I.at_, I.cls, I.no, ?_⟩
  have := I.dict
  cases e1 : ox.dict <;> cases e2 : od <;> simp only [e1, e2] at this ⊢
  exact k _ _ this
/-- a new list that R tells -/
inductive NewL (g : Heap) (R : List Value → Prop) (v : Value) (h : Heap) : Prop
  | mk (D : Addr) (ys : Array Value) (k : Nat) (z1 : v = .ref D) (z2 : g.get? D = none) (z3 : h.get? D = some (listOf ys k)) (z4 : R ys.toList) : NewL g R v h
def PairAt (h : Heap) (v : Value) (q : Nat × Nat) : Prop := ∃ t tk tk', v = .ref t ∧ IsTup h t [Value.str (T1 q.1) tk, Value.str (T1 (48 + q.2)) tk'].toArray
theorem PairAt.keeps {h h' : Heap} {v : Value} {q : Nat × Nat} (p : PairAt h v q) (k : ∀ b o, h.get? b = some o → h'.get? b = some o) : PairAt h' v q := by
  obtain ⟨t, tk, tk', e, I⟩ := p
  exact ⟨t, tk, tk', e, IsTup.keeps I k⟩
theorem T1_inj {a b : Nat} : T1 a = T1 b ↔ a = b := by simp [T1]
theorem PairAt.inj {h : Heap} {v : Value} {q q' : Nat × Nat} (p : PairAt h v q) (p' : PairAt h v q') : q = q' := by
  obtain ⟨t, a, b, rfl, o, ho, hc, n, hn⟩ := p
  obtain ⟨t', a', b', e, o', ho', hc', n', hn'⟩ := p'
  cases e
  rw [ho] at ho'
  cases ho'
  rw [hn] at hn'
  simp only [Data.seq.injEq] at hn'
  have h1 := hn'.1
  simp at h1
  obtain ⟨⟨h2, _⟩, h3, _⟩ := h1
  exact Prod.ext h2 h3
theorem notIn_of {h h' : Heap} (k : ∀ b o, h.get? b = some o → h'.get? b = some o) {D : Addr} (e : h'.get? D = none) : h.get? D = none := by
  cases q : h.get? D with
  | none => rfl
  | some o => rw [k _ _ q] at e; cases e
theorem small_line {n : Nat} (h : n ≤ 1000) : n ≤ sizeLine := by rw [sizeLine_eq]; omega
end Mine
end

section
open PySem PySem.W PySem.Calls PyProof.Rows PySem.Spec Mine
set_option maxRecDepth 100000
set_option maxHeartbeats 8000000
namespace Mine
section
variable {prog : Program} {w : World} {A : Around} {E : Value → Shared → Prop} {s : Shared} {env : Env}
theorem isL_N {h₀ h : Heap} {L l n : Nat} {news : List (Addr × Obj)} {its : Array Value} (N : News h₀ L h news) (hm : (l, listOf its n) ∈ news) : h.IsList l its := ⟨_, (N _ hm).1, rfl, _, rfl⟩
theorem isL_F {g h : Heap} {L l : Nat} {m : Str → Option Value} {its : Array Value} (F : Fr g L h m) (hl : g.IsList l its) : h.IsList l its := hl.at fun o e => F.keep _ o e

inductive WTurned (J : Nat → Heap → Prop) (n : Nat) (s s₃ : Shared) : Prop
  | mk (h' : Heap) (tk n' : Nat) (z1 : s₃ = { s with heap := h', toks := tk }) (z2 : n' < n) (z3 : J n' h') : WTurned J n s s₃
/-- where a turn of a while leads -/
def WTurnTo (Q : Flow → Shared → Prop) (J : Nat → Heap → Prop) (n : Nat) (s : Shared) (fl : Flow) (s₃ : Shared) : Prop :=
  match fl with
  | .ret v => Q (.ret v) s₃
  | .brk => Q .next s₃
  | _ => WTurned J n s s₃
/-- behind the test of a while -/
def WTest (prog : Program) (w : World) (A : Around) (env : Env) (body : List Stmt) (Q : Flow → Shared → Prop) (J : Nat → Heap → Prop) (n : Nat) (s : Shared) (b : Bool) (s₂ : Shared) : Prop :=
  (b = true → wpAny (model prog w) A (execs body env) (WTurnTo Q J n s) (fun _ _ => False) s₂) ∧ (b = false → Q .next s₂)
theorem whileW {Q : Flow → Shared → Prop} {test : Expr} {body : List Stmt} {pos : Pos} (J : Nat → Heap → Prop) {n₀ : Nat} (hJ : J n₀ s.heap)
    (turn : ∀ n h₁ tk₁, J n h₁ → wpAny (model prog w) A (isTrue test env (eval test env)) (WTest prog w A env body Q J n s) (fun _ _ => False) { s with heap := h₁, toks := tk₁ }) :
    wpAny (model prog w) A (exec (.While test body [] pos) env) Q E s := by
  refine wpAny_While (codeAny_whileLoop (fun n s' => ∃ h₁ tk₁, s' = { s with heap := h₁, toks := tk₁ } ∧ J n h₁) ?_ n₀ ⟨s.heap, s.toks, rfl, hJ⟩)
  rintro n s' ⟨h₁, tk₁, rfl, J₁⟩
  refine wpAny_mono (turn n h₁ tk₁ J₁) (fun b s₂ h₂ => ?_) fun _ _ e => e.elim
  cases b with
  | false => exact wpAny_execs_nil (h₂.2 rfl)
  | true =>
    refine wpAny_mono (h₂.1 rfl) (fun f s₃ h₃ => ?_) fun _ _ e => e.elim
    cases f with
    | next =>
      obtain ⟨h', tk, n', rfl, hn, J₂⟩ := h₃
      exact ⟨n', hn, h', tk, rfl, J₂⟩
    | cont =>
      obtain ⟨h', tk, n', rfl, hn, J₂⟩ := h₃
      exact ⟨n', hn, h', tk, rfl, J₂⟩
    | brk => exact h₃
    | ret v => exact h₃
end
theorem map1 {m m0 : Str → Option Value} {a : Str} (h : ∀ y, y ≠ a → m y = m0 y) : m = fun y => if y = a then m a else m0 y := by
  funext y
  by_cases e : y = a
  · subst e; simp
  · simp [e, h y e]
theorem map2 {m m0 : Str → Option Value} {a b : Str} (h : ∀ y, y ≠ a → y ≠ b → m y = m0 y) : m = fun y => if y = a then m a else if y = b then m b else m0 y := by
  funext y
  by_cases e : y = a
  · subst e; simp
  · by_cases e2 : y = b
    · subst e2; simp [e]
    · simp [e, e2, h y e e2]
theorem Fr.keptBut {X : List Addr} {g h h₁ : Heap} {L : Addr} {m : Str → Option Value} (F : Fr g L h m) (k : KeptBut X h h₁) (hX : ∀ b ∈ X, g.get? b = none) (hL : L ∉ X) : Fr g L h₁ m :=
  ⟨F.ns.at' fun o e => k _ o hL e, fun b o e => k b o (fun hb => by rw [hX b hb] at e; cases e) (F.keep b o e), F.above⟩
theorem News.keptBut {X : List Addr} {g h h₁ : Heap} {L : Addr} {news : List (Addr × Obj)} (N : News g L h news) (k : KeptBut X h h₁) (hX : ∀ p ∈ news, p.1 ∉ X) : News g L h₁ news :=
  fun p hp => ⟨k _ _ (hX p hp) (N p hp).1, (N p hp).2⟩
theorem KeptBut.none {h h' : Heap} (k : ∀ b o, h.get? b = some o → h'.get? b = some o) (X : List Addr) : KeptBut X h h' := fun b o _ e => k b o e
theorem Paired.filter2 {α β : Type} {R : α → β → Prop} {p : α → Bool} {pz : β → Bool} : ∀ {l : List α} {l' : List β}, Paired R l l' → (∀ v q, q ∈ l' → R v q → p v = pz q) → Paired R (l.filter p) (l'.filter pz)
  | _, _, .nil, _ => .nil
  | _, _, .cons (a := v) (b := q) h t, k => by
    have e := k v q (.head _) h
    have ih := Paired.filter2 t fun v q hq => k v q (.tail _ hq)
    by_cases c : pz q = true
    · rw [List.filter_cons_of_pos (by rw [e]; exact c), List.filter_cons_of_pos c]
      exact .cons h ih
    · rw [List.filter_cons_of_neg (by rw [e]; exact c), List.filter_cons_of_neg c]
      exact ih
theorem Paired.get {α β : Type} {R : α → β → Prop} : ∀ {l : List α} {l' : List β}, Paired R l l' → ∀ (i : Nat) (q : β), l'[i]? = some q → ∃ v : α, l[i]? = some v ∧ R v q
  | _, _, .nil, i, q, e => by simp at e
  | _, _, .cons h t, 0, q, e => by simp at e; subst e; exact ⟨_, rfl, h⟩
  | _, _, .cons h t, i + 1, q, e => by simpa using Paired.get t i q (by simpa using e)
theorem Paired.ofGet {α β : Type} {R : α → β → Prop} : ∀ {l : List α} {l' : List β}, l.length = l'.length → (∀ (i : Nat) (v : α) (q : β), l[i]? = some v → l'[i]? = some q → R v q) → Paired R l l'
  | [], [], _, _ => .nil
  | v :: l, q :: l', e, k => .cons (k 0 v q rfl rfl) (Paired.ofGet (by simpa using e) fun i v q h1 h2 => k (i + 1) v q (by simpa using h1) (by simpa using h2))
  | [], _ :: _, e, _ => by simp at e
  | _ :: _, [], e, _ => by simp at e
/-- ints -/
abbrev Ints (vs : List Value) (ns : List Nat) : Prop := Paired (fun v (n : Nat) => ∃ t, v = Value.int (n : Int) t) vs ns
theorem Ints.are : ∀ {vs : List Value} {ns : List Nat}, Ints vs ns → IntsAre vs (ns.map fun (n : Nat) => (n : Int))
  | _, _, .nil => .nil
  | _, _, .cons ⟨t, e⟩ h => by subst e; exact .cons _ t (Ints.are h)
theorem ints_range {vs : List Value} {n : Nat} (hl : vs.length = n) (h : ∀ (j : Nat) (v : Value), vs[j]? = some v → ∃ t, v = Value.int (j : Int) t) : Ints vs (List.range n) :=
  Paired.ofGet (by simpa using hl) fun i v q h1 h2 => by
    obtain ⟨t, e⟩ := h i v h1
    have : q = i := by
      have := List.getElem?_range (n := n) (i := i)
      by_cases c : i < n
      · rw [this c] at h2; exact (Option.some.inj h2).symm
      · rw [List.getElem?_eq_none (by simpa using c)] at h2; cases h2
    subst this
    exact ⟨t, e⟩
section
variable {prog : Program} {w : World} {A : Around} {E : Value → Shared → Prop} {s : Shared}
/-- a range's iterator that stands at i, n of it left -/
abbrev rIt (i n : Int) : Obj := { cls := .type "range_iterator", dict := none, data := .fields #[rawInt i, rawInt n, rawInt 1], slots := #[] }
theorem pyIter_r {r : Addr} {b : Int} {n : Nat} {t u v : Tok} {Q : Value → Shared → Prop} (hr : IsRange s.heap r 0 b 1 t u v) (hb : b = n) (hn : n ≤ 1000)
    (h : Q (.ref s.heap.objs.size) { s with heap := s.heap.push (rIt 0 n) }) : wpAny (model prog w) A (pyIter (.ref r)) Q E s := by
  subst hb
  refine wpAny_pyIter_range hr (small_one (by decide) (by decide) (by omega) (by omega)) ?_
  rw [rangeSize_nat]
  have : (((n : Int) - 0).toNat : Int) = n := by omega
  rw [this]
  exact h
theorem walksR (hh : A.handled = none) (I : Addr) (n : Nat) :
    Walks prog w A I [I] [I] n (fun i v => ∃ t, v = .int (i : Int) t) (fun i h => h.get? I = some (rIt i ((n : Int) - (i : Nat)))) := by
  have := Walks.range (prog := prog) (w := w) hh I 0 1 n
  simpa using this
end
theorem Fr.named {g h : Heap} {L : Addr} {m : Str → Option Value} (_F : Fr g L h m) : ∃ m0 : Str → Option Value, m0 = m := ⟨m, rfl⟩
theorem fdiv2 (i : Nat) : (i : Int).fdiv 2 = ((i / 2 : Nat) : Int) := by
  rw [Int.fdiv_eq_ediv_of_nonneg _ (by decide)]; rfl
theorem fmod2 (i : Nat) : (i : Int).fmod 2 = ((i % 2 : Nat) : Int) := by
  rw [Int.fmod_eq_emod_of_nonneg _ (by decide)]; rfl
theorem Walks.bounded {prog : Program} {w : World} {A : Around} {I : Addr} {fp wr : List Addr} {n : Nat} {P : Nat → Value → Prop} {St : Nat → Heap → Prop} (W : PySem.Walks prog w A I fp wr n P St) : PySem.Walks prog w A I fp wr n (fun i v => i < n ∧ P i v) St where
  sub := W.sub
  frame := W.frame
  item := fun i s Q E hi st hQ => W.item i s Q E hi st fun v h' tk hP => hQ v h' tk ⟨hi, hP⟩
  done := W.done
  self := W.self
theorem walksRB {prog : Program} {w : World} {A : Around} (hh : A.handled = none) (I : Addr) (n : Nat) :
    PySem.Walks prog w A I [I] [I] n (fun i v => i < n ∧ ∃ t, v = .int (i : Int) t) (fun i h => h.get? I = some (rIt i ((n : Int) - (i : Nat)))) := Walks.bounded (walksR hh I n)
theorem upPush {h h' : Heap} {o : Obj} (hk : ∀ b o', b ∉ [h.objs.size] → (h.push o).get? b = some o' → h'.get? b = some o') : ∀ b o', h.get? b = some o' → h'.get? b = some o' :=
  fun b o' e => hk b o' (by simpa using Nat.ne_of_lt (Heap.lt_size e)) (Heap.get?_push_of_some _ e)
theorem fpPush {h : Heap} {o : Obj} : ∀ b ∈ [h.objs.size], b < (h.push o).objs.size := fun b hb => by
  rw [List.mem_singleton.mp hb, Heap.size_push]; exact Nat.lt_succ_self _
theorem News.sub {g h : Heap} {L : Addr} {l l' : List (Addr × Obj)} (N : News g L h l) (k : ∀ p ∈ l', p ∈ l) : News g L h l' := fun p hp => N p (k p hp)
theorem acr_val (cs : List Nat) (i : Nat) : 2 * ((partner cs (i / 2) : Nat) : Int) + [1 - (i : Int).fmod 2, (i : Int).fmod 2].getD (if (T1 (cs.getD (i / 2) 0) == T1 (cs.getD (partner cs (i / 2)) 0)) = true then (1 : Int) else 0).toNat 0 = ((acr cs i : Nat) : Int) := by
  rw [fmod2]
  unfold acr
  by_cases h : cs.getD (i / 2) 0 = cs.getD (partner cs (i / 2)) 0
  · rw [if_pos h, if_pos (by rw [beq_iff_eq, T1_inj]; exact h)]
    show 2 * _ + ((i % 2 : Nat) : Int) = _
    omega
  · rw [if_neg h, if_neg (by rw [beq_iff_eq, T1_inj]; exact h)]
    show 2 * _ + (1 - ((i % 2 : Nat) : Int)) = _
    omega
theorem News.tl {g h : Heap} {L : Addr} {p : Addr × Obj} {l : List (Addr × Obj)} (N : News g L h (p :: l)) : News g L h l := fun q hq => N q (.tail _ hq)
section
variable {prog : Program} {w : World} {A : Around} {E : Value → Shared → Prop} {s : Shared}
theorem any_nat (seen : List Nat) (p : Nat) : (seen.map fun (n : Nat) => (n : Int)).any (· == (p : Int)) = decide (p ∈ seen) := by
  rw [Bool.eq_iff_iff]
  simp only [List.any_eq_true, decide_eq_true_eq, List.mem_map, beq_iff_eq]
  constructor
  · rintro ⟨x, ⟨n, hn, rfl⟩, h⟩
    have : n = p := by omega
    exact this ▸ hn
  · exact fun h => ⟨_, ⟨p, h, rfl⟩, rfl⟩
theorem notin_arr {l : Addr} {sv : Array Value} {seen : List Nat} {p : Nat} {t : Tok} {Q : Value → Shared → Prop} (hi : Ints sv.toList seen) (hl : s.heap.IsList l sv)
    (h : Q (.bool (!decide (p ∈ seen))) s) : wpAny (model prog w) A (compareOp .NotIn (.int (p : Int) t) (.ref l)) Q E s :=
  notin_list_ints (vs := sv.toList) hl (Ints.are hi) (by rw [any_nat]; exact h)
end
theorem map3 {m m0 : Str → Option Value} {a b c : Str} (h : ∀ y, y ≠ a → y ≠ b → y ≠ c → m y = m0 y) : m = fun y => if y = a then m a else if y = b then m b else if y = c then m c else m0 y := by
  funext y
  by_cases e : y = a
  · subst e; simp
  · by_cases e2 : y = b
    · subst e2; simp [e]
    · by_cases e3 : y = c
      · subst e3; simp [e, e2]
      · simp [e, e2, e3, h y e e2 e3]
theorem nxt_val (N r : Nat) (h : 0 < N) : ((r : Int) + (r : Int).fmod 2 * 2 - 1).fmod (N : Int) = ((stepP N r : Nat) : Int) := by
  rw [fmod2, Int.fmod_eq_emod_of_nonneg _ (by omega), stepP_int N r h]
section
variable {prog : Program} {w : World} {A : Around} {E : Value → Shared → Prop} {s : Shared} {h₀ : Heap} {L D b : Addr} {m : Str → Option Value} {news news' : List (Addr × Obj)} {its its2 : Array Value} {n n2 : Nat}
theorem ext2 {Q : Value → Shared → Prop} (F : Fr h₀ L s.heap m) (N : News h₀ L s.heap news) (hb : (b, listOf its2 n2) ∈ news) (hne : its2.toList.length ≠ 0)
    (U : Upd D (listOf its n) (listOf (its.toList ++ its2.toList).toArray (n + 1)) news news') (hd : its.size + its2.size ≤ 5000)
    (h : ∀ h', Fr h₀ L h' m → News h₀ L h' news' → Q .none { s with heap := h' }) : wpAny (model prog w) A (call (.builtin "list.extend") [.ref D, .ref b]) Q E s := by
  have e : (5000 : Nat) ≤ sizeLine := by decide
  exact kl_extend F N hb rfl hne U (by
    intro h
    have := (Bool.and_eq_true_iff.mp h).2
    unfold Builtin.List.listTooLong at this
    have := of_decide_eq_true this
    omega) (by rw [Array.length_toList]; omega) (by omega) h
end
end Mine
end

section
open PySem PySem.W PySem.Calls PyProof.Rows Mine
set_option maxRecDepth 100000
set_option maxHeartbeats 8000000
namespace Mine
theorem hide1_get {h : Heap} {a b : Addr} {o : Obj} (e : h.get? b = some o) (n : b ≠ a) : (hideAll h [a]).get? b = some o := hideAll_get [a] e (by simpa using n)
theorem hide1_of {h : Heap} {a b : Addr} {o : Obj} (e : (hideAll h [a]).get? b = some o) : h.get? b = some o := of_hideAll [a] e
theorem hide1_none {h : Heap} {a : Addr} : (hideAll h [a]).get? a = none := hideAll_none [a] (.head _)
theorem hide1_ne {h : Heap} {a b : Addr} {o : Obj} (e : (hideAll h [a]).get? b = some o) : b ≠ a := by
  rintro rfl
  rw [hide1_none] at e; cases e

/-- a def without cells is called, the object at q its one to change -/
theorem enterM {prog : Program} {w : World} {A₀ A : Around} {s : Shared} {base h₀ : Heap} {L q : Addr} {oq : Obj} {m : Str → Option Value} {K : Frag} {p : Program} {loose : List Str} {mean : ExcName → Option Value} {mg mb : Str → Option Value}
    {env : Env} {outer : List Env} {R : Result → Shared → Prop} {name qual : Str} {params : Arguments} {body : List Stmt} {scope : Scope} {dV kV doc pm cdv ct oc : Value} {an od : Option Addr} {osl : Array (Option Value)} {f : Addr} {args : Args} {binds : List (Str × Value)}
    (B : Below A₀ base outer h₀) (F : Fr h₀ L s.heap m) (X₀ : K.In h₀) (T : Top p loose mean mg mb h₀) (N : News h₀ L s.heap [(q, oq)]) (hA : A.frames = some (env :: outer)) (hf : env.frame = some L) (hke : env.scope.kind = .function)
    (ho : K.lookup f = some ⟨oc, od, .func (fnOf name qual params body scope dV kV doc pm an cdv ct), osl⟩) (hcd : codeIn K cdv qual = true) (hroom : A.depth < recursionLimit)
    (hbind : ∀ S, peek K S (bindArgs (fnOf name qual params body scope dV kV doc pm an cdv ct) args) = some binds) (hloc : ∀ y ∈ binds, scope.names.lookup y.1 = some .local)
    (h : ∀ L' h₁, Fr (hideAll s.heap [q]) L' h₁ (fun y => binds.reverse.lookup y) → News (hideAll s.heap [q]) L' h₁ [(q, oq)] → Below A base (env :: outer) (hideAll s.heap [q]) → K.In (hideAll s.heap [q]) → Top p loose mean mg mb (hideAll s.heap [q]) → q < L' →
      wpAny (model prog w) (A.deeper (envOf qual scope L' f cdv)) (execs body (envOf qual scope L' f cdv))
        (fun fl s' => R (.ok (.ret (match fl with | .ret v => v | _ => .none))) s')
        (fun e s' => wpAny (model prog w) (A.deeper (envOf qual scope L' f cdv)) (leaving (envOf qual scope L' f cdv) e) (fun _ s'' => R (.error e) s'') (fun e' s'' => R (.error e') s'') s')
        { s with heap := h₁, toks := s.toks + binds.length })
    (hco : scope.isCoroutine = false) (hgen : scope.isGenerator = false) (hk : scope.kind = .function)
    (hcell : ∀ x ∈ scope.names, x.2 ≠ .cell) : codeAny (model prog w) A (.call (.ref f) args) R s := by
  obtain ⟨_, BG, st, _⟩ := groundX (R := R) B F N hA hf hke
  refine codeAny_call_def (fd := fnX name qual params body scope [] dV kV doc pm an cdv ct) (body := body) (binds := binds) hroom ((X₀.keeps F.keep) _ _ ho) rfl (T.nolimit.keeps F.keep) (codeRec_of (X₀.keeps F.keep) hcd) rfl (kp_binds (X₀.keeps F.keep) hbind) hcell hloc (fun h₁ hns hk₁ => ?_) hco hgen hk
  have hq := (N _ (.head _)).1
  exact h s.heap.objs.size h₁ ⟨hns, fun b o e => hk₁ b o (hide1_of e), Nat.le_of_eq (hideAll_size [q] _)⟩ (fun p hp => by
    rw [List.mem_singleton.mp hp]
    exact ⟨hk₁ _ _ hq, Nat.ne_of_lt (Heap.lt_size hq), hide1_none⟩) BG (X₀.keeps st) (T.keeps st) (Heap.lt_size hq)

theorem enterMC {prog : Program} {w : World} {A₀ A : Around} {s : Shared} {base h₀ : Heap} {L q : Addr} {oq : Obj} {m : Str → Option Value} {K : Frag} {p : Program} {loose : List Str} {mean : ExcName → Option Value} {mg mb : Str → Option Value}
    {env : Env} {outer : List Env} {R : Result → Shared → Prop} {name qual : Str} {params : Arguments} {body : List Stmt} {scope : Scope} {dV kV doc pm cdv ct oc : Value} {an od : Option Addr} {osl : Array (Option Value)} {f : Addr} {args : Args} {binds : List (Str × Value)}
    (B : Below A₀ base outer h₀) (F : Fr h₀ L s.heap m) (X₀ : K.In h₀) (T : Top p loose mean mg mb h₀) (N : News h₀ L s.heap [(q, oq)]) (hA : A.frames = some (env :: outer)) (hf : env.frame = some L) (hke : env.scope.kind = .function)
    (ho : K.lookup f = some ⟨oc, od, .func (fnOf name qual params body scope dV kV doc pm an cdv ct), osl⟩) (hcd : codeIn K cdv qual = true) (hroom : A.depth < recursionLimit)
    (hbind : ∀ S, peek K S (bindArgs (fnOf name qual params body scope dV kV doc pm an cdv ct) args) = some binds) (hkind : (binds.all fun y => scope.names.lookup y.1 == some .local || scope.names.lookup y.1 == some .cell) = true)
    (hnd : ((cellsFrom 0 scope.names []).map (·.1)).Nodup)
    (h : ∀ L' h₁ tk cells, Fr (hideAll s.heap [q]) L' h₁ (bindL (envOfC qual scope L' f cdv).kindOf binds fun _ => none) → News (hideAll s.heap [q]) L' h₁ (cells ++ [(q, oq)]) →
      CellsAre (bindC (envOfC qual scope L' f cdv).kindOf binds fun _ => none) (cellsFrom (L' + 1) scope.names []) cells → Below A base (env :: outer) (hideAll s.heap [q]) → K.In (hideAll s.heap [q]) → Top p loose mean mg mb (hideAll s.heap [q]) → q < L' →
      wpAny (model prog w) (A.deeper (envOfC qual scope L' f cdv)) (execs body (envOfC qual scope L' f cdv))
        (fun fl s' => R (.ok (.ret (match fl with | .ret v => v | _ => .none))) s')
        (fun e s' => wpAny (model prog w) (A.deeper (envOfC qual scope L' f cdv)) (leaving (envOfC qual scope L' f cdv) e) (fun _ s'' => R (.error e) s'') (fun e' s'' => R (.error e') s'') s')
        { s with heap := h₁, toks := tk })
    (hco : scope.isCoroutine = false) (hgen : scope.isGenerator = false) (hk : scope.kind = .function) : codeAny (model prog w) A (.call (.ref f) args) R s := by
  obtain ⟨_, BG, st, _⟩ := groundX (R := R) B F N hA hf hke
  have hq := (N _ (.head _)).1
  refine codeAny_call_function hroom ((X₀.keeps F.keep) _ _ ho) (show (Obj.mk oc od (.func (fnX name qual params body scope [] dV kV doc pm an cdv ct)) osl).data = _ from rfl) hco hgen rfl (codeRec_of (X₀.keeps F.keep) hcd) (kp_binds (X₀.keeps F.keep) hbind _ _ _ _ ?_)
  refine wpAny_newFunctionEnv_cells hk (kindsX hkind _) fun env' he s' x => ?_
  subst he
  refine ⟨(T.nolimit.keeps F.keep).keeps x.toInCall.keep, codeAny_func ?_⟩
  obtain ⟨h₁, tk, rfl, _⟩ := x.done
  have hk₁ := x.toInCall.keep
  obtain ⟨cells, NC, Y⟩ := Cl.news (h₀ := s.heap) (Nat.le_refl _) fun n c hm => ⟨x.cell n c (lookup_of_mem_nodup (cellsFrom_names scope.names 0 (s.heap.objs.size + 1) [] [] rfl ▸ hnd) hm), x.above n c hm⟩
  refine h s.heap.objs.size h₁ tk cells ⟨x.toInCall.ns, fun b o e => hk₁ b o (hide1_of e), Nat.le_of_eq (hideAll_size [q] _)⟩ (fun p hp => ?_) Y BG (X₀.keeps st) (T.keeps st) (Heap.lt_size hq)
  rcases List.mem_append.mp hp with hp | hp
  · refine ⟨(NC p hp).1, (NC p hp).2.1, ?_⟩
    cases e : (hideAll s.heap [q]).get? p.1 with
    | none => rfl
    | some o => have := hide1_of e; rw [(NC p hp).2.2] at this; cases this
  · rw [List.mem_singleton.mp hp]
    exact ⟨hk₁ _ _ hq, Nat.ne_of_lt (Heap.lt_size hq), hide1_none⟩

/-- where a call of the text's stands that may change the object at q -/
inductive CxMI (w : World) (A : Around) (h : Heap) (q : Addr) : Prop
  | mk (dp un gd : _) (cn : _) (cs : _) (L a : _) (ccd : _) (cl : _) (outer : _) (A₀ : _) (base : _) (h₀ : _) (m : _) (mean : _) (mg : _) (mb : _) (z1 : A = ktrTop dp un gd cn cs L a ccd cl outer) (z2 : Below A₀ base outer h₀) (z3 : Fr h₀ L h m)
    (z4 : (Mine.hd.heap_39 w.params).In h₀) (z5 : Top Mine.hd.view_39 lo mean mg mb h₀) (z6 : cs.kind = .function) (z7 : h₀.get? q = none) (z8 : q ≠ L) : CxMI w A h q
structure CxM (w : World) (A : Around) (h : Heap) (q : Addr) : Prop where
  is : CxMI w A h q
theorem CxM.of {w : World} {dp un : Nat} {gd : Option (List Code)} {cn : Str} {cs : Scope} {L a q : Addr} {ccd : Value} {cl : List (Str × Addr)} {outer : List Env} {A₀ : Around} {base h₀ h : Heap} {m : Str → Option Value} {mean : ExcName → Option Value} {mg mb : Str → Option Value}
    (B : Below A₀ base outer h₀) (F : Fr h₀ L h m) (X : (Mine.hd.heap_39 w.params).In h₀) (T : Top Mine.hd.view_39 lo mean mg mb h₀) (hk : cs.kind = .function) (hq : h₀.get? q = none) (hL : q ≠ L) : CxM w (ktrTop dp un gd cn cs L a ccd cl outer) h q := ⟨dp, un, gd, cn, cs, L, a, ccd, cl, outer, A₀, base, h₀, m, mean, mg, mb, rfl, B, F, X, T, hk, hq, hL⟩
theorem CxM.cx {w : World} {A : Around} {h : Heap} {q : Addr} (c : CxM w A h q) : Cx w A h := by
  obtain ⟨dp, un, gd, cn, cs, L, a, ccd, cl, outer, A₀, base, h₀, m, mean, mg, mb, e, B, F, X, T, hk, _, _⟩ := c.is
  exact ⟨dp, un, gd, cn, cs, L, a, ccd, cl, outer, A₀, base, h₀, m, mean, mg, mb, e, B, F, X, T, hk⟩
theorem CxM.keeps {w : World} {A : Around} {h h' : Heap} {q : Addr} (c : CxM w A h q) (k : ∀ b o, b ≠ q → h.get? b = some o → h'.get? b = some o) : CxM w A h' q := by
  obtain ⟨dp, un, gd, cn, cs, L, a, ccd, cl, outer, A₀, base, h₀, m, mean, mg, mb, e, B, F, X, T, hk, hq, hL⟩ := c.is
  have F' : Fr h₀ L h' m := ⟨F.ns.at' fun o e => k _ o hL.symm e, fun b o e => k b o (by rintro rfl; rw [hq] at e; cases e) (F.keep b o e), F.above⟩
  exact ⟨dp, un, gd, cn, cs, L, a, ccd, cl, outer, A₀, base, h₀, m, mean, mg, mb, e, B, F', X, T, hk, hq, hL⟩

/-- a value, the object at q changed to one that R tells, all else as it stood -/
inductive Fin2 (q : Addr) (R : Value → Obj → Heap → Prop) (s : Shared) (v : Value) (s' : Shared) : Prop
  | mk0 (h' : Heap) (tk : Nat) (o' : Obj) (z1 : s' = { s with heap := h', toks := tk }) (z2 : h'.get? q = some o') (z3 : R v o' h') (z4 : ∀ b o, b ≠ q → s.heap.get? b = some o → h'.get? b = some o) : Fin2 q R s v s'
theorem Fin2.mk {q : Addr} {R : Value → Obj → Heap → Prop} {s : Shared} {v : Value} {h : Heap} {tk : Nat} {L : Addr} {m : Str → Option Value} {o' : Obj} {news : List (Addr × Obj)} (F : Fr (hideAll s.heap [q]) L h m) (N : News (hideAll s.heap [q]) L h news) (hq : (q, o') ∈ news)
    (r : R v o' h) : Fin2 q R s v { s with heap := h, toks := tk } := ⟨h, tk, o', rfl, (N _ hq).1, r, fun b o n e => F.keep b o (hide1_get e n)⟩
theorem Fin2.use {M : Model} {A : Around} {t : Sem Value} {q : Addr} {R : Value → Obj → Heap → Prop} {Q : Value → Shared → Prop} {E E' : Value → Shared → Prop} {s : Shared} {h₀ : Heap} {L : Addr} {m : Str → Option Value} {news : List (Addr × Obj)} {oq : Obj} {g : Obj → List (Addr × Obj)}
    (P : wpAny M A t (Fin2 q R s) E' s) (F : Fr h₀ L s.heap m) (N : News h₀ L s.heap news) (U : UpdF q oq news g)
    (hE : ∀ e s', E' e s' → E e s')
    (ret : ∀ v o' h' tk', R v o' h' → Fr h₀ L h' m → News h₀ L h' (g o') → (∀ b o, b ≠ q → s.heap.get? b = some o → h'.get? b = some o) → Q v { s with heap := h', toks := tk' }) : wpAny M A t Q E s :=
  wpAny_mono P (fun v s' h => by
    obtain ⟨h', tk', o', rfl, hq, hR, hk⟩ := h
    obtain ⟨own, rest, rfl, hg, h1, h2⟩ := U.split
    have hmem := N (q, oq) (List.mem_append_right _ (.head _))
    have F' : Fr h₀ L h' m := ⟨F.ns.at' fun o e => hk _ o (Ne.symm hmem.2.1) e, fun b o e => hk b o (by rintro rfl; rw [hmem.2.2] at e; cases e) (F.keep b o e), F.above⟩
    refine ret v o' h' tk' hR F' (hg o' ▸ fun p hp => ?_) hk
    rcases List.mem_append.mp hp with hp | hp
    · have P := N p (List.mem_append_left _ hp)
      exact ⟨hk _ _ (h1 p hp) P.1, P.2⟩
    · rcases List.mem_cons.mp hp with rfl | hp
      · exact ⟨hq, hmem.2⟩
      · have P := N p (List.mem_append_right _ (.tail _ hp))
        exact ⟨hk _ _ (h2 p hp) P.1, P.2⟩) hE
theorem fr_none {h₀ hO : Heap} {L D : Addr} {m : Str → Option Value} (F : Fr h₀ L hO m) (hD : hO.get? D = none) : h₀.get? D = none := by
  cases q : h₀.get? D with
  | none => rfl
  | some o => rw [F.keep _ _ q] at hD; cases hD
theorem News.addNew {h₀ hO h' : Heap} {L D : Addr} {m : Str → Option Value} {o : Obj} {news : List (Addr × Obj)} (F : Fr h₀ L hO m) (hD : hO.get? D = none) (ho : h'.get? D = some o) (N : News h₀ L h' news) : News h₀ L h' ((D, o) :: news) := fun p hp => by
  rcases List.mem_cons.mp hp with rfl | hp
  · refine ⟨ho, ?_, fr_none F hD⟩
    rintro rfl
    obtain ⟨oL, _, _, hL, _⟩ := F.ns
    rw [hL] at hD; cases hD
  · exact N p hp
theorem ne_new {h : Heap} {a D : Addr} {o : Obj} (e : h.get? a = some o) (hD : h.get? D = none) : @Ne Nat a D := by
  rintro rfl
  rw [e] at hD; cases hD
end Mine
end

section
open PySem PySem.W PySem.Calls PyProof.Rows PySem.Spec Mine
set_option maxRecDepth 100000
set_option maxHeartbeats 8000000
namespace Mine
section
variable {prog : Program} {w : World} {A : Around} {E : Value → Shared → Prop} {s : Shared}
/-- xs[:] = ys, ys another list -/
theorem setItem_all {l sl D : Addr} {items ys : Array Value} {n : Nat} {Q : Unit → Shared → Prop} (hl : s.heap.get? l = some (listOf items n))
    (hs : s.heap.IsSliceOf sl .none .none .none) (hD : s.heap.IsList D ys) (hne : l ≠ D) (hsz : items.size + ys.size ≤ 2000)
    (h : ∀ h' n', h'.get? l = some (listOf ys n') → Heap.SameBut l s.heap h' → Q () { s with heap := h' }) : wpAny (model prog w) A (setItem (.ref l) (.ref sl) (.ref D)) Q E s := by
  have hlI : s.heap.IsList l items := ⟨_, hl, rfl, _, rfl⟩
  obtain ⟨os, hos, hcs, hds⟩ := id hs
  obtain ⟨oD, hoD, hcD, nD, hdD⟩ := id hD
  have hTs : s.TypeIs (.ref sl) "slice" := ⟨os, hos, hcs⟩
  unfold setItem
  try with_reducible refine wpAny_holding ?_
  first | refine wpAny_bind (wpAny_pure ?_) | skip
  refine wpAny_bind (wpAny_sequenceKey hlI.typeIs (by decide) ?_)
  refine wpAny_bind (wpAny_callSpecial?_slot (name := Str.ofString "__setitem__") hlI.typeIs slot_list_setitem
    (wpAny_call_entry slot_list_setitem hlI.typeIs entry_list_setitem ?_ (args_list_setitem _ _ _)))
  show wpAny _ _ (Builtin.List.listSubscript? (.ref sl) >>= _) _ _ s
  refine wpAny_bind ?_
  unfold Builtin.List.listSubscript?
  refine wpAny_bind (wpAny_specialOf hTs slice_no_index ?_)
  simp only [Option.isNone_none, if_true]
  refine wpAny_pure ?_
  show wpAny _ _ (typeOf (.ref sl) >>= _) _ _ s
  refine wpAny_bind (wpAny_typeOf hTs ?_)
  rw [if_neg (by decide)]
  rw [listSliceParts_eq]
  refine wpAny_bind (wpAny_bind (wpAny_field hos hds (x := .none) rfl (wpAny_bind (wpAny_listPart .none ?_))))
  rw [if_neg (show ¬ ((rawPart none == rawInt 0) = true) from Bool.false_ne_true)]
  refine wpAny_bind (wpAny_field hos hds (x := .none) rfl (wpAny_bind (wpAny_listPart .none ?_)))
  refine wpAny_bind (wpAny_field hos hds (x := .none) rfl (wpAny_bind (wpAny_listPart .none (wpAny_pure ?_))))
  have hsame : Builtin.List.listSameRef (.ref l) (.ref D) = false := by
    show (l == D) = false
    simpa using hne
  dsimp only
  rw [hsame]
  simp only [Bool.false_eq_true, if_false]
  refine wpAny_bind (m := Builtin.List.listAllItems (.ref D) _) ?_
  unfold Builtin.List.listAllItems
  refine wpAny_bind (wpAny_typeOf hD.typeIs ?_)
  rw [if_pos (by decide)]
  unfold Builtin.List.listItems
  refine wpAny_bind (wpAny_seqItems hoD hdD (wpAny_pure ?_))
  refine wpAny_bind (wpAny_bind (wpAny_seqItems hl rfl (wpAny_pure ?_)))
  refine wpAny_bind (wpAny_of_eq (sliceIndices_raw none none none items.size (by simp)) ?_)
  have hb1 : (sliceBounds none none none items.size).1 = 0 := by simp [sliceBounds]
  have hb2 : (sliceBounds none none none items.size).2.1 = (items.size : Int) := by simp [sliceBounds]
  have hb3 : (sliceBounds none none none items.size).2.2 = 1 := by simp [sliceBounds]
  rw [hb1, hb2, hb3]
  rw [if_pos (by decide)]
  refine wpAny_bind (wpAny_rule ?_)
  rw [if_neg (by simp [Builtin.List.listTooLong, sizeLine]; omega)]
  have he : (fun xs : Array Value => xs.extract 0 (Int.toNat 0) ++ ys ++ xs.extract (max 0 (items.size : Int)).toNat) = fun xs => xs.extract 0 0 ++ ys ++ xs.extract items.size := by
    funext xs
    have : (max 0 (items.size : Int)).toNat = items.size := by omega
    rw [this]; rfl
  refine wpAny_bind ?_
  show wpAny _ _ (updateSeq l _) _ _ _
  rw [he]
  refine wpAny_updateSeq hl rfl ?_ (by rw [sizeLine_eq]; omega) (by rw [sizeLine_eq]; simp; omega)
  refine wpAny_bind (wpAny_letGo ?_)
  have hfin : ∃ n', (s.heap.update l (Obj.mapSeq fun xs => xs.extract 0 0 ++ ys ++ xs.extract items.size)).get? l = some (listOf ys n') := by
    have e1 := Heap.get?_update_self (Obj.mapSeq fun xs => xs.extract 0 0 ++ ys ++ xs.extract items.size) hl rfl
    have e2 : items.extract 0 0 ++ ys ++ items.extract items.size = ys := by simp
    have e3 : Obj.mapSeq (fun xs => xs.extract 0 0 ++ ys ++ xs.extract items.size) (listOf items n) = listOf ys (if ys.size == items.size then n else n + 1) := by
      show Obj.mk _ _ (.seq (items.extract 0 0 ++ ys ++ items.extract items.size) (if (items.extract 0 0 ++ ys ++ items.extract items.size).size == items.size then n else n + 1)) _ = _
      rw [e2]
    rw [e3] at e1
    exact ⟨_, e1⟩
  obtain ⟨n', hn'⟩ := hfin
  exact wpAny_pure ⟨.none, rfl, wpAny_pure (h _ n' hn' (Heap.SameBut.update ..))⟩
end
end Mine
end

section
open PySem PySem.W PySem.Calls PyProof.Rows PyProof.V Mine
set_option maxRecDepth 100000
set_option maxHeartbeats 8000000
namespace Mine
theorem wp_of_peekB {α : Type} {K : Frag} {M : Model} {A : Around} {E : Value → Shared → Prop} {Q : α → Shared → Prop} {s : Shared} {o : Obj} (X : K.In s.heap) :
    ∀ (t : Sem α) (g : Addr → Sem α), peekA K ⟨M.prog, M.w.params⟩ t = some (o, g) → wpAny M A (g s.heap.objs.size) Q E { s with heap := s.heap.push o } → wpAny M A t Q E s := by
  intro t
  induction t with
  | rule _ k ih => intro g e q Γ p hΓ; exact ih () g e q Γ p hΓ
  | point _ k ih => intro g e q Γ p hΓ; exact ih () g e q Γ p hΓ
  | ask k ih => intro g e q Γ p hΓ; exact ih _ g e q Γ p hΓ
  | load a _ k ih =>
    intro g e q Γ p hΓ
    simp only [peekA] at e
    split at e
    · rename_i ob ho; exact ⟨ob, X _ _ ho, ih ob g e q Γ p hΓ⟩
    · cases e
  | alloc ob k _ =>
    intro g e q
    have e : some (ob, k) = some (o, g) := e
    obtain ⟨e1, e2⟩ := Prod.mk.inj (Option.some.inj e)
    subst e1
    subst e2
    show wpAny M A (alloc ob >>= k) Q E s
    exact wpAny_bind (wpAny_alloc q)
  | _ => intro g e; cases e

/-- a def without cells and with ** is called, nothing given to the **, the object at q its one to change -/
theorem enterMD {prog : Program} {w : World} {A₀ A : Around} {s : Shared} {base h₀ : Heap} {L q : Addr} {oq : Obj} {m : Str → Option Value} {K : Frag} {p : Program} {loose : List Str} {mean : ExcName → Option Value} {mg mb : Str → Option Value}
    {env : Env} {outer : List Env} {R : Result → Shared → Prop} {name qual : Str} {params : Arguments} {body : List Stmt} {scope : Scope} {dV kV doc pm cdv ct oc : Value} {an od : Option Addr} {osl : Array (Option Value)} {f : Addr} {args : Args} {nm : Str} {front : List (Str × Value)} {g₁ : Addr → Sem (List (Str × Value))}
    (B : Below A₀ base outer h₀) (F : Fr h₀ L s.heap m) (X₀ : K.In h₀) (T : Top p loose mean mg mb h₀) (N : News h₀ L s.heap [(q, oq)]) (hA : A.frames = some (env :: outer)) (hf : env.frame = some L) (hke : env.scope.kind = .function)
    (ho : K.lookup f = some ⟨oc, od, .func (fnOf name qual params body scope dV kV doc pm an cdv ct), osl⟩) (hcd : codeIn K cdv qual = true) (hroom : A.depth < recursionLimit)
    (hp : peekA K ⟨prog, w.params⟩ (bindArgs (fnOf name qual params body scope dV kV doc pm an cdv ct) args) = some (dictOf [] 0, g₁))
    (hk₁ : ∀ D, g₁ D = (forIn ([] : List (Str × Value)) PUnit.unit (fun x _ => (nsSet D x.1 x.2 >>= fun _ => pure (ForInStep.yield PUnit.unit))) >>= fun _ => pure (front ++ [(nm, Value.ref D)])))
    (hloc : ∀ D, ∀ y ∈ front ++ [(nm, Value.ref D)], scope.names.lookup y.1 = some .local)
    (h : ∀ D L' h₁, Fr (hideAll s.heap [q]) L' h₁ (fun y => (front ++ [(nm, Value.ref D)]).reverse.lookup y) → News (hideAll s.heap [q]) L' h₁ [(D, dictOf [] 0), (q, oq)] → Below A base (env :: outer) (hideAll s.heap [q]) → K.In (hideAll s.heap [q]) → Top p loose mean mg mb (hideAll s.heap [q]) → (@LT.lt Nat _ q D ∧ @LT.lt Nat _ D L') →
      (D == sysModules) = false → (dictOf [] 0).IsDictOf (strKind prog w) ([] : List (Str × Value)) → FlatPairs PyData.str ([] : List (Str × Value)) [] →
      wpAny (model prog w) (A.deeper (envOf qual scope L' f cdv)) (execs body (envOf qual scope L' f cdv))
        (fun fl s' => R (.ok (.ret (match fl with | .ret v => v | _ => .none))) s')
        (fun e s' => wpAny (model prog w) (A.deeper (envOf qual scope L' f cdv)) (leaving (envOf qual scope L' f cdv) e) (fun _ s'' => R (.error e) s'') (fun e' s'' => R (.error e') s'') s')
        { s with heap := h₁, toks := s.toks + (front ++ [(nm, Value.ref D)]).length })
    (hco : scope.isCoroutine = false) (hgen : scope.isGenerator = false) (hk : scope.kind = .function)
    (hcell : ∀ x ∈ scope.names, x.2 ≠ .cell) : codeAny (model prog w) A (.call (.ref f) args) R s := by
  obtain ⟨_, BG, st, _⟩ := groundX (R := R) B F N hA hf hke
  have hq := (N _ (.head _)).1
  refine codeAny_call_function (fd := fnOf name qual params body scope dV kV doc pm an cdv ct) (body := body) hroom ((X₀.keeps F.keep) _ _ ho) rfl hco hgen rfl (codeRec_of (X₀.keeps F.keep) hcd) ?_
  refine wp_of_peekB (o := dictOf [] 0) (X₀.keeps F.keep) _ g₁ hp ?_
  rw [hk₁, List.forIn_nil]
  refine wpAny_bind (wpAny_pure (wpAny_pure ?_))
  have hkp : ∀ b o, s.heap.get? b = some o → (s.heap.push (dictOf [] 0)).get? b = some o := fun b o e => Heap.get?_push_of_some _ e
  have hD : (s.heap.push (dictOf [] 0)).get? s.heap.objs.size = some (dictOf [] 0) := Heap.get?_push_size _ rfl
  have hsz : (s.heap.push (dictOf [] 0)).objs.size = s.heap.objs.size + 1 := Heap.size_push ..
  have hq' := hkp _ _ hq
  refine wpAny_newFunctionEnv hcell (hloc _) (fun h₁ hns hsb => ⟨((T.nolimit).keeps fun b o e => hkp b o (F.keep b o e)).fresh _ hsb, codeAny_func ?_⟩) hk
  have hk₁ : ∀ b o, (s.heap.push (dictOf [] 0)).get? b = some o → h₁.get? b = some o := fun b o e => hsb.extBut b o (Nat.ne_of_lt (Heap.lt_size e)) (Heap.get?_push_of_some _ e)
  exact h s.heap.objs.size (s.heap.push (dictOf [] 0)).objs.size h₁ ⟨hns, fun b o e => hk₁ b o (hkp b o (hide1_of e)), by rw [hideAll_size, hsz]; exact Nat.le_succ _⟩ (fun p hp => by
    rcases List.mem_cons.mp hp with rfl | hp
    · exact ⟨hk₁ _ _ hD, Nat.ne_of_lt (Heap.lt_size hD), by
        cases e : (hideAll s.heap [q]).get? s.heap.objs.size with
        | none => rfl
        | some o => exact absurd (Heap.lt_size (hide1_of e)) (Nat.lt_irrefl _)⟩
    · rw [List.mem_singleton.mp hp]
      exact ⟨hk₁ _ _ hq', Nat.ne_of_lt (Heap.lt_size hq'), hide1_none⟩) BG (X₀.keeps st) (T.keeps st) ⟨Heap.lt_size hq, Heap.lt_size hD⟩ (F.notModules (modules_low T.nolimit)) (kp_isDict (ex := []) s.toks 0 List.nodup_nil) (by constructor)
end Mine
end

section
open PySem PySem.W PySem.Calls PyProof.Rows Mine
set_option maxRecDepth 100000
set_option maxHeartbeats 1000000
namespace Mine
section
variable {prog : Program} {w : World} {A : Around} {E : Value → Shared → Prop} {s : Shared} {env : Env} {K : Type} [DecidableEq K]

/-- a loop over the items of a dict, its state told by J of the heap -/
inductive ItAt (prog : Program) (w : World) (A : Around) (env : Env) (knd : KeyKind prog w K) (target : Expr) (body : List Stmt) (Q : Flow → Shared → Prop) (it : Value) (s₂ : Shared) : Prop
  | mk (I d : Addr) (kvs : List (K × Value)) (ep : Nat) (J : Nat → Heap → Prop)
    (z1 : it = .ref I)
    (z2 : d ≠ I)
    (z3 : IsItemIter s₂.heap I d 0 kvs.length ep .none .none)
    (z4 : s₂.heap.DictAt knd d kvs ep)
    (z5 : J 0 s₂.heap)
    (z6 : (∀ i k v key h h₁ tk T o, kvs[i]? = some (k, v) → knd.is k key = true → J i h → KeptBut [I] h h₁ → h₁.get? I = some o → h.get? T = none → h₁.IsTuple T #[key, v] → h₁.DictAt knd d kvs ep →
      wpAny (model prog w) A (assign target env (.ref T)) (fun _ s' => wpAny (model prog w) A (execs body env) (TurnTo Q (J (i + 1)) [I, d] h₁ s₂) (fun _ _ => False) s') (fun _ _ => False) { s₂ with heap := h₁, toks := tk }))
    (z7 : (∀ h h' tk, J kvs.length h → KeptBut [I] h h' → Q .next { s₂ with heap := h', toks := tk })) : ItAt prog w A env knd target body Q it s₂

inductive ItJ {prog : Program} {w : World} (knd : KeyKind prog w K) (s₂ : Shared) (I d : Addr) (kvs : List (K × Value)) (ep : Nat) (J : Nat → Heap → Prop) (k : Nat) (s' : Shared) : Prop
  | mk (h : Heap) (tk i : Nat) (ok ov : Value) (z1 : s' = { s₂ with heap := h, toks := tk }) (z2 : i ≤ kvs.length) (z3 : k = kvs.length + 1 - i) (z4 : IsItemIter h I d i kvs.length ep ok ov) (z5 : h.DictAt knd d kvs ep) (z6 : J i h) : ItJ knd s₂ I d kvs ep J k s'
theorem itemsW {knd : KeyKind prog w K} (hh : A.handled = none) {Q : Flow → Shared → Prop} {elts : List Expr} {x1} {tp : Pos} {iter : Expr} {body : List Stmt} {pos : Pos}
    (hs : ∀ x, foldedSetIterable iter env x = pure x)
    (h : wpAny (model prog w) A (eval iter env) (fun xv s₁ => wpAny (model prog w) A (pyIter xv) (ItAt prog w A env knd (.Tuple elts x1 tp) body Q) E s₁) E s) :
    wpAny (model prog w) A (exec (.For (.Tuple elts x1 tp) iter body [] pos) env) Q E s := by
  refine wpAny_For (wpAny_mono h (fun xv s₁ h₁ => wpAny_mono h₁ (fun it s₂ h₂ => ?_) fun _ _ e => e) fun _ _ e => e) hs
  obtain ⟨I, d, kvs, ep, J, rfl, hdI, hit, hd, h0, turn, done⟩ := h₂
  refine codeAny_forLoop_any (ItJ knd s₂ I d kvs ep J) ?_ (kvs.length + 1) ⟨s₂.heap, s₂.toks, 0, _, _, rfl, Nat.zero_le _, rfl, hit, hd, h0⟩
  rintro k s' ⟨h, tk, i, ok, ov, rfl, hi, rfl, hit', hd', hJ⟩
  cases hv : kvs[i]? with
  | none =>
    have hsz : i = kvs.length := Nat.le_antisymm hi (by simpa using hv)
    refine wpAny_pyNext_items_end hh hit' hd' hv fun h₁ he₁ => wpAny_execs_nil ?_
    exact done h h₁ tk (hsz ▸ hJ) fun b o hb e => he₁ b o (by simpa using hb) e
  | some kv =>
    obtain ⟨k, v⟩ := kv
    have hlt : i < kvs.length := (List.getElem?_eq_some_iff.mp hv).1
    refine wpAny_pyNext_items_item hit' hd' hv fun key h₁ hkey heo ht₁ hz₁ hk₁ => ?_
    refine wpAny_letOwnedTupleGo_items heo fun h₂ he₂ hs₂ => ?_
    have hk₂ : ∀ b o, b ≠ I → h.get? b = some o → h₂.get? b = some o := fun b o hb e => hs₂.extBut b o hb (hk₁ b o hb e)
    have hTI : h.objs.size ≠ I := Nat.ne_of_gt (Heap.lt_size hit')
    have hd₂ : h₂.DictAt knd d kvs ep := hd'.at fun o x => hk₂ d o hdI x
    refine wpAny_mono (turn i k v key h h₂ tk h.objs.size _ hv hkey hJ (fun b o hb e => hk₂ b o (by simpa using hb) e) he₂ (by
      cases e : h.get? h.objs.size with
      | none => rfl
      | some o => exact absurd (Heap.lt_size e) (Nat.lt_irrefl _)) ⟨_, hs₂.extBut _ _ hTI ht₁, rfl, _, rfl⟩ hd₂) (fun _ s' h' => wpAny_mono h' (fun fl s'' hf => ?_) fun _ _ e => e.elim) fun _ _ e => e.elim
    cases fl with
    | ret v => exact hf
    | brk => exact hf
    | next =>
      obtain ⟨h', tk', rfl, hJ', hk'⟩ := hf
      exact ⟨kvs.length + 1 - (i + 1), by omega, h', tk', i + 1, _, _, rfl, hlt, rfl, hk' I (by simp) _ he₂, hd₂.at fun o x => hk' d (by simp) o x, hJ'⟩
    | cont =>
      obtain ⟨h', tk', rfl, hJ', hk'⟩ := hf
      exact ⟨kvs.length + 1 - (i + 1), by omega, h', tk', i + 1, _, _, rfl, hlt, rfl, hk' I (by simp) _ he₂, hd₂.at fun o x => hk' d (by simp) o x, hJ'⟩
end
end Mine
end

section
namespace Mine
/-- a table from letters to numbers -/
def endsOf (hs : List (Nat × Nat)) (c : Nat) : List (Nat × Nat) := hs.filter fun q => lowc q.1 == lowc c
def end1 (hs : List (Nat × Nat)) (c : Nat) : Nat := ((endsOf hs c).getD 0 (0, 0)).2
def end2 (hs : List (Nat × Nat)) (c : Nat) : Nat := ((endsOf hs c).getD 1 (0, 0)).2
def twist (hs : List (Nat × Nat)) (c : Nat) : Bool := ((endsOf hs c).getD 0 (0, 0)).1 == ((endsOf hs c).getD 1 (0, 0)).1
def bR (x0 x1 x : Int) : Int := if x < x0 then 0 else if x < x1 then 1 else 2
def bL (x0 x1 x : Int) : Int := if x ≤ x0 then 0 else if x ≤ x1 then 1 else 2
def cellOf (hs : List (Nat × Nat)) (c o : Nat) : Int :=
  (if twist hs c then bR (end1 hs o) (end2 hs o) (end2 hs c) else bL (end1 hs o) (end2 hs o) (end2 hs c)) - bR (end1 hs o) (end2 hs o) (end1 hs c)
end Mine
namespace Mine
theorem find_map_ne {α β : Type} [DecidableEq α] {k0 k : α} {y : β} (hk : k ≠ k0) : ∀ kvs : List (α × β), ((kvs.map fun kv => if kv.1 = k0 then (kv.1, y) else kv).find? fun kv => kv.1 = k) = kvs.find? fun kv => kv.1 = k
  | [] => rfl
  | a :: r => by
    have ih := find_map_ne (y := y) hk r
    rw [List.map_cons]
    by_cases h : a.1 = k
    · have h0 : a.1 ≠ k0 := fun e => hk (h.symm.trans e)
      rw [if_neg h0, List.find?_cons_of_pos (by simpa using h), List.find?_cons_of_pos (by simpa using h)]
    · rw [List.find?_cons_of_neg (by split <;> simpa using h), List.find?_cons_of_neg (by simpa using h), ih]
theorem find_map_eq {α β : Type} [DecidableEq α] {k0 : α} {y : β} : ∀ kvs : List (α × β), kvs.any (fun kv => kv.1 = k0) = true → ((kvs.map fun kv => if kv.1 = k0 then (kv.1, y) else kv).find? fun kv => kv.1 = k0) = some (k0, y)
  | [], h => by simp at h
  | a :: r, h => by
    rw [List.map_cons]
    by_cases h0 : a.1 = k0
    · rw [if_pos h0, List.find?_cons_of_pos (by simpa using h0), h0]
    · rw [if_neg h0, List.find?_cons_of_neg (by simpa using h0)]
      exact find_map_eq r (by simpa [h0] using h)
theorem find_any_none {α β : Type} [DecidableEq α] {k0 : α} {kvs : List (α × β)} (h : ¬ kvs.any (fun kv => kv.1 = k0) = true) : (kvs.find? fun kv => kv.1 = k0) = none := by
  rw [List.find?_eq_none]
  intro x hx e
  exact h (List.any_eq_true.mpr ⟨x, hx, e⟩)
theorem find_put {α β : Type} [DecidableEq α] (kvs : List (α × β)) (k0 k : α) (y : β) :
    (((if kvs.any (fun kv => kv.1 = k0) then kvs.map (fun kv => if kv.1 = k0 then (kv.1, y) else kv) else kvs ++ [(k0, y)]).find? fun kv => kv.1 = k).map (·.2)) = if k = k0 then some y else (kvs.find? fun kv => kv.1 = k).map (·.2) := by
  by_cases hk : k = k0
  · subst hk
    rw [if_pos rfl]
    by_cases h : kvs.any (fun kv => kv.1 = k) = true
    · rw [if_pos h, find_map_eq kvs h]; rfl
    · rw [if_neg h, List.find?_append, find_any_none h]; simp
  · rw [if_neg hk]
    by_cases h : kvs.any (fun kv => kv.1 = k0) = true
    · rw [if_pos h, find_map_ne hk]
    · rw [if_neg h, List.find?_append]
      have : ((k0, y) :: []).find? (fun kv => kv.1 = k) = none := by simp; exact fun e => hk e.symm
      rw [this]; simp
end Mine
namespace Mine
def insAt {α : Type} (l : List α) (i : Nat) (a : α) : List α := l.take i ++ a :: l.drop i
/-- a ribbon's two signs come into the row -/
def wordStep (ns : List Int) (l : List Nat) (k : Nat) : List Nat :=
  insAt (insAt l ((ns.getD k 0).fmod (2 * k + 1)).toNat (97 + (k : Int) - 32 * (((ns.getD k 0).fdiv (2 * k + 1)).fdiv (2 * k + 2)).fmod 2).toNat)
    (((ns.getD k 0).fdiv (2 * k + 1)).fmod (2 * k + 2)).toNat (97 + (k : Int) - 32 * ((((ns.getD k 0).fdiv (2 * k + 1)).fdiv (2 * k + 2)).fdiv 2).fmod 2).toNat
def wordTo (ns : List Int) (i : Nat) : List Nat := (List.range i).foldl (wordStep ns) []
end Mine
end

section
open PySem PySem.W PySem.Calls PyProof.Rows PyProof.V PySem.Spec Mine
set_option maxRecDepth 100000
set_option maxHeartbeats 1000000
namespace Mine
/-- a table from letters to numbers -/
def setP (qs : List (Nat × Int)) (c : Nat) (x : Int) : List (Nat × Int) :=
  if qs.any (fun q => q.1 = c) then qs.map (fun q => if q.1 = c then (q.1, x) else q) else qs ++ [(c, x)]
def atP (qs : List (Nat × Int)) (c : Nat) : Option Int := (qs.find? fun q => q.1 = c).map (·.2)
def addP (qs : List (Nat × Int)) (q : Nat × Int) : List (Nat × Int) := setP qs q.1 ((atP qs q.1).getD 0 + q.2)
abbrev RowIs (kvs : List (Str × Value)) (qs : List (Nat × Int)) : Prop := Paired (fun (e : Str × Value) (q : Nat × Int) => e.1 = T1 q.1 ∧ ∃ t, e.2 = Value.int q.2 t) kvs qs
theorem RowIs.any : ∀ {kvs : List (Str × Value)} {qs : List (Nat × Int)} (c : Nat), RowIs kvs qs → kvs.any (fun kv => kv.1 = T1 c) = qs.any (fun q => q.1 = c)
  | _, _, _, .nil => rfl
  | _, _, c, .cons (b := q) ⟨e, _⟩ h => by
    rw [List.any_cons, List.any_cons, RowIs.any c h, e]
    congr 1
    rw [decide_eq_decide, T1_inj]
theorem RowIs.map {c : Nat} {x : Int} {t : Tok} : ∀ {kvs : List (Str × Value)} {qs : List (Nat × Int)}, RowIs kvs qs → RowIs (kvs.map (fun kv => if kv.1 = T1 c then (kv.1, Value.int x t) else kv)) (qs.map (fun q => if q.1 = c then (q.1, x) else q))
  | _, _, .nil => .nil
  | _, _, .cons (a := v) (b := q) ⟨e, hv⟩ h => by
    rw [List.map_cons, List.map_cons]
    refine .cons ?_ (RowIs.map h)
    by_cases hc : q.1 = c
    · rw [if_pos hc, if_pos (by rw [e, T1_inj]; exact hc)]
      exact ⟨e, t, rfl⟩
    · rw [if_neg hc, if_neg (by rw [e, T1_inj]; exact hc)]
      exact ⟨e, hv⟩
theorem RowIs.stored {kvs : List (Str × Value)} {qs : List (Nat × Int)} {c : Nat} {x : Int} {t : Tok} (h : RowIs kvs qs) : RowIs (stored kvs (T1 c) (.int x t)) (setP qs c x) := by
  unfold PySem.stored setP
  rw [RowIs.any c h]
  split
  · exact RowIs.map h
  · exact Paired.snoc h ⟨rfl, t, rfl⟩
theorem RowIs.at {c : Nat} : ∀ {kvs : List (Str × Value)} {qs : List (Nat × Int)}, RowIs kvs qs → (∀ x, atP qs c = some x → ∃ t, valueAt kvs (T1 c) = some (.int x t)) ∧ (atP qs c = none → valueAt kvs (T1 c) = none)
  | _, _, .nil => ⟨fun x h => (nomatch (show (none : Option Int) = some x from h)), fun _ => rfl⟩
  | _, _, .cons (a := v) (b := q) ⟨e, t, hv⟩ h => by
    have ih := RowIs.at (c := c) h
    unfold atP valueAt at ih ⊢
    by_cases hc : q.1 = c
    · rw [List.find?_cons_of_pos (by simpa using hc), List.find?_cons_of_pos (by rw [e]; simpa [T1_inj] using hc)]
      exact ⟨fun x hx => ⟨t, by rw [Option.map_some, Option.some.injEq] at hx ⊢; rw [hv, hx]⟩, fun hx => by cases hx⟩
    · rw [List.find?_cons_of_neg (by simpa using hc), List.find?_cons_of_neg (by rw [e]; simpa [T1_inj] using hc)]
      exact ih
section
variable {prog : Program} {w : World} {A : Around} {E : Value → Shared → Prop} {s : Shared} {h₀ : Heap} {L d : Addr} {m : Str → Option Value} {news : List (Addr × Obj)} {g : Obj → List (Addr × Obj)} {o : Obj} {kvs : List (Str × Value)} {qs : List (Nat × Int)} {c : Nat}
theorem setS {t u : Tok} {x : Int} {Q : Unit → Shared → Prop} (F : Fr h₀ L s.heap m) (N : News h₀ L s.heap news) (hd : o.IsDictOf (strKind prog w) kvs) (U : UpdF d o news g) (hr : RowIs kvs qs) (hsz : qs.length ≤ 1000)
    (h : ∀ h' o' kvs', Fr h₀ L h' m → News h₀ L h' (g o') → o'.IsDictOf (strKind prog w) kvs' → RowIs kvs' (setP qs c x) → Q () { s with heap := h', toks := s.toks + 1 }) :
    wpAny (model prog w) A (setItem (.ref d) (.str (T1 c) t) (.int x u)) Q E s := by
  obtain ⟨pre, post, rfl, hg, a, b⟩ := U.split
  have hm := N (d, o) (List.mem_append_right _ (.head _))
  have e : (1000 : Nat) ≤ sizeLine := by decide
  have hl := Paired.length hr
  refine wpAny_setItem_pairs (hsz := by omega) (strKind_is prog w (T1 c) t) (Heap.dictOf_iff.mpr ⟨o, hm.1, hd⟩) fun h' hmm hs => ?_
  obtain ⟨o', ho', hd'⟩ := Heap.dictOf_iff.mp hmm
  exact h h' o' _ (F.change hs hm.2.1 hm.2.2) (hg o' ▸ N.setIn a b hs ho') hd' (RowIs.stored hr)
theorem inS {t : Tok} {Q : Value → Shared → Prop} (hds : (d == sysModules) = false) (N : News h₀ L s.heap news) (hd : o.IsDictOf (strKind prog w) kvs) (hm : (d, o) ∈ news) (hr : RowIs kvs qs)
    (h : Q (.bool (atP qs c).isSome) { s with toks := s.toks + 1 }) : wpAny (model prog w) A (compareOp .In (.str (T1 c) t) (.ref d)) Q E s := by
  have hdd : s.heap.DictOf (strKind prog w) d kvs := Heap.dictOf_iff.mpr ⟨o, (N _ hm).1, hd⟩
  refine wpAny_in_of (strKind_is prog w (T1 c) t) hds hdd.mapOf ?_
  have := RowIs.at (c := c) hr
  cases e : atP qs c with
  | none => rw [this.2 e]; rw [e] at h; exact h
  | some x =>
    obtain ⟨t', e'⟩ := this.1 x e
    rw [e']; rw [e] at h; exact h
theorem itemS {t : Tok} {value slice : Expr} {Q : Value → Shared → Prop} (N : News h₀ L s.heap news) (hd : o.IsDictOf (strKind prog w) kvs) (hm : (d, o) ∈ news) (hr : RowIs kvs qs) (hx : (atP qs c).isSome = true)
    (h : ∀ t', Q (.int ((atP qs c).getD 0) t') { s with toks := s.toks + 1 })
    (hs : subscripted slice false (.ref d) (.str (T1 c) t) = operate [.ref d, .str (T1 c) t] (getItem (.ref d) (.str (T1 c) t)) := by with_unfolding_all rfl) : wpAny (model prog w) A (subscriptTail value slice (.ref d) (.str (T1 c) t)) Q E s := by
  have hdd : s.heap.DictOf (strKind prog w) d kvs := Heap.dictOf_iff.mpr ⟨o, (N _ hm).1, hd⟩
  obtain ⟨x, hx⟩ := Option.isSome_iff_exists.mp hx
  rw [hx] at h
  obtain ⟨t', e'⟩ := (RowIs.at (c := c) hr).1 x hx
  exact tail_any hdd.typeIs slot_dict_getitem.lookup (wpAny_getItem_of (strKind_is prog w (T1 c) t) hdd.mapOf e' (h t')) hs
theorem getS {t : Tok} {Q : Value → Shared → Prop} (N : News h₀ L s.heap news) (hd : o.IsDictOf (strKind prog w) kvs) (hm : (d, o) ∈ news) (hr : RowIs kvs qs) (hx : (atP qs c).isSome = true)
    (h : ∀ t', Q (.int ((atP qs c).getD 0) t') { s with toks := s.toks + 1 }) : wpAny (model prog w) A (getItem (.ref d) (.str (T1 c) t)) Q E s := by
  have hdd : s.heap.DictOf (strKind prog w) d kvs := Heap.dictOf_iff.mpr ⟨o, (N _ hm).1, hd⟩
  obtain ⟨x, hx⟩ := Option.isSome_iff_exists.mp hx
  rw [hx] at h
  obtain ⟨t', e'⟩ := (RowIs.at (c := c) hr).1 x hx
  exact wpAny_getItem_of (strKind_is prog w (T1 c) t) hdd.mapOf e' (h t')
end

theorem map2n {a b : Str} {m m0 : Str → Option Value} (h : ∀ y, y ≠ a → y ≠ b → m y = m0 y) : m = fun y => if y = a then m a else if y = b then m b else m0 y := by
  funext y
  by_cases h1 : y = a
  · rw [if_pos h1, h1]
  · rw [if_neg h1]
    by_cases h2 : y = b
    · rw [if_pos h2, h2]
    · rw [if_neg h2, h y h1 h2]
theorem addP_none {l : List (Nat × Int)} {c : Nat} {x : Int} (h : (atP l c).isSome = false) : addP l (c, x) = setP l c x := by
  unfold addP
  dsimp only
  cases e : atP l c with
  | none => simp
  | some y => rw [e] at h; cases h
theorem setP_len (l : List (Nat × Int)) (c : Nat) (x : Int) : (setP l c x).length ≤ l.length + 1 := by
  unfold setP; split <;> simp
theorem setF_len : ∀ (q l : List (Nat × Int)), (q.foldl (fun l q => setP l q.1 q.2) l).length ≤ l.length + q.length
  | [], _ => Nat.le_refl _
  | a :: r, l => by
    have := setF_len r (setP l a.1 a.2)
    have := setP_len l a.1 a.2
    simp only [List.foldl_cons, List.length_cons]; omega
theorem addF_len : ∀ (q l : List (Nat × Int)), (q.foldl addP l).length ≤ l.length + q.length
  | [], _ => Nat.le_refl _
  | a :: r, l => by
    have := addF_len r (addP l a)
    have := setP_len l a.1 ((atP l a.1).getD 0 + a.2)
    simp only [List.foldl_cons, List.length_cons]
    unfold addP at *; omega
theorem foldl_take {α β : Type} {f : β → α → β} {b : β} {l : List α} {i : Nat} {a : α} (h : l[i]? = some a) : (l.take (i + 1)).foldl f b = f ((l.take i).foldl f b) a := by
  rw [List.take_add_one, h, List.foldl_append]; rfl
/-- a dict from letters to numbers stands at an address -/
inductive RowAt (prog : Program) (w : World) (h : Heap) (d : Addr) (qs : List (Nat × Int)) : Prop
  | mk (z1 : (d == sysModules) = false) (ep : Nat) (kvs : List (Str × Value)) (z2 : h.DictAt (strKind prog w) d kvs ep) (z3 : RowIs kvs qs) : RowAt prog w h d qs
def cpR (one : List (Nat × Int)) : List (Nat × Int) := one.foldl (fun l q => setP l q.1 q.2) []
def rowTo (hs : List (Nat × Nat)) (c : Nat) (ls : List Nat) : List (Nat × Int) := ls.foldl (fun r o => setP r o (cellOf hs c o)) []
def stepS (hs : List (Nat × Nat)) (ls : List Nat) (S : List (List (Nat × Int))) (c : Nat) : List (List (Nat × Int)) := S ++ S.map fun one => (rowTo hs c ls).foldl addP (cpR one)
def sumsTo (hs : List (Nat × Nat)) (ls l : List Nat) : List (List (Nat × Int)) := l.foldl (stepS hs ls) [[]]
def evenRow (one : List (Nat × Int)) : Bool := one.all fun q => q.2 % 2 != 1
def evenCount (hs : List (Nat × Nat)) (ls : List Nat) : Nat := ((sumsTo hs ls ls).filter evenRow).length
theorem rowTo_len (hs : List (Nat × Nat)) (c : Nat) : ∀ (ls : List Nat) (r : List (Nat × Int)), (ls.foldl (fun r o => setP r o (cellOf hs c o)) r).length ≤ r.length + ls.length
  | [], _ => Nat.le_refl _
  | a :: l, r => by
    have := rowTo_len hs c l (setP r a (cellOf hs c a))
    have := setP_len r a (cellOf hs c a)
    simp only [List.foldl_cons, List.length_cons]; omega
theorem stepS_len (hs : List (Nat × Nat)) (ls : List Nat) (S : List (List (Nat × Int))) (c n : Nat) (h : ∀ one ∈ S, one.length ≤ n) : (stepS hs ls S c).length = 2 * S.length ∧ ∀ one ∈ stepS hs ls S c, one.length ≤ n + ls.length := by
  refine ⟨by unfold stepS; rw [List.length_append, List.length_map]; omega, fun one ho => ?_⟩
  unfold stepS at ho
  rcases List.mem_append.mp ho with h1 | h1
  · have := h one h1; omega
  · obtain ⟨o, h2, rfl⟩ := List.mem_map.mp h1
    have e1 := addF_len (rowTo hs c ls) (cpR o)
    have e2 := setF_len o []
    have e3 := rowTo_len hs c ls []
    have e4 := h o h2
    simp only [List.length_nil] at e2 e3
    unfold cpR rowTo at *
    omega
theorem sumsTo_len (hs : List (Nat × Nat)) (ls : List Nat) : ∀ (l : List Nat) (S : List (List (Nat × Int))) (n : Nat), (∀ one ∈ S, one.length ≤ n) → (l.foldl (stepS hs ls) S).length = 2 ^ l.length * S.length ∧ ∀ one ∈ l.foldl (stepS hs ls) S, one.length ≤ n + l.length * ls.length
  | [], S, n, h => ⟨by simp, fun one ho => by have := h one ho; omega⟩
  | a :: l, S, n, h => by
    have e := stepS_len hs ls S a n h
    have e2 := sumsTo_len hs ls l _ _ e.2
    rw [List.foldl_cons]
    refine ⟨by rw [e2.1, e.1, List.length_cons, Nat.pow_succ, Nat.mul_assoc], fun one ho => ?_⟩
    have := e2.2 one ho
    rw [List.length_cons, Nat.add_mul]
    omega
theorem valueAt_stored (kvs : List (Str × Value)) (k0 k : Str) (y : Value) : valueAt (stored kvs k0 y) k = if k = k0 then some y else valueAt kvs k := find_put kvs k0 k y
theorem atP_setP (qs : List (Nat × Int)) (c d : Nat) (x : Int) : atP (setP qs c x) d = if d = c then some x else atP qs d := find_put qs c d x
/-- what a comprehension's dict holds under a letter -/
theorem StoredAll.look {F : Value → Value → Prop} {vs : List Value} {kvs : List (Str × Value)} (h : StoredAll (fun v k => ∃ t, v = Value.str k t) F vs kvs) : ∀ (k : Str), (∃ v ∈ vs, ∃ t, v = Value.str k t) → ∃ y v, valueAt kvs k = some y ∧ (∃ t, v = Value.str k t) ∧ F v y := by
  induction h with
  | nil => rintro k ⟨v, hv, _⟩; cases hv
  | @snoc l kvs v k0 y _ hk hy ih =>
    obtain ⟨t0, e0⟩ := hk
    rintro k ⟨v', hv', t, e⟩
    by_cases hkk : k = k0
    · subst hkk
      exact ⟨y, v, by rw [valueAt_stored, if_pos rfl], ⟨t0, e0⟩, hy⟩
    · rcases List.mem_append.mp hv' with h1 | h1
      · obtain ⟨y', v2, a, b, c⟩ := ih k ⟨v', h1, t, e⟩
        exact ⟨y', v2, by rw [valueAt_stored, if_neg hkk]; exact a, b, c⟩
      · rw [List.mem_singleton.mp h1, e0] at e
        exact absurd (Value.str.inj e).1.symm hkk
theorem mapL {m m0 : Str → Option Value} (names : List Str) (h : ∀ y, y ∉ names → m y = m0 y) : m = fun y => names.foldr (fun a r => if y = a then m a else r) (m0 y) := by
  funext y
  induction names with
  | nil => exact h y (by simp)
  | cons a r ih =>
    simp only [List.foldr_cons]
    by_cases e : y = a
    · rw [if_pos e, e]
    · rw [if_neg e]
      by_cases hr : y ∈ r
      · clear ih h
        induction r with
        | nil => cases hr
        | cons b r ih =>
          simp only [List.foldr_cons]
          by_cases e2 : y = b
          · rw [if_pos e2, e2]
          · rw [if_neg e2]
            rcases List.mem_cons.mp hr with h | h
            · exact absurd h e2
            · exact ih h
      · have : ∀ r : List Str, y ∉ r → r.foldr (fun a r => if y = a then m a else r) (m0 y) = m0 y := by
          intro r hr
          induction r with
          | nil => rfl
          | cons b r ih =>
            simp only [List.foldr_cons]
            rw [if_neg (show ¬ y = b from fun e => hr (e ▸ List.mem_cons_self))]
            exact ih fun h => hr (.tail _ h)
        rw [this r hr]
        exact h y (by simp [e, hr])
/-- what the law asks, ribbon by ribbon -/
def Stays : List Nat → List (Nat × Nat) → Prop
  | [], hs => hs = []
  | c :: ls, hs => (∀ d ∈ c :: ls, ∃ q0 q1, endsOf hs d = [q0, q1] ∧ q0.2 < q1.2) ∧ (∀ h, h < (hs.map (·.1)).length → others (hs.map (·.1)) h ≠ []) ∧
      evenCount hs (c :: ls) = 2 ^ (rims (hs.map (·.1)) - 1) ∧ 1 ≤ rims (hs.map (·.1)) ∧ Stays ls (hs.filter fun q => lowc q.1 != lowc c)
/-- the headers so far -/
def hsTo (cs : List Nat) (i : Nat) : List (Nat × Nat) := (List.range i).map fun j => (cs.getD j 0, j)
theorem hsTo_succ (cs : List Nat) (i : Nat) : hsTo cs (i + 1) = hsTo cs i ++ [(cs.getD i 0, i)] := by
  unfold hsTo; rw [List.range_succ, List.map_append]; rfl
theorem hsTo_codes {cs : List Nat} (h : cs.length = 10) : (hsTo cs 10).map (·.1) = cs := by
  unfold hsTo
  rw [List.map_map]
  refine List.ext_getElem (by simp [h]) fun i h1 h2 => ?_
  simp [h2]
end Mine
end

section
namespace Mine.Pl
/-- the choices -/
def masks : Nat → List (List Bool)
  | 0 => [[]]
  | n + 1 => (masks n).map (· ++ [false]) ++ (masks n).map (· ++ [true])
theorem masks_length : ∀ n, (masks n).length = 2 ^ n
  | 0 => rfl
  | n + 1 => by
    show ((masks n).map _ ++ (masks n).map _).length = _
    rw [List.length_append, List.length_map, List.length_map, masks_length n, Nat.pow_succ]; omega
theorem masks_mem : ∀ {n : Nat} {v : List Bool}, v ∈ masks n → v.length = n
  | 0, v, h => by rw [List.mem_singleton.mp h]; rfl
  | n + 1, v, h => by
    rcases List.mem_append.mp h with h | h
    all_goals
      obtain ⟨u, hu, rfl⟩ := List.mem_map.mp h
      rw [List.length_append, masks_mem hu]; rfl
theorem mem_masks : ∀ {n : Nat} {v : List Bool}, v.length = n → v ∈ masks n
  | 0, v, h => by rw [List.length_eq_zero_iff.mp h]; exact .head _
  | n + 1, v, h => by
    have hne : v ≠ [] := by rintro rfl; simp at h
    have e := List.dropLast_concat_getLast hne
    have hl : v.dropLast.length = n := by rw [List.length_dropLast]; omega
    have ih := mem_masks hl
    rw [← e]
    cases v.getLast hne with
    | false => exact List.mem_append_left _ (List.mem_map.mpr ⟨_, ih, rfl⟩)
    | true => exact List.mem_append_right _ (List.mem_map.mpr ⟨_, ih, rfl⟩)
theorem nodup_map {α β : Type} {f : α → β} (hf : ∀ a b, f a = f b → a = b) : ∀ {l : List α}, l.Nodup → (l.map f).Nodup
  | [], _ => .nil
  | a :: l, h => by
    rw [List.nodup_cons] at h
    rw [List.map_cons, List.nodup_cons]
    refine ⟨fun hm => ?_, nodup_map hf h.2⟩
    obtain ⟨b, hb, e⟩ := List.mem_map.mp hm
    rw [hf _ _ e] at hb
    exact h.1 hb
theorem masks_nodup : ∀ n, (masks n).Nodup
  | 0 => by simp [masks]
  | n + 1 => by
    have ih := masks_nodup n
    refine List.nodup_append.mpr ⟨nodup_map (fun a b h => List.append_cancel_right h) ih, nodup_map (fun a b h => List.append_cancel_right h) ih, ?_⟩
    intro a ha b hb e
    obtain ⟨u, _, rfl⟩ := List.mem_map.mp ha
    obtain ⟨w, _, rfl⟩ := List.mem_map.mp hb
    have := congrArg List.reverse e
    simp at this

/-- a table over all letters -/
def tab (ls : List Nat) (u : Nat → Int) : List (Nat × Int) := ls.map fun o => (o, u o)
theorem tab_any {l : List Nat} {u : Nat → Int} {o : Nat} : (tab l u).any (fun q => q.1 = o) = decide (o ∈ l) := by
  unfold tab
  rw [Bool.eq_iff_iff, List.any_eq_true, decide_eq_true_iff]
  constructor
  · rintro ⟨q, hq, e⟩
    obtain ⟨p, hp, rfl⟩ := List.mem_map.mp hq
    simp at e; exact e ▸ hp
  · exact fun h => ⟨(o, u o), List.mem_map.mpr ⟨o, h, rfl⟩, by simp⟩
theorem setP_new {l : List Nat} {u : Nat → Int} {o : Nat} {x : Int} (h : o ∉ l) : setP (tab l u) o x = tab l u ++ [(o, x)] := by
  unfold setP
  rw [tab_any, if_neg (by simpa using h)]
theorem setP_old {l : List Nat} {u : Nat → Int} {o : Nat} {x : Int} (h : o ∈ l) : setP (tab l u) o x = tab l (fun o' => if o' = o then x else u o') := by
  unfold setP
  rw [tab_any, if_pos (by simpa using h)]
  unfold tab
  rw [List.map_map]
  refine List.map_congr_left fun a _ => ?_
  by_cases e : a = o <;> simp [e]
theorem atP_new {l : List Nat} {u : Nat → Int} {o : Nat} (h : o ∉ l) : atP (tab l u) o = none := by
  unfold atP
  rw [Option.map_eq_none_iff, List.find?_eq_none]
  intro q hq
  obtain ⟨p, hp, rfl⟩ := List.mem_map.mp hq
  simp; rintro rfl; exact h hp
theorem atP_old {l : List Nat} {u : Nat → Int} {o : Nat} (h : o ∈ l) : atP (tab l u) o = some (u o) := by
  induction l with
  | nil => cases h
  | cons a l ih =>
    unfold atP tab at ih ⊢
    rw [List.map_cons]
    by_cases e : a = o
    · rw [List.find?_cons_of_pos (by simpa using e)]; simp [e]
    · rw [List.find?_cons_of_neg (by simpa using e)]
      exact ih (by rcases List.mem_cons.mp h with h | h; exact absurd h.symm e; exact h)
theorem foldSet {g : Nat → Int} : ∀ (l2 l1 : List Nat), (l1 ++ l2).Nodup → l2.foldl (fun r o => setP r o (g o)) (tab l1 g) = tab (l1 ++ l2) g
  | [], l1, _ => by simp
  | o :: l2, l1, h => by
    have hn : o ∉ l1 := fun hm => by
      have := (List.nodup_append.mp h).2.2 o hm o (.head _); exact this rfl
    rw [List.foldl_cons, setP_new hn, show tab l1 g ++ [(o, g o)] = tab (l1 ++ [o]) g from by simp [tab], foldSet l2 (l1 ++ [o]) (by simpa using h)]
    simp
theorem rowTo_tab {hs : List (Nat × Nat)} {c : Nat} {ls : List Nat} (h : ls.Nodup) : rowTo hs c ls = tab ls (cellOf hs c) := by
  have := foldSet (g := cellOf hs c) ls [] (by simpa using h)
  unfold rowTo
  simpa [tab] using this
theorem cpR_tab {u : Nat → Int} {ls : List Nat} (h : ls.Nodup) : cpR (tab ls u) = tab ls u := by
  have := foldSet (g := u) ls [] (by simpa using h)
  unfold cpR
  rw [show tab ls u = ls.map (fun o => (o, u o)) from rfl, List.foldl_map]
  simpa [tab] using this
theorem add_nil {g : Nat → Int} : ∀ (l2 l1 : List Nat), (l1 ++ l2).Nodup → (tab l2 g).foldl addP (tab l1 g) = tab (l1 ++ l2) g
  | [], l1, _ => by simp [tab]
  | o :: l2, l1, h => by
    have hn : o ∉ l1 := fun hm => by
      have := (List.nodup_append.mp h).2.2 o hm o (.head _); exact this rfl
    rw [show tab (o :: l2) g = (o, g o) :: tab l2 g from rfl, List.foldl_cons]
    have e : addP (tab l1 g) (o, g o) = tab (l1 ++ [o]) g := by
      unfold addP
      dsimp only
      rw [atP_new hn, setP_new hn]; simp [tab]
    rw [e, add_nil l2 (l1 ++ [o]) (by simpa using h)]
    simp
theorem add_tab {g : Nat → Int} {ls : List Nat} : ∀ (l2 : List Nat) (u : Nat → Int), l2.Nodup → (∀ o ∈ l2, o ∈ ls) → (tab l2 g).foldl addP (tab ls u) = tab ls (fun o => if o ∈ l2 then u o + g o else u o)
  | [], u, _, _ => by simp [tab]
  | o :: l2, u, h, hs => by
    rw [List.nodup_cons] at h
    have ho := hs o (.head _)
    rw [show tab (o :: l2) g = (o, g o) :: tab l2 g from rfl, List.foldl_cons]
    have e : addP (tab ls u) (o, g o) = tab ls (fun o' => if o' = o then u o + g o else u o') := by
      unfold addP
      dsimp only
      rw [atP_old ho, setP_old ho]; rfl
    rw [e, add_tab l2 _ h.2 fun o' h' => hs o' (.tail _ h')]
    unfold tab
    refine List.map_congr_left fun a _ => ?_
    by_cases e1 : a = o
    · subst e1
      simp [h.1]
    · simp [e1]
/-- a table is empty or full -/
def Like (ls : List Nat) (one : List (Nat × Int)) (u : Nat → Int) : Prop := (one = [] ∧ u = fun _ => 0) ∨ one = tab ls u
def stepOne (hs : List (Nat × Nat)) (ls : List Nat) (one : List (Nat × Int)) (cb : Nat × Bool) : List (Nat × Int) := if cb.2 then (rowTo hs cb.1 ls).foldl addP (cpR one) else one
def stepU (hs : List (Nat × Nat)) (u : Nat → Int) (cb : Nat × Bool) : Nat → Int := fun o => if cb.2 then u o + cellOf hs cb.1 o else u o
theorem Like.step {hs : List (Nat × Nat)} {ls : List Nat} (hn : ls.Nodup) {one : List (Nat × Int)} {u : Nat → Int} (h : Like ls one u) (cb : Nat × Bool) : Like ls (stepOne hs ls one cb) (stepU hs u cb) := by
  obtain ⟨c, b⟩ := cb
  cases b with
  | false => exact h
  | true =>
    refine .inr ?_
    unfold stepOne stepU
    rw [rowTo_tab hn]
    rcases h with ⟨rfl, rfl⟩ | rfl
    · have := add_nil (g := cellOf hs c) ls [] (by simpa using hn)
      simp only [cpR, List.foldl_nil, if_true]
      simpa [tab] using this
    · rw [cpR_tab hn]
      simp only [if_true]
      rw [add_tab ls u hn fun _ h => h]
      unfold tab
      refine List.map_congr_left fun a ha => ?_
      simp [ha]
theorem Like.fold {hs : List (Nat × Nat)} {ls : List Nat} (hn : ls.Nodup) : ∀ (z : List (Nat × Bool)) {one : List (Nat × Int)} {u : Nat → Int}, Like ls one u → Like ls (z.foldl (stepOne hs ls) one) (z.foldl (stepU hs) u)
  | [], _, _, h => h
  | cb :: z, _, _, h => Like.fold hn z (h.step hn cb)
theorem Like.even {ls : List Nat} {one : List (Nat × Int)} {u : Nat → Int} (h : Like ls one u) : evenRow one = ls.all fun o => u o % 2 != 1 := by
  rcases h with ⟨rfl, rfl⟩ | rfl
  · simp [evenRow]
  · simp [evenRow, tab, List.all_map, Function.comp_def]
theorem fold_snoc (hs : List (Nat × Nat)) (ls : List Nat) : ∀ (n : Nat) (l : List Nat), l.length = n → l.foldl (stepS hs ls) [[]] = (masks n).map fun v => (l.zip v).foldl (stepOne hs ls) []
  | 0, l, h => by rw [List.length_eq_zero_iff.mp h]; rfl
  | n + 1, l, h => by
    have hne : l ≠ [] := by rintro rfl; simp at h
    have e := List.dropLast_concat_getLast hne
    have hl : l.dropLast.length = n := by rw [List.length_dropLast]; omega
    rw [← e, List.foldl_append, fold_snoc hs ls n _ hl]
    show stepS hs ls _ _ = List.map _ ((masks n).map _ ++ (masks n).map _)
    unfold stepS
    rw [List.map_append, List.map_map, List.map_map, List.map_map]
    congr 1
    · refine List.map_congr_left fun v hv => ?_
      have := masks_mem hv
      simp only [Function.comp_def]
      rw [List.zip_append (by omega), List.foldl_append]
      simp [stepOne]
    · refine List.map_congr_left fun v hv => ?_
      have := masks_mem hv
      simp only [Function.comp_def]
      rw [List.zip_append (by omega), List.foldl_append]
      simp [stepOne]
/-- the column sums of a choice -/
def colU (hs : List (Nat × Nat)) (ls : List Nat) (v : List Bool) : Nat → Int := (ls.zip v).foldl (stepU hs) fun _ => 0
def goodMask (hs : List (Nat × Nat)) (ls : List Nat) (v : List Bool) : Bool := ls.all fun o => colU hs ls v o % 2 != 1
theorem evenCount_masks {hs : List (Nat × Nat)} {ls : List Nat} (hn : ls.Nodup) : evenCount hs ls = ((masks ls.length).filter (goodMask hs ls)).length := by
  unfold evenCount sumsTo
  rw [fold_snoc hs ls ls.length ls rfl, List.filter_map, List.length_map]
  congr 1
  refine List.filter_congr fun v _ => ?_
  exact (Like.fold hn _ (.inl ⟨rfl, rfl⟩)).even
end Mine.Pl
end

section
namespace Mine.Pl
/-- each sign has one other end -/
def Two (cs : List Nat) : Prop := ∀ h, h < cs.length → ∃ k, others cs h = [k]
theorem partner_of {cs : List Nat} {h k : Nat} (e : others cs h = [k]) : partner cs h = k := by unfold partner; rw [e]; rfl
theorem mem_others {cs : List Nat} {h k : Nat} : k ∈ others cs h ↔ k < cs.length ∧ k ≠ h ∧ lowc (cs.getD k 0) = lowc (cs.getD h 0) := by
  unfold others
  simp
theorem partner_lt {cs : List Nat} (T : Two cs) {h : Nat} (hh : h < cs.length) : partner cs h < cs.length ∧ partner cs h ≠ h ∧ lowc (cs.getD (partner cs h) 0) = lowc (cs.getD h 0) := by
  obtain ⟨k, e⟩ := T h hh
  rw [partner_of e]
  exact mem_others.mp (by rw [e]; exact .head _)
theorem partner_partner {cs : List Nat} (T : Two cs) {h : Nat} (hh : h < cs.length) : partner cs (partner cs h) = h := by
  obtain ⟨a, b, c⟩ := partner_lt T hh
  obtain ⟨k, e⟩ := T _ a
  have : h ∈ others cs (partner cs h) := mem_others.mpr ⟨hh, b.symm, c.symm⟩
  rw [e] at this
  rw [partner_of e, List.mem_singleton.mp this]
theorem partner_only {cs : List Nat} (T : Two cs) {h k : Nat} (hh : h < cs.length) (hk : k < cs.length) (hne : k ≠ h) (hl : lowc (cs.getD k 0) = lowc (cs.getD h 0)) : partner cs h = k := by
  obtain ⟨j, e⟩ := T h hh
  have : k ∈ others cs h := mem_others.mpr ⟨hk, hne, hl⟩
  rw [e] at this
  rw [partner_of e, List.mem_singleton.mp this]
def tw (cs : List Nat) (h : Nat) : Prop := cs.getD h 0 = cs.getD (partner cs h) 0
theorem acr_div {cs : List Nat} {p : Nat} : acr cs p / 2 = partner cs (p / 2) := by
  unfold acr
  split <;> omega
theorem acr_mod {cs : List Nat} {p : Nat} : acr cs p % 2 = if cs.getD (p / 2) 0 = cs.getD (partner cs (p / 2)) 0 then p % 2 else 1 - p % 2 := by
  unfold acr
  split <;> omega
theorem acr_lt {cs : List Nat} (T : Two cs) {p : Nat} (h : p < 2 * cs.length) : acr cs p < 2 * cs.length := by
  have := (partner_lt T (show p / 2 < cs.length by omega)).1
  have := acr_div (cs := cs) (p := p)
  omega
theorem acr_ne {cs : List Nat} (T : Two cs) {p : Nat} (h : p < 2 * cs.length) : acr cs p ≠ p := by
  have h1 := (partner_lt T (show p / 2 < cs.length by omega)).2.1
  have h2 := acr_div (cs := cs) (p := p)
  intro e
  rw [e] at h2
  exact h1 h2.symm
theorem acr_acr {cs : List Nat} (T : Two cs) {p : Nat} (h : p < 2 * cs.length) : acr cs (acr cs p) = p := by
  have hh : p / 2 < cs.length := by omega
  have e1 : acr cs (acr cs p) / 2 = p / 2 := by rw [acr_div, acr_div, partner_partner T hh]
  have e2 : acr cs (acr cs p) % 2 = p % 2 := by
    rw [acr_mod, acr_div, partner_partner T hh, acr_mod]
    by_cases c : cs.getD (p / 2) 0 = cs.getD (partner cs (p / 2)) 0
    · rw [if_pos c.symm, if_pos c]
    · rw [if_neg (fun e => c e.symm), if_neg c]; omega
  omega
theorem stepP_eq {N p : Nat} (hN : N % 2 = 0) (h : p < N) : stepP N p = if p % 2 = 1 then (if p + 1 = N then 0 else p + 1) else (if p = 0 then N - 1 else p - 1) := by
  unfold stepP
  by_cases c : p % 2 = 1
  · rw [if_pos c, c]
    have e : p + 1 * 2 + N - 1 = (p + 1) + N := by omega
    rw [e, Nat.add_mod_right]
    split
    · rename_i e2; rw [e2, Nat.mod_self]
    · exact Nat.mod_eq_of_lt (by omega)
  · rw [if_neg c]
    have c0 : p % 2 = 0 := by omega
    rw [c0]
    split
    · rename_i e2; subst e2
      rw [show 0 + 0 * 2 + N - 1 = N - 1 by omega]
      exact Nat.mod_eq_of_lt (by omega)
    · rw [show p + 0 * 2 + N - 1 = (p - 1) + N by omega, Nat.add_mod_right]
      exact Nat.mod_eq_of_lt (by omega)
theorem stepP_stepP {N p : Nat} (hN : N % 2 = 0) (h : p < N) : stepP N (stepP N p) = p := by
  have hl : stepP N p < N := stepP_lt (by omega)
  rw [stepP_eq hN hl]
  rw [stepP_eq hN h]
  split <;> split <;> (try split) <;> (try split) <;> (try split) <;> omega
theorem stepP_ne {N p : Nat} (hN : N % 2 = 0) (h : p < N) : stepP N p ≠ p := by
  rw [stepP_eq hN h]
  split <;> split <;> omega
/-- a colouring that is the same along a rim -/
def Const (cs : List Nat) (x : Nat → Bool) : Prop := ∀ p, p < 2 * cs.length → x (acr cs p) = x p ∧ x (stepP (2 * cs.length) p) = x p
def Cl (cs : List Nat) (A : List Nat) : Prop := ∀ q ∈ A, q < 2 * cs.length ∧ acr cs q ∈ A ∧ stepP (2 * cs.length) q ∈ A
theorem cnt_pos {N p : Nat} {seen : List Nat} (hp : p < N) (h : p ∉ seen) : 0 < cnt N seen := by
  have := cnt_lt (N := N) p hp h
  omega
theorem orb_walk {cs : List Nat} (T : Two cs) {seen : List Nat} (hs : Cl cs seen) {p0 : Nat} (h0 : p0 ∉ seen) : ∀ (f cur : Nat) (A : List Nat), cur < 2 * cs.length → cnt (2 * cs.length) (seen ++ A) < f →
    (∀ q ∈ A, q < 2 * cs.length ∧ acr cs q ∈ A ∧ q ∉ seen) → (∀ q ∈ A, q ≠ p0 → stepP (2 * cs.length) q ∈ A ∨ stepP (2 * cs.length) q = cur) →
    (cur = p0 ∧ A = [] ∨ p0 ∈ A ∧ stepP (2 * cs.length) cur ∈ A) → (cur ∈ A → cur = p0) → (∀ x, Const cs x → x cur = x p0 ∧ ∀ q ∈ A, x q = x p0) →
    ∃ A', orb cs f cur (seen ++ A) = seen ++ A' ∧ Cl cs A' ∧ p0 ∈ A' ∧ (∀ q ∈ A', q ∉ seen) ∧ ∀ x, Const cs x → ∀ q ∈ A', x q = x p0
  | 0, _, _, _, hf, _, _, _, _, _ => absurd hf (Nat.not_lt_zero _)
  | f + 1, cur, A, hc, hf, I1, I2, I3, I4, I5 => by
    have hN : (2 * cs.length) % 2 = 0 := by omega
    by_cases hin : cur ∈ seen ++ A
    · rw [orb_in hin]
      have hcA : cur ∈ A := by
        rcases List.mem_append.mp hin with h | h
        · rcases I3 with ⟨rfl, _⟩ | ⟨_, h2⟩
          · exact absurd h h0
          · exact absurd (hs cur h).2.2 (I1 _ h2).2.2
        · exact h
      have ec := I4 hcA
      refine ⟨A, rfl, fun q hq => ⟨(I1 q hq).1, (I1 q hq).2.1, ?_⟩, ec ▸ hcA, fun q hq => (I1 q hq).2.2, fun x hx => (I5 x hx).2⟩
      by_cases e : q = p0
      · rcases I3 with ⟨_, h⟩ | ⟨_, h⟩
        · rw [h] at hcA; cases hcA
        · rw [e, ← ec]; exact h
      · rcases I2 q hq e with h | h
        · exact h
        · rw [h]; exact hcA
    · rw [orb_out hin, List.append_assoc]
      have hcs : cur ∉ seen := fun h => hin (List.mem_append_left _ h)
      have hcA : cur ∉ A := fun h => hin (List.mem_append_right _ h)
      have ha := acr_lt T hc
      have hb : nxt cs cur < 2 * cs.length := stepP_lt (by omega)
      have hnb : stepP (2 * cs.length) (nxt cs cur) = acr cs cur := stepP_stepP hN ha
      have haA : acr cs cur ∉ A := fun h => hcA (by have := (I1 _ h).2.1; rwa [acr_acr T hc] at this)
      have memA' : ∀ q, q ∈ A ++ [cur, acr cs cur] ↔ q ∈ A ∨ q = cur ∨ q = acr cs cur := fun q => by simp
      refine orb_walk T hs h0 f (nxt cs cur) (A ++ [cur, acr cs cur]) hb ?_ ?_ ?_ ?_ ?_ ?_
      · have := cnt_lt (acr cs cur) hc hin
        rw [List.append_assoc] at this
        omega
      · intro q hq
        rcases (memA' q).mp hq with h | rfl | rfl
        · exact ⟨(I1 q h).1, (memA' _).mpr (.inl (I1 q h).2.1), (I1 q h).2.2⟩
        · exact ⟨hc, (memA' _).mpr (.inr (.inr rfl)), hcs⟩
        · exact ⟨ha, by rw [acr_acr T hc]; exact (memA' _).mpr (.inr (.inl rfl)), fun h => hcs (by have := (hs _ h).2.1; rwa [acr_acr T hc] at this)⟩
      · intro q hq hne
        rcases (memA' q).mp hq with h | rfl | rfl
        · rcases I2 q h hne with h | h
          · exact .inl ((memA' _).mpr (.inl h))
          · exact .inl ((memA' _).mpr (.inr (.inl h)))
        · rcases I3 with ⟨e, _⟩ | ⟨_, h⟩
          · exact absurd e hne
          · exact .inl ((memA' _).mpr (.inl h))
        · exact .inr rfl
      · refine .inr ⟨?_, by rw [hnb]; exact (memA' _).mpr (.inr (.inr rfl))⟩
        rcases I3 with ⟨e, _⟩ | ⟨h, _⟩
        · exact (memA' _).mpr (.inr (.inl e.symm))
        · exact (memA' _).mpr (.inl h)
      · intro hm
        rcases (memA' _).mp hm with h | h | h
        · by_cases e : nxt cs cur = p0
          · exact e
          · rcases I2 _ h e with h2 | h2
            · rw [hnb] at h2; exact absurd h2 haA
            · rw [hnb] at h2; exact absurd h2 (acr_ne T hc)
        · rcases I3 with ⟨e, _⟩ | ⟨_, h2⟩
          · rw [h]; exact e
          · have : stepP (2 * cs.length) cur = acr cs cur := by have h3 := hnb; rw [h] at h3; exact h3
            rw [this] at h2; exact absurd h2 haA
        · exact absurd h (stepP_ne hN ha)
      · intro x hx
        have e1 := (hx cur hc).1
        have e2 := (hx _ ha).2
        have e3 := (I5 x hx).1
        refine ⟨by show x (stepP _ (acr cs cur)) = _; rw [e2, e1, e3], fun q hq => ?_⟩
        rcases (memA' q).mp hq with h | rfl | rfl
        · exact (I5 x hx).2 q h
        · exact e3
        · rw [e1, e3]
theorem cnt_le2 {N : Nat} {seen : List Nat} : cnt N seen < N + 1 := Nat.lt_succ_of_le (cnt_le N seen)
/-- the rims met so far: each point's rim, a point of each rim -/
structure Rims (cs : List Nat) (i : Nat) (st : Nat × List Nat) (lab rep : Nat → Nat) : Prop where
  cl : Cl cs st.2
  lt : ∀ q ∈ st.2, lab q < st.1
  la : ∀ q ∈ st.2, lab (acr cs q) = lab q
  lb : ∀ q ∈ st.2, lab (stepP (2 * cs.length) q) = lab q
  rp : ∀ j, j < st.1 → rep j ∈ st.2 ∧ lab (rep j) = j
  det : ∀ x, Const cs x → ∀ q ∈ st.2, x q = x (rep (lab q))
  upto : ∀ q, q < i → q ∈ st.2
  pos : 0 < i → 0 < st.1
  zero : 0 < st.1 → rep 0 = 0
theorem rims_to {cs : List Nat} (T : Two cs) : ∀ i, i ≤ 2 * cs.length → ∃ lab rep, Rims cs i (rimsTo cs i) lab rep
  | 0, _ => ⟨fun _ => 0, fun _ => 0, ⟨fun q h => (nomatch h), fun q h => (nomatch h), fun q h => (nomatch h), fun q h => (nomatch h), fun j h => absurd h (Nat.not_lt_zero _), fun x _ q h => (nomatch h), fun q h => absurd h (Nat.not_lt_zero _), fun h => absurd h (Nat.lt_irrefl _), fun _ => rfl⟩⟩
  | i + 1, hi => by
    obtain ⟨lab, rep, R⟩ := rims_to T i (by omega)
    rw [rimsTo_succ]
    generalize rimsTo cs i = st at R
    obtain ⟨c, seen⟩ := st
    unfold rimStep
    dsimp only
    by_cases hin : i ∈ seen
    · rw [if_pos hin, orb_in hin]
      refine ⟨lab, rep, ⟨R.cl, R.lt, R.la, R.lb, R.rp, R.det, fun q hq => ?_, fun _ => ?_, R.zero⟩⟩
      · rcases Nat.lt_succ_iff_lt_or_eq.mp hq with h | h
        · exact R.upto q h
        · rw [h]; exact hin
      · exact Nat.lt_of_le_of_lt (Nat.zero_le _) (R.lt i hin)
    · rw [if_neg hin]
      have w := orb_walk T R.cl hin (2 * cs.length + 1) i [] (by omega) (by rw [List.append_nil]; exact cnt_le2) (fun q h => (nomatch h)) (fun q h => (nomatch h)) (.inl ⟨rfl, rfl⟩) (fun h => (nomatch h)) (fun x _ => ⟨rfl, fun q h => (nomatch h)⟩)
      rw [List.append_nil] at w
      obtain ⟨A, e, hA, h0, hd, hx⟩ := w
      rw [e]
      have lA : ∀ q, q ∈ A → (if q ∈ A then c else lab q) = c := fun q h => if_pos h
      have lS : ∀ q, q ∈ seen → (if q ∈ A then c else lab q) = lab q := fun q h => if_neg fun h2 => hd q h2 h
      refine ⟨fun q => if q ∈ A then c else lab q, fun j => if j = c then i else rep j, ⟨?_, ?_, ?_, ?_, ?_, ?_, ?_, ?_, ?_⟩⟩
      · intro q hq
        rcases List.mem_append.mp hq with h | h
        · exact ⟨(R.cl q h).1, List.mem_append_left _ (R.cl q h).2.1, List.mem_append_left _ (R.cl q h).2.2⟩
        · exact ⟨(hA q h).1, List.mem_append_right _ (hA q h).2.1, List.mem_append_right _ (hA q h).2.2⟩
      · intro q hq
        show (if q ∈ A then c else lab q) < c + 1
        rcases List.mem_append.mp hq with h | h
        · rw [lS q h]; exact Nat.lt_succ_of_lt (R.lt q h)
        · rw [lA q h]; exact Nat.lt_succ_self c
      · intro q hq
        (try dsimp only)
        rcases List.mem_append.mp hq with h | h
        · rw [lS q h, lS _ (R.cl q h).2.1]; exact R.la q h
        · rw [lA q h, lA _ (hA q h).2.1]
      · intro q hq
        (try dsimp only)
        rcases List.mem_append.mp hq with h | h
        · rw [lS q h, lS _ (R.cl q h).2.2]; exact R.lb q h
        · rw [lA q h, lA _ (hA q h).2.2]
      · intro j hj
        (try dsimp only)
        by_cases ej : j = c
        · rw [if_pos ej]
          exact ⟨List.mem_append_right _ h0, by rw [lA _ h0, ej]⟩
        · rw [if_neg ej]
          have r := R.rp j (show j < c by have : j < c + 1 := hj; omega)
          exact ⟨List.mem_append_left _ r.1, by rw [lS _ r.1]; exact r.2⟩
      · intro x hxc q hq
        (try dsimp only)
        rcases List.mem_append.mp hq with h | h
        · rw [lS q h, if_neg (Nat.ne_of_lt (R.lt q h))]; exact R.det x hxc q h
        · rw [lA q h, if_pos rfl]; exact hx x hxc q h
      · intro q hq
        rcases Nat.lt_succ_iff_lt_or_eq.mp hq with h | h
        · exact List.mem_append_left _ (R.upto q h)
        · rw [h]; exact List.mem_append_right _ h0
      · exact fun _ => Nat.succ_pos c
      · intro _
        (try dsimp only)
        by_cases ec : 0 = c
        · rw [if_pos ec]
          rcases Nat.eq_zero_or_pos i with h | h
          · exact h
          · exact absurd ec (Nat.ne_of_lt (R.pos h))
        · rw [if_neg ec]
          exact R.zero (show 0 < c by omega)
theorem rims_all {cs : List Nat} (T : Two cs) : ∃ lab rep, Rims cs (2 * cs.length) (rimsTo cs (2 * cs.length)) lab rep := rims_to T _ (Nat.le_refl _)
end Mine.Pl
end

section
namespace Mine.Pl
structure Good (ls : List Nat) (hs : List (Nat × Nat)) : Prop where
  nd : (ls.map lowc).Nodup
  two : ∀ o ∈ ls, (endsOf hs o).length = 2
  all : ∀ q ∈ hs, ∃ o ∈ ls, lowc q.1 = lowc o
  inc : hs.Pairwise fun a b => a.2 < b.2
def sg (hs : List (Nat × Nat)) (k : Nat) : Nat := (hs.getD k (0, 0)).1
def pl (hs : List (Nat × Nat)) (k : Nat) : Nat := (hs.getD k (0, 0)).2
theorem sg_getD (hs : List (Nat × Nat)) (k : Nat) : (hs.map (·.1)).getD k 0 = sg hs k := by
  unfold sg
  rw [List.getD_eq_getElem?_getD, List.getD_eq_getElem?_getD, List.getElem?_map]
  cases hs[k]? <;> rfl
def posOf (hs : List (Nat × Nat)) (o : Nat) : List Nat := (List.range hs.length).filter fun k => lowc (sg hs k) == lowc o
theorem posOf_mem {hs : List (Nat × Nat)} {o k : Nat} : k ∈ posOf hs o ↔ k < hs.length ∧ lowc (sg hs k) = lowc o := by
  unfold posOf
  rw [List.mem_filter, List.mem_range, beq_iff_eq]
theorem list_range (hs : List (Nat × Nat)) : (List.range hs.length).map (fun k => hs.getD k (0, 0)) = hs := by
  refine List.ext_getElem (by simp) fun i h1 h2 => ?_
  simp [h2]
theorem endsOf_pos (hs : List (Nat × Nat)) (o : Nat) : endsOf hs o = (posOf hs o).map fun k => hs.getD k (0, 0) := by
  unfold endsOf posOf
  conv => lhs; rw [← list_range hs]
  rw [List.filter_map]
  rfl
theorem Good.pos {ls : List Nat} {hs : List (Nat × Nat)} (G : Good ls hs) {o : Nat} (ho : o ∈ ls) : ∃ a b, posOf hs o = [a, b] ∧ a < b ∧ b < hs.length := by
  have h := G.two o ho
  rw [endsOf_pos, List.length_map] at h
  have hp : (posOf hs o).Pairwise (· < ·) := List.Pairwise.filter _ List.pairwise_lt_range
  generalize e : posOf hs o = l at h hp
  match l, h with
  | [a, b], _ =>
    refine ⟨a, b, rfl, by simpa using hp, ?_⟩
    exact (posOf_mem.mp (show b ∈ posOf hs o by rw [e]; simp)).1
theorem pl_lt {ls : List Nat} {hs : List (Nat × Nat)} (G : Good ls hs) {a b : Nat} (h : a < b) (hb : b < hs.length) : pl hs a < pl hs b := by
  have := List.pairwise_iff_getElem.mp G.inc a b (by omega) hb h
  unfold pl
  simpa [hb, show a < hs.length by omega] using this
theorem pl_iff {ls : List Nat} {hs : List (Nat × Nat)} (G : Good ls hs) {a b : Nat} (ha : a < hs.length) (hb : b < hs.length) : pl hs a < pl hs b ↔ a < b := by
  constructor
  · intro h
    rcases Nat.lt_trichotomy a b with c | c | c
    · exact c
    · rw [c] at h; exact absurd h (Nat.lt_irrefl _)
    · have := pl_lt G c ha; omega
  · exact fun h => pl_lt G h hb
theorem ends_eq {hs : List (Nat × Nat)} {o a b : Nat} (e : posOf hs o = [a, b]) : end1 hs o = pl hs a ∧ end2 hs o = pl hs b ∧ twist hs o = (sg hs a == sg hs b) ∧ endsOf hs o = [hs.getD a (0, 0), hs.getD b (0, 0)] := by
  have h : endsOf hs o = [hs.getD a (0, 0), hs.getD b (0, 0)] := by rw [endsOf_pos, e]; rfl
  unfold end1 end2 twist
  rw [h]
  exact ⟨rfl, rfl, rfl, rfl⟩
/-- the parity of the numbers before k -/
def par (t : Nat → Bool) : Nat → Bool
  | 0 => false
  | k + 1 => xor (par t k) (t k)
def isL (hs : List (Nat × Nat)) (c j : Nat) : Bool := lowc (sg hs j) == lowc c
theorem par_ends {hs : List (Nat × Nat)} {c a b : Nat} (e : posOf hs c = [a, b]) (hab : a < b) : ∀ k, k ≤ hs.length → par (isL hs c) k = xor (decide (a < k)) (decide (b < k))
  | 0, _ => by simp [par]
  | k + 1, hk => by
    have ih := par_ends e hab k (by omega)
    show xor (par (isL hs c) k) (isL hs c k) = _
    have ht : isL hs c k = (decide (k = a) || decide (k = b)) := by
      have : k ∈ posOf hs c ↔ k = a ∨ k = b := by rw [e]; simp
      rw [posOf_mem] at this
      unfold isL
      rw [Bool.eq_iff_iff]
      simp only [beq_iff_eq, Bool.or_eq_true, decide_eq_true_eq]
      rw [← this]
      exact ⟨fun h => ⟨by omega, h⟩, fun h => h.2⟩
    rw [ih, ht]
    by_cases h1 : k = a
    · subst h1
      have : k ≠ b := by omega
      simp [show ¬ b < k by omega, show ¬ b < k + 1 by omega, this]
    · by_cases h2 : k = b
      · subst h2
        simp [show a < k by omega, show a < k + 1 by omega, h1]
      · have e1 : (a < k + 1) = (a < k) := by simp; omega
        have e2 : (b < k + 1) = (b < k) := by simp; omega
        simp [h1, h2, e1, e2]
def odd (z : Int) : Bool := z % 2 == 1
theorem odd_add (x y : Int) : odd (x + y) = xor (odd x) (odd y) := by
  unfold odd
  have h1 : x % 2 = 0 ∨ x % 2 = 1 := by omega
  have h2 : y % 2 = 0 ∨ y % 2 = 1 := by omega
  rcases h1 with h1 | h1 <;> rcases h2 with h2 | h2 <;> rw [h1, h2, Int.add_emod, h1, h2] <;> rfl
theorem odd_sub (x y : Int) : odd (x - y) = xor (odd x) (odd y) := by
  unfold odd
  have h1 : x % 2 = 0 ∨ x % 2 = 1 := by omega
  have h2 : y % 2 = 0 ∨ y % 2 = 1 := by omega
  rcases h1 with h1 | h1 <;> rcases h2 with h2 | h2 <;> rw [h1, h2, Int.sub_emod, h1, h2] <;> rfl
theorem odd_bR {x0 x1 x : Int} (h : x0 < x1) : odd (bR x0 x1 x) = xor (decide (x0 ≤ x)) (decide (x1 ≤ x)) := by
  unfold bR
  by_cases c0 : x < x0
  · rw [if_pos c0]; simp [odd, show ¬ x0 ≤ x by omega, show ¬ x1 ≤ x by omega]
  · rw [if_neg c0]
    by_cases c1 : x < x1
    · rw [if_pos c1]; simp [odd, show x0 ≤ x by omega, show ¬ x1 ≤ x by omega]
    · rw [if_neg c1]; simp [odd, show x0 ≤ x by omega, show x1 ≤ x by omega]
theorem odd_bL {x0 x1 x : Int} (h : x0 < x1) : odd (bL x0 x1 x) = xor (decide (x0 < x)) (decide (x1 < x)) := by
  unfold bL
  by_cases c0 : x ≤ x0
  · rw [if_pos c0]; simp [odd, show ¬ x0 < x by omega, show ¬ x1 < x by omega]
  · rw [if_neg c0]
    by_cases c1 : x ≤ x1
    · rw [if_pos c1]; simp [odd, show x0 < x by omega, show ¬ x1 < x by omega]
    · rw [if_neg c1]; simp [odd, show x0 < x by omega, show x1 < x by omega]
theorem nodup_inj {f : Nat → Nat} : ∀ {l : List Nat}, (l.map f).Nodup → ∀ {a b : Nat}, a ∈ l → b ∈ l → f a = f b → a = b
  | x :: l, h, a, b, ha, hb, e => by
    rw [List.map_cons, List.nodup_cons] at h
    rcases List.mem_cons.mp ha with ea | ha'
    · rcases List.mem_cons.mp hb with eb | hb'
      · rw [ea, eb]
      · exact absurd (List.mem_map.mpr ⟨b, hb', by rw [← e, ea]⟩) h.1
    · rcases List.mem_cons.mp hb with eb | hb'
      · exact absurd (List.mem_map.mpr ⟨a, ha', by rw [e, eb]⟩) h.1
      · exact nodup_inj h.2 ha' hb' e
theorem Good.inj {ls : List Nat} {hs : List (Nat × Nat)} (G : Good ls hs) {c o : Nat} (hc : c ∈ ls) (ho : o ∈ ls) (e : lowc c = lowc o) : c = o := nodup_inj G.nd hc ho e
theorem nodup_of_map {f : Nat → Nat} : ∀ {l : List Nat}, (l.map f).Nodup → l.Nodup
  | [], _ => .nil
  | x :: l, h => by
    rw [List.map_cons, List.nodup_cons] at h
    rw [List.nodup_cons]
    exact ⟨fun hm => h.1 (List.mem_map.mpr ⟨x, hm, rfl⟩), nodup_of_map h.2⟩
/-- the parity of a cell -/
theorem odd_cell {ls : List Nat} {hs : List (Nat × Nat)} (G : Good ls hs) {c o a b : Nat} (hc : c ∈ ls) (ho : o ∈ ls) (e : posOf hs o = [a, b]) (hab : a < b) (hb : b < hs.length) :
    odd (cellOf hs c o) = xor (xor (par (isL hs c) a) (par (isL hs c) b)) (c == o && !(sg hs a == sg hs b)) := by
  obtain ⟨p, q, ec, hpq, hq⟩ := G.pos hc
  obtain ⟨o1, o2, o3, _⟩ := ends_eq e
  obtain ⟨c1, c2, c3, _⟩ := ends_eq ec
  rw [par_ends ec hpq a (by omega), par_ends ec hpq b (by omega)]
  unfold cellOf
  rw [o1, o2, c1, c2, c3, odd_sub]
  have ho12 : ((pl hs a : Nat) : Int) < ((pl hs b : Nat) : Int) := by have := pl_lt G hab hb; omega
  have key : ∀ x y, x < hs.length → y < hs.length → (decide (((pl hs x : Nat) : Int) < ((pl hs y : Nat) : Int)) = decide (x < y)) ∧ (decide (((pl hs x : Nat) : Int) ≤ ((pl hs y : Nat) : Int)) = decide (x ≤ y)) := fun x y hx hy => by
    have h1 := pl_iff G hx hy
    have h2 := pl_iff G hy hx
    constructor
    · rw [decide_eq_decide]; omega
    · rw [decide_eq_decide]; omega
  have ha : a < hs.length := by omega
  have hp : p < hs.length := by omega
  by_cases hco : c = o
  · subst hco
    rw [ec] at e
    cases e
    simp only [beq_self_eq_true, Bool.true_and]
    cases htw : sg hs a == sg hs b with
    | true =>
      rw [if_pos rfl, odd_bR ho12, odd_bR ho12, (key a b ha hb).2, (key b b hb hb).2, (key a a ha ha).2, (key b a hb ha).2]
      simp [hab, show a ≤ b by omega, show ¬ b ≤ a by omega, show ¬ b < a by omega]
    | false =>
      rw [if_neg (by simp), odd_bL ho12, odd_bR ho12, (key a b ha hb).1, (key b b hb hb).1, (key a a ha ha).2, (key b a hb ha).2]
      simp [hab, show ¬ b ≤ a by omega, show ¬ b < a by omega]
  · have hne : ∀ x y, x ∈ posOf hs c → y ∈ posOf hs o → x ≠ y := fun x y hx hy exy => by
      subst exy
      exact hco (G.inj hc ho ((posOf_mem.mp hx).2.symm.trans (posOf_mem.mp hy).2))
    have n1 := hne p a (by rw [ec]; simp) (by rw [e]; simp)
    have n2 := hne p b (by rw [ec]; simp) (by rw [e]; simp)
    have n3 := hne q a (by rw [ec]; simp) (by rw [e]; simp)
    have n4 := hne q b (by rw [ec]; simp) (by rw [e]; simp)
    have hcb : (c == o) = false := by simpa using hco
    rw [hcb, Bool.false_and, Bool.xor_false]
    have hU : odd (if (sg hs p == sg hs q) = true then bR (pl hs a : Nat) (pl hs b : Nat) (pl hs q : Nat) else bL (pl hs a : Nat) (pl hs b : Nat) (pl hs q : Nat)) = xor (!decide (q < a)) (!decide (q < b)) := by
      split
      · rw [odd_bR ho12, (key a q ha hq).2, (key b q hb hq).2]
        congr 1
        · rw [← decide_not, decide_eq_decide]; omega
        · rw [← decide_not, decide_eq_decide]; omega
      · rw [odd_bL ho12, (key a q ha hq).1, (key b q hb hq).1]
        congr 1
        · rw [← decide_not, decide_eq_decide]; omega
        · rw [← decide_not, decide_eq_decide]; omega
    rw [hU, odd_bR ho12, (key a p ha hp).2, (key b p hb hp).2]
    have r1 : decide (a ≤ p) = !decide (p < a) := by rw [← decide_not, decide_eq_decide]; omega
    have r2 : decide (b ≤ p) = !decide (p < b) := by rw [← decide_not, decide_eq_decide]; omega
    rw [r1, r2]
    cases decide (p < a) <;> cases decide (p < b) <;> cases decide (q < a) <;> cases decide (q < b) <;> rfl
end Mine.Pl
end

section
namespace Mine.Pl
def xs : List (Nat × Bool) → (Nat → Bool) → Bool
  | [], _ => false
  | cb :: z, f => xor (cb.2 && f cb.1) (xs z f)
theorem xs_false : ∀ z : List (Nat × Bool), xs z (fun _ => false) = false
  | [] => rfl
  | cb :: z => by show xor (cb.2 && false) (xs z _) = _; rw [xs_false z]; simp
theorem xs_xor (f g : Nat → Bool) : ∀ z : List (Nat × Bool), xs z (fun c => xor (f c) (g c)) = xor (xs z f) (xs z g)
  | [] => rfl
  | cb :: z => by
    show xor (cb.2 && xor (f cb.1) (g cb.1)) (xs z _) = xor (xor (cb.2 && f cb.1) (xs z f)) (xor (cb.2 && g cb.1) (xs z g))
    rw [xs_xor f g z]
    cases cb.2 <;> cases f cb.1 <;> cases g cb.1 <;> cases xs z f <;> cases xs z g <;> rfl
theorem xs_and (f : Nat → Bool) (b : Bool) : ∀ z : List (Nat × Bool), xs z (fun c => f c && b) = (xs z f && b)
  | [] => rfl
  | cb :: z => by
    show xor (cb.2 && (f cb.1 && b)) (xs z _) = (xor (cb.2 && f cb.1) (xs z f) && b)
    rw [xs_and f b z]
    cases cb.2 <;> cases f cb.1 <;> cases b <;> cases xs z f <;> rfl
theorem xs_congr {f g : Nat → Bool} : ∀ {z : List (Nat × Bool)}, (∀ cb ∈ z, f cb.1 = g cb.1) → xs z f = xs z g
  | [], _ => rfl
  | cb :: z, h => by
    show xor (cb.2 && f cb.1) (xs z f) = xor (cb.2 && g cb.1) (xs z g)
    rw [h cb (.head _), xs_congr fun q hq => h q (.tail _ hq)]
theorem odd_fold {hs : List (Nat × Nat)} {o : Nat} : ∀ (z : List (Nat × Bool)) (u : Nat → Int), odd (z.foldl (stepU hs) u o) = xor (odd (u o)) (xs z fun c => odd (cellOf hs c o))
  | [], u => by simp [xs]
  | cb :: z, u => by
    rw [List.foldl_cons, odd_fold z]
    show _ = xor (odd (u o)) (xor (cb.2 && odd (cellOf hs cb.1 o)) (xs z _))
    unfold stepU
    cases cb.2 with
    | false => simp
    | true => simp [odd_add]
section
variable {ls : List Nat} {hs : List (Nat × Nat)}
/-- the colour of an arc -/
def X (hs : List (Nat × Nat)) (z : List (Nat × Bool)) (k : Nat) : Bool := xs z fun c => par (isL hs c) k
def S (z : List (Nat × Bool)) (o : Nat) : Bool := xs z fun c => c == o
theorem zip_mem {v : List Bool} {cb : Nat × Bool} (h : cb ∈ ls.zip v) : cb.1 ∈ ls := (List.of_mem_zip (a := cb.1) (b := cb.2) h).1
theorem colU_odd (G : Good ls hs) {v : List Bool} {o a b : Nat} (ho : o ∈ ls) (e : posOf hs o = [a, b]) (hab : a < b) (hb : b < hs.length) :
    odd (colU hs ls v o) = xor (xor (X hs (ls.zip v) a) (X hs (ls.zip v) b)) (S (ls.zip v) o && !(sg hs a == sg hs b)) := by
  unfold colU
  rw [odd_fold]
  show xor false _ = _
  rw [Bool.false_xor, xs_congr (g := fun c => xor (xor (par (isL hs c) a) (par (isL hs c) b)) (c == o && !(sg hs a == sg hs b))) fun cb hcb => odd_cell G (zip_mem hcb) ho e hab hb]
  rw [xs_xor, xs_xor, xs_and]
  rfl
theorem X_zero {z : List (Nat × Bool)} : X hs z 0 = false := xs_false z
theorem X_last (G : Good ls hs) {v : List Bool} : X hs (ls.zip v) hs.length = false := by
  unfold X
  rw [xs_congr (g := fun _ => false), xs_false]
  intro cb hcb
  obtain ⟨p, q, ec, hpq, hq⟩ := G.pos (zip_mem hcb)
  rw [par_ends ec hpq _ (Nat.le_refl _)]
  simp [hq, show p < hs.length by omega]
theorem X_succ (G : Good ls hs) {v : List Bool} {o k : Nat} (ho : o ∈ ls) (hk : lowc (sg hs k) = lowc o) : X hs (ls.zip v) (k + 1) = xor (X hs (ls.zip v) k) (S (ls.zip v) o) := by
  unfold X S
  rw [← xs_xor]
  refine xs_congr fun cb hcb => ?_
  show xor (par (isL hs cb.1) k) (isL hs cb.1 k) = _
  congr 1
  unfold isL
  rw [hk, Bool.eq_iff_iff, beq_iff_eq, beq_iff_eq]
  exact ⟨fun e => G.inj (zip_mem hcb) ho e.symm, fun e => by rw [e]⟩
theorem S_get : ∀ {ls : List Nat} {v : List Bool}, ls.Nodup → v.length = ls.length → ∀ (i : Nat) (o : Nat) (b : Bool), ls[i]? = some o → v[i]? = some b → S (ls.zip v) o = b
  | [], _, _, _, i, o, b, h, _ => by simp at h
  | c :: ls, [], _, hl, _, _, _, _, _ => by simp at hl
  | c :: ls, w :: v, hn, hl, i, o, b, h1, h2 => by
    rw [List.nodup_cons] at hn
    show xor (w && (c == o)) (S (ls.zip v) o) = b
    match i with
    | 0 =>
      simp at h1 h2
      subst h1; subst h2
      have : S (ls.zip v) c = false := by
        unfold S
        rw [xs_congr (g := fun _ => false), xs_false]
        intro cb hcb
        have := zip_mem hcb
        simp
        rintro rfl
        exact hn.1 this
      rw [this]; simp
    | i + 1 =>
      simp at h1 h2
      have hne : (c == o) = false := by
        simp; rintro rfl
        exact hn.1 (List.mem_of_getElem? h1)
      rw [hne, S_get hn.2 (by simpa using hl) i o b h1 h2]; simp
theorem good_iff (G : Good ls hs) {v : List Bool} : goodMask hs ls v = true ↔ ∀ o ∈ ls, odd (colU hs ls v o) = false := by
  unfold goodMask
  rw [List.all_eq_true]
  refine forall_congr' fun o => imp_congr_right fun _ => ?_
  unfold odd
  have : colU hs ls v o % 2 = 0 ∨ colU hs ls v o % 2 = 1 := by omega
  rcases this with h | h <;> rw [h] <;> decide
theorem cds_len : (hs.map (·.1)).length = hs.length := List.length_map ..
theorem Good.letter (G : Good ls hs) {k : Nat} (hk : k < hs.length) : ∃ o a b, o ∈ ls ∧ posOf hs o = [a, b] ∧ a < b ∧ b < hs.length ∧ lowc (sg hs k) = lowc o ∧ (k = a ∨ k = b) := by
  obtain ⟨o, ho, e⟩ := G.all (hs.getD k (0, 0)) (by
    rw [List.getD_eq_getElem?_getD, List.getElem?_eq_getElem hk]; exact List.getElem_mem hk)
  obtain ⟨a, b, h1, h2, h3⟩ := G.pos ho
  refine ⟨o, a, b, ho, h1, h2, h3, e, ?_⟩
  have : k ∈ posOf hs o := posOf_mem.mpr ⟨hk, e⟩
  rw [h1] at this
  simpa using this
theorem others_pos {o k : Nat} (hk : k < hs.length) (e : lowc (sg hs k) = lowc o) : others (hs.map (·.1)) k = (posOf hs o).filter fun j => j != k := by
  unfold others posOf
  rw [cds_len, List.filter_filter]
  refine List.filter_congr fun j _ => ?_
  rw [sg_getD, sg_getD, e]
theorem Good.two' (G : Good ls hs) : Two (hs.map (·.1)) := fun k hk => by
  rw [cds_len] at hk
  obtain ⟨o, a, b, ho, h1, h2, h3, h4, h5⟩ := G.letter hk
  rw [others_pos hk h4, h1]
  rcases h5 with rfl | rfl
  · exact ⟨b, by simp [show b ≠ k by omega]⟩
  · exact ⟨a, by simp [show a ≠ k by omega]⟩
theorem Good.partner (G : Good ls hs) {o a b : Nat} (e : posOf hs o = [a, b]) (hab : a < b) (hb : b < hs.length) : partner (hs.map (·.1)) a = b ∧ partner (hs.map (·.1)) b = a := by
  have ma := (posOf_mem.mp (show a ∈ posOf hs o by rw [e]; simp)).2
  have mb := (posOf_mem.mp (show b ∈ posOf hs o by rw [e]; simp)).2
  constructor
  · refine partner_only G.two' (by rw [cds_len]; omega) (by rw [cds_len]; omega) (by omega) ?_
    rw [sg_getD, sg_getD, ma, mb]
  · refine partner_only G.two' (by rw [cds_len]; omega) (by rw [cds_len]; omega) (by omega) ?_
    rw [sg_getD, sg_getD, ma, mb]
theorem Good.acr (G : Good ls hs) {o a b e : Nat} (h : posOf hs o = [a, b]) (hab : a < b) (hb : b < hs.length) (he : e < 2) :
    acr (hs.map (·.1)) (2 * a + e) = 2 * b + (if sg hs a = sg hs b then e else 1 - e) ∧ acr (hs.map (·.1)) (2 * b + e) = 2 * a + (if sg hs a = sg hs b then e else 1 - e) := by
  obtain ⟨p1, p2⟩ := G.partner h hab hb
  unfold Mine.acr
  rw [show (2 * a + e) / 2 = a by omega, show (2 * b + e) / 2 = b by omega, p1, p2, sg_getD, sg_getD, show (2 * a + e) % 2 = e by omega, show (2 * b + e) % 2 = e by omega]
  refine ⟨rfl, ?_⟩
  by_cases c : sg hs a = sg hs b
  · rw [if_pos c, if_pos c.symm]
  · rw [if_neg c, if_neg (fun e => c e.symm)]
/-- the colour of a point -/
def pc (x : Nat → Bool) (p : Nat) : Bool := x ((p + 1) / 2)
theorem pc_step {x : Nat → Bool} {W p : Nat} (h : x 0 = x W) (hp : p < 2 * W) : pc x (stepP (2 * W) p) = pc x p := by
  rw [stepP_eq (by omega) hp]
  unfold pc
  split
  · split
    · rename_i h1 h2
      rw [show (0 + 1) / 2 = 0 by omega, show (p + 1) / 2 = W by omega]; exact h
    · rw [show (p + 1 + 1) / 2 = (p + 1) / 2 by omega]
  · split
    · rename_i h1 h2
      rw [h2, show (2 * W - 1 + 1) / 2 = W by omega, show (0 + 1) / 2 = 0 by omega]; exact h.symm
    · rw [show (p - 1 + 1) / 2 = (p + 1) / 2 by omega]
theorem bools {xa xb s t : Bool} (h : xor (xor xa xb) (s && !t) = false) : (t = true → xa = xb ∧ xor xa s = xor xb s) ∧ (t = false → xa = xor xb s ∧ xor xa s = xb) := by
  cases xa <;> cases xb <;> cases s <;> cases t <;> simp_all
theorem const_of_good (G : Good ls hs) {v : List Bool} (h : goodMask hs ls v = true) : Const (hs.map (·.1)) (pc (X hs (ls.zip v))) := by
  intro p hp
  rw [cds_len] at hp ⊢
  refine ⟨?_, pc_step (by rw [X_zero, X_last G]) hp⟩
  obtain ⟨o, a, b, ho, h1, h2, h3, h4, h5⟩ := G.letter (show p / 2 < hs.length by omega)
  have hc := (good_iff G).mp h o ho
  rw [colU_odd G ho h1 h2 h3] at hc
  have sa := X_succ G (v := v) ho (posOf_mem.mp (show a ∈ posOf hs o by rw [h1]; simp)).2
  have sb := X_succ G (v := v) ho (posOf_mem.mp (show b ∈ posOf hs o by rw [h1]; simp)).2
  obtain ⟨t1, t2⟩ := bools hc
  rw [← sa, ← sb] at t1 t2
  have ac := G.acr (e := p % 2) h1 h2 h3 (by omega)
  have hx : ∀ k e, e < 2 → pc (X hs (ls.zip v)) (2 * k + e) = X hs (ls.zip v) (k + e) := fun k e he => by
    unfold pc; rw [show (2 * k + e + 1) / 2 = k + e by omega]
  have e2 : p % 2 = 0 ∨ p % 2 = 1 := by omega
  by_cases c : sg hs a = sg hs b
  · obtain ⟨u1, u2⟩ := t1 (by simpa using c)
    rw [if_pos c] at ac
    rcases h5 with h5 | h5
    · rw [show p = 2 * a + p % 2 by omega]
      rw [ac.1, hx _ _ (by omega), hx _ _ (by omega)]
      rcases e2 with e2 | e2 <;> rw [e2]
      · exact u1.symm
      · exact u2.symm
    · rw [show p = 2 * b + p % 2 by omega]
      rw [ac.2, hx _ _ (by omega), hx _ _ (by omega)]
      rcases e2 with e2 | e2 <;> rw [e2]
      · exact u1
      · exact u2
  · obtain ⟨u1, u2⟩ := t2 (by simpa using c)
    rw [if_neg c] at ac
    rcases h5 with h5 | h5
    · rw [show p = 2 * a + p % 2 by omega]
      rw [ac.1, hx _ _ (by omega), hx _ _ (by omega)]
      rcases e2 with e2 | e2 <;> rw [e2]
      · exact u1.symm
      · exact u2.symm
    · rw [show p = 2 * b + p % 2 by omega]
      rw [ac.2, hx _ _ (by omega), hx _ _ (by omega)]
      rcases e2 with e2 | e2 <;> rw [e2]
      · exact u2
      · exact u1
end
end Mine.Pl
end

section
namespace Mine.Pl
section
variable {ls : List Nat} {hs : List (Nat × Nat)}
/-- the choice of a colouring -/
def bitOf (hs : List (Nat × Nat)) (y : Nat → Bool) (o : Nat) : Bool := xor (y (2 * (posOf hs o).headD 0)) (y (2 * (posOf hs o).headD 0 + 1))
def maskOf (hs : List (Nat × Nat)) (ls : List Nat) (y : Nat → Bool) : List Bool := ls.map (bitOf hs y)
theorem S_maskOf (G : Good ls hs) {y : Nat → Bool} {o a b : Nat} (ho : o ∈ ls) (e : posOf hs o = [a, b]) : S (ls.zip (maskOf hs ls y)) o = xor (y (2 * a)) (y (2 * a + 1)) := by
  obtain ⟨i, hi⟩ := List.mem_iff_getElem?.mp ho
  refine S_get (nodup_of_map G.nd) (by unfold maskOf; rw [List.length_map]) i o _ hi ?_
  unfold maskOf
  rw [List.getElem?_map, hi]
  show some (bitOf hs y o) = _
  unfold bitOf
  rw [e]; rfl
theorem Const.pair (G : Good ls hs) {y : Nat → Bool} (hy : Const (hs.map (·.1)) y) {o a b : Nat} (e : posOf hs o = [a, b]) (hab : a < b) (hb : b < hs.length) :
    (sg hs a = sg hs b → y (2 * b) = y (2 * a) ∧ y (2 * b + 1) = y (2 * a + 1)) ∧ (sg hs a ≠ sg hs b → y (2 * b + 1) = y (2 * a) ∧ y (2 * b) = y (2 * a + 1)) := by
  have a0 := (G.acr (e := 0) e hab hb (by omega)).1
  have a1 := (G.acr (e := 1) e hab hb (by omega)).1
  have c0 := (hy (2 * a + 0) (by rw [cds_len]; omega)).1
  have c1 := (hy (2 * a + 1) (by rw [cds_len]; omega)).1
  rw [a0] at c0
  rw [a1] at c1
  constructor
  · intro h
    rw [if_pos h] at c0 c1
    exact ⟨c0, c1⟩
  · intro h
    rw [if_neg h] at c0 c1
    exact ⟨c0, c1⟩
theorem Const.next {y : Nat → Bool} (hy : Const (hs.map (·.1)) y) (h0 : y 0 = false) {k : Nat} (hk : k < hs.length) : y (2 * k + 1) = if k + 1 < hs.length then y (2 * (k + 1)) else false := by
  have c := (hy (2 * k + 1) (by rw [cds_len]; omega)).2
  rw [cds_len, stepP_eq (by omega) (by omega), if_pos (by omega)] at c
  by_cases h : k + 1 < hs.length
  · rw [if_pos h]
    rw [if_neg (by omega)] at c
    exact c.symm
  · rw [if_neg h]
    rw [if_pos (by omega)] at c
    rw [← c, h0]
theorem X_maskOf (G : Good ls hs) {y : Nat → Bool} (hy : Const (hs.map (·.1)) y) (h0 : y 0 = false) : ∀ k, k ≤ hs.length → X hs (ls.zip (maskOf hs ls y)) k = if k < hs.length then y (2 * k) else false
  | 0, _ => by
    rw [X_zero]
    split
    · exact h0.symm
    · rfl
  | k + 1, hk => by
    have ih := X_maskOf G hy h0 k (by omega)
    rw [if_pos (show k < hs.length by omega)] at ih
    obtain ⟨o, a, b, ho, h1, h2, h3, h4, h5⟩ := G.letter (show k < hs.length by omega)
    rw [X_succ G ho h4, ih, S_maskOf G ho h1, ← Const.next hy h0 (by omega)]
    obtain ⟨p1, p2⟩ := Const.pair G hy h1 h2 h3
    rcases h5 with rfl | rfl
    · cases y (2 * k) <;> cases y (2 * k + 1) <;> rfl
    · by_cases c : sg hs a = sg hs k
      · obtain ⟨e1, e2⟩ := p1 c
        rw [← e1, ← e2]
        cases y (2 * k) <;> cases y (2 * k + 1) <;> rfl
      · obtain ⟨e1, e2⟩ := p2 c
        rw [← e1, ← e2]
        cases y (2 * k) <;> cases y (2 * k + 1) <;> rfl
theorem good_maskOf (G : Good ls hs) {y : Nat → Bool} (hy : Const (hs.map (·.1)) y) (h0 : y 0 = false) : goodMask hs ls (maskOf hs ls y) = true := by
  refine (good_iff G).mpr fun o ho => ?_
  obtain ⟨a, b, h1, h2, h3⟩ := G.pos ho
  rw [colU_odd G ho h1 h2 h3, S_maskOf G ho h1, X_maskOf G hy h0 a (by omega), X_maskOf G hy h0 b (by omega), if_pos (by omega), if_pos h3]
  obtain ⟨p1, p2⟩ := Const.pair G hy h1 h2 h3
  by_cases c : sg hs a = sg hs b
  · obtain ⟨e1, e2⟩ := p1 c
    rw [e1, show (sg hs a == sg hs b) = true from by simpa using c]
    cases y (2 * a) <;> simp
  · obtain ⟨e1, e2⟩ := p2 c
    rw [e2, show (sg hs a == sg hs b) = false from by simpa using c]
    cases y (2 * a) <;> cases y (2 * a + 1) <;> rfl
end
theorem sub_le {β : Type} [DecidableEq β] : ∀ {l1 l2 : List β}, l1.Nodup → (∀ a ∈ l1, a ∈ l2) → l1.length ≤ l2.length
  | [], _, _, _ => Nat.zero_le _
  | a :: l1, l2, hn, hs => by
    rw [List.nodup_cons] at hn
    have ha := hs a (.head _)
    have := sub_le (l2 := l2.erase a) hn.2 (fun b hb => (List.mem_erase_of_ne (fun e : b = a => hn.1 (by rw [← e]; exact hb))).mpr (hs b (.tail _ hb)))
    rw [List.length_erase_of_mem ha] at this
    have hp : 0 < l2.length := List.length_pos_of_mem ha
    rw [List.length_cons]; omega
theorem nodup_map_on {α β : Type} {f : α → β} : ∀ {l : List α}, (∀ a ∈ l, ∀ b ∈ l, f a = f b → a = b) → l.Nodup → (l.map f).Nodup
  | [], _, _ => .nil
  | a :: l, hf, h => by
    rw [List.nodup_cons] at h
    rw [List.map_cons, List.nodup_cons]
    refine ⟨fun hm => ?_, nodup_map_on (fun x hx y hy => hf x (.tail _ hx) y (.tail _ hy)) h.2⟩
    obtain ⟨b, hb, e⟩ := List.mem_map.mp hm
    rw [hf b (.tail _ hb) a (.head _) e] at hb
    exact h.1 hb
theorem inj_le {α β : Type} [DecidableEq β] {l1 : List α} {l2 : List β} (f : α → β) (hn : l1.Nodup) (hm : ∀ a ∈ l1, f a ∈ l2) (hf : ∀ a ∈ l1, ∀ b ∈ l1, f a = f b → a = b) : l1.length ≤ l2.length := by
  have := sub_le (l2 := l2) (nodup_map_on hf hn) (fun b hb => by obtain ⟨a, ha, rfl⟩ := List.mem_map.mp hb; exact hm a ha)
  rwa [List.length_map] at this
def bitAt (bits : List Bool) : Nat → Bool
  | 0 => false
  | j + 1 => bits.getD j false
theorem count {ls : List Nat} {hs : List (Nat × Nat)} (G : Good ls hs) (hne : ls ≠ []) : evenCount hs ls = 2 ^ (rims (hs.map (·.1)) - 1) ∧ 1 ≤ rims (hs.map (·.1)) := by
  have hW : 0 < hs.length := by
    obtain ⟨o, ho⟩ := List.exists_mem_of_ne_nil _ hne
    obtain ⟨a, b, _, _, h⟩ := G.pos ho
    omega
  have nd := nodup_of_map G.nd
  have T := G.two'
  obtain ⟨lab, rep, R⟩ := rims_all T
  rw [evenCount_masks nd]
  have er : (rimsTo (hs.map (·.1)) (2 * (hs.map (·.1)).length)).1 = rims (hs.map (·.1)) := rfl
  have hpos := R.pos (by rw [cds_len]; omega)
  have hz := R.zero hpos
  have all : ∀ q, q < 2 * hs.length → q ∈ (rimsTo (hs.map (·.1)) (2 * (hs.map (·.1)).length)).2 := fun q hq => R.upto q (by rw [cds_len]; exact hq)
  have hlt := R.lt
  have hrp := R.rp
  have hdet := R.det
  have hla := R.la
  have hlb := R.lb
  have hcl := R.cl
  rw [er] at hlt hrp hpos
  clear R
  generalize hr : rims (hs.map (·.1)) = rm at hlt hrp hpos ⊢
  refine ⟨?_, hpos⟩
  rw [← masks_length (rm - 1)]
  refine Nat.le_antisymm ?_ ?_
  · refine inj_le (fun v => (List.range (rm - 1)).map fun j => pc (X hs (ls.zip v)) (rep (j + 1))) (List.Pairwise.filter _ (masks_nodup _)) (fun v _ => mem_masks (by simp)) ?_
    intro v hv w hw e
    rw [List.mem_filter] at hv hw
    have lv := masks_mem hv.1
    have lw := masks_mem hw.1
    have cv := const_of_good G hv.2
    have cw := const_of_good G hw.2
    have hrep : ∀ j, j < rm → pc (X hs (ls.zip v)) (rep j) = pc (X hs (ls.zip w)) (rep j) := fun j hj => by
      match j with
      | 0 =>
        rw [hz]
        show X hs (ls.zip v) 0 = X hs (ls.zip w) 0
        rw [X_zero, X_zero]
      | j + 1 => exact List.map_inj_left.mp e j (List.mem_range.mpr (by omega))
    have hX : ∀ k, k ≤ hs.length → X hs (ls.zip v) k = X hs (ls.zip w) k := fun k hk => by
      rcases Nat.lt_or_eq_of_le hk with h | h
      · have m := all (2 * k) (by omega)
        have e1 := hdet _ cv _ m
        have e2 := hdet _ cw _ m
        rw [hrep _ (hlt _ m), ← e2] at e1
        unfold pc at e1
        rwa [show (2 * k + 1) / 2 = k by omega] at e1
      · rw [h, X_last G, X_last G]
    refine List.ext_getElem (by omega) fun i h1 h2 => ?_
    have hi : i < ls.length := by omega
    have ho : ls[i] ∈ ls := List.getElem_mem hi
    obtain ⟨a, b, p1, p2, p3⟩ := G.pos ho
    have ha := (posOf_mem.mp (show a ∈ posOf hs ls[i] by rw [p1]; simp)).2
    have s1 := S_get nd lv i ls[i] v[i] (List.getElem?_eq_getElem hi) (List.getElem?_eq_getElem h1)
    have s2 := S_get nd lw i ls[i] w[i] (List.getElem?_eq_getElem hi) (List.getElem?_eq_getElem h2)
    have x1 := X_succ G (v := v) ho ha
    have x2 := X_succ G (v := w) ho ha
    rw [s1] at x1
    rw [s2] at x2
    rw [hX (a + 1) (by omega), hX a (by omega), x2] at x1
    generalize X hs (ls.zip w) a = z at x1
    cases z <;> simpa using x1.symm
  · have hy : ∀ bits, Const (hs.map (·.1)) (fun q => bitAt bits (lab q)) := fun bits q hq => by
      have m := all q (by rw [cds_len] at hq; exact hq)
      dsimp only
      rw [hla q m, hlb q m]
      exact ⟨rfl, rfl⟩
    have hl0 : lab 0 = 0 := by have := (hrp 0 hpos).2; rwa [hz] at this
    have h0 : ∀ bits, (fun q => bitAt bits (lab q)) 0 = false := fun bits => by dsimp only; rw [hl0]; rfl
    refine inj_le (fun bits => maskOf hs ls fun q => bitAt bits (lab q)) (masks_nodup _) (fun bits _ => List.mem_filter.mpr ⟨mem_masks (by unfold maskOf; rw [List.length_map]), good_maskOf G (hy bits) (h0 bits)⟩) ?_
    intro u hu w hw e
    have lu := masks_mem hu
    have lw := masks_mem hw
    have hev : ∀ k, k < hs.length → bitAt u (lab (2 * k)) = bitAt w (lab (2 * k)) := fun k hk => by
      have e1 := X_maskOf G (hy u) (h0 u) k (by omega)
      have e2 := X_maskOf G (hy w) (h0 w) k (by omega)
      rw [if_pos hk] at e1 e2
      rw [e, e2] at e1
      exact e1.symm
    have hall : ∀ q, q < 2 * hs.length → bitAt u (lab q) = bitAt w (lab q) := fun q hq => by
      by_cases c : q % 2 = 0
      · have := hev (q / 2) (by omega)
        rwa [show 2 * (q / 2) = q by omega] at this
      · have n1 := Const.next (hy u) (h0 u) (k := q / 2) (by omega)
        have n2 := Const.next (hy w) (h0 w) (k := q / 2) (by omega)
        rw [show 2 * (q / 2) + 1 = q by omega] at n1 n2
        (try dsimp only at n1 n2)
        rw [n1, n2]
        split
        · rename_i h; exact hev _ h
        · rfl
    refine List.ext_getElem (by omega) fun i h1 h2 => ?_
    have r := hrp (i + 1) (by omega)
    have hq := (hcl _ r.1).1
    rw [cds_len] at hq
    have := hall _ hq
    rw [r.2] at this
    unfold bitAt at this
    simpa [h1, h2] using this
end Mine.Pl
end

section
namespace Mine.Pl
theorem Good.del {c : Nat} {ls : List Nat} {hs : List (Nat × Nat)} (G : Good (c :: ls) hs) : Good ls (hs.filter fun q => lowc q.1 != lowc c) := by
  have nd := G.nd
  rw [List.map_cons, List.nodup_cons] at nd
  refine ⟨nd.2, fun o ho => ?_, fun q hq => ?_, List.Pairwise.filter _ G.inc⟩
  · have := G.two o (.tail _ ho)
    unfold endsOf at this ⊢
    rw [List.filter_filter]
    rw [← this]
    congr 1
    refine List.filter_congr fun q _ => ?_
    have hne : lowc o ≠ lowc c := fun e => nd.1 (List.mem_map.mpr ⟨o, ho, e⟩)
    by_cases e : lowc q.1 = lowc o
    · simp [e, hne]
    · simp [e]
  · rw [List.mem_filter] at hq
    obtain ⟨o, ho, e⟩ := G.all q hq.1
    rcases List.mem_cons.mp ho with rfl | ho
    · have := hq.2
      rw [e] at this
      simp at this
    · exact ⟨o, ho, e⟩
theorem Good.stays : ∀ {ls : List Nat} {hs : List (Nat × Nat)}, Good ls hs → Stays ls hs
  | [], hs, G => by
    show hs = []
    cases hs with
    | nil => rfl
    | cons q _ =>
      obtain ⟨o, ho, _⟩ := G.all q (.head _)
      cases ho
  | c :: ls, hs, G => by
    have ct := count G (by simp)
    refine ⟨fun d hd => ?_, fun h hh => ?_, ct.1, ct.2, Good.stays G.del⟩
    · obtain ⟨a, b, h1, h2, h3⟩ := G.pos hd
      exact ⟨_, _, (ends_eq h1).2.2.2, pl_lt G h2 h3⟩
    · obtain ⟨k, e⟩ := G.two' h hh
      rw [e]; simp
theorem insAt_filter {p : Nat → Bool} (l : List Nat) (i a : Nat) : ((insAt l i a).filter p).length = (l.filter p).length + (if p a = true then 1 else 0) := by
  unfold insAt
  rw [List.filter_append, List.length_append]
  have : (l.filter p).length = ((l.take i).filter p).length + ((l.drop i).filter p).length := by
    rw [← List.length_append, ← List.filter_append, List.take_append_drop]
  rw [this, List.filter_cons]
  split <;> simp <;> omega
theorem low_code {k : Nat} (hk : k < 5) (x : Int) : lowc (97 + (k : Int) - 32 * x.fmod 2).toNat = 97 + k := by
  have h0 : 0 ≤ x.fmod 2 := Int.fmod_nonneg_of_pos _ (by decide)
  have h1 : x.fmod 2 < 2 := Int.fmod_lt_of_pos _ (by decide)
  generalize x.fmod 2 = y at h0 h1
  unfold lowc
  have : y = 0 ∨ y = 1 := by omega
  rcases this with rfl | rfl
  · rw [if_neg (by omega)]; omega
  · rw [if_pos (by omega)]; omega
theorem wordTo_succ' (ns : List Int) (k : Nat) : wordTo ns (k + 1) = wordStep ns (wordTo ns k) k := by
  unfold wordTo
  rw [List.range_succ, List.foldl_append]; rfl
theorem word_count (ns : List Int) (k : Nat) : ∀ i, i ≤ 5 → ((wordTo ns i).filter fun c => lowc c == 97 + k).length = if k < i then 2 else 0
  | 0, _ => rfl
  | i + 1, h => by
    rw [wordTo_succ']
    unfold wordStep
    rw [insAt_filter, insAt_filter, word_count ns k i (by omega), low_code (by omega), low_code (by omega)]
    by_cases e : i = k
    · subst e
      simp
    · have e1 : (97 + i == 97 + k) = false := by simp; exact e
      rw [e1]
      simp only [Bool.false_eq_true, if_false, Nat.add_zero]
      by_cases e2 : k < i
      · rw [if_pos e2, if_pos (by omega)]
      · rw [if_neg e2, if_neg (by omega)]
theorem mem_ins {l : List Nat} {i a c : Nat} (h : c ∈ insAt l i a) : c = a ∨ c ∈ l := by
  unfold insAt at h
  rcases List.mem_append.mp h with h | h
  · exact .inr (List.mem_of_mem_take h)
  · rcases List.mem_cons.mp h with h | h
    · exact .inl h
    · exact .inr (List.mem_of_mem_drop h)
theorem word_low (ns : List Int) : ∀ i, i ≤ 5 → ∀ c ∈ wordTo ns i, ∃ k, k < i ∧ lowc c = 97 + k
  | 0, _, c, h => by cases h
  | i + 1, hi, c, h => by
    rw [wordTo_succ'] at h
    unfold wordStep at h
    rcases mem_ins h with rfl | h
    · exact ⟨i, Nat.lt_succ_self i, low_code (by omega) _⟩
    · rcases mem_ins h with rfl | h
      · exact ⟨i, Nat.lt_succ_self i, low_code (by omega) _⟩
      · obtain ⟨k, a, b⟩ := word_low ns i (by omega) c h
        exact ⟨k, by omega, b⟩
theorem word_len (ns : List Int) : ∀ i, (wordTo ns i).length = 2 * i
  | 0 => rfl
  | i + 1 => by
    have hl : ∀ (l : List Nat) (j a : Nat), (insAt l j a).length = l.length + 1 := fun l j a => by
      unfold insAt
      rw [List.length_append, List.length_cons, List.length_take, List.length_drop]; omega
    rw [wordTo_succ']
    unfold wordStep
    rw [hl, hl, word_len ns i]; omega
theorem plainLaw (ns : List Int) : Stays [97, 66, 99, 68, 101] (hsTo (wordTo ns 5) 10) := by
  refine Good.stays ⟨by decide, fun o ho => ?_, fun q hq => ?_, ?_⟩
  · have hc := hsTo_codes (word_len ns 5)
    have e : (endsOf (hsTo (wordTo ns 5) 10) o).length = ((wordTo ns 5).filter fun c => lowc c == lowc o).length := by
      conv => rhs; rw [← hc]
      rw [List.filter_map, List.length_map]
      rfl
    have ho2 : ∃ k, k < 5 ∧ lowc o = 97 + k := by
      simp only [List.mem_cons, List.not_mem_nil, or_false] at ho
      rcases ho with rfl | rfl | rfl | rfl | rfl
      · exact ⟨0, by decide, by decide⟩
      · exact ⟨1, by decide, by decide⟩
      · exact ⟨2, by decide, by decide⟩
      · exact ⟨3, by decide, by decide⟩
      · exact ⟨4, by decide, by decide⟩
    obtain ⟨k, hk, e2⟩ := ho2
    rw [e, e2, word_count ns k 5 (Nat.le_refl _), if_pos hk]
  · have hc := hsTo_codes (word_len ns 5)
    have hm : q.1 ∈ wordTo ns 5 := by rw [← hc]; exact List.mem_map.mpr ⟨q, hq, rfl⟩
    obtain ⟨k, hk, e⟩ := word_low ns 5 (Nat.le_refl _) _ hm
    rw [e]
    match k, hk with
    | 0, _ => exact ⟨97, by simp, by decide⟩
    | 1, _ => exact ⟨66, by simp, by decide⟩
    | 2, _ => exact ⟨99, by simp, by decide⟩
    | 3, _ => exact ⟨68, by simp, by decide⟩
    | 4, _ => exact ⟨101, by simp, by decide⟩
  · unfold hsTo
    rw [List.pairwise_map]
    exact List.pairwise_lt_range
end Mine.Pl
end

section
open PySem PySem.W PySem.Calls PyProof.Rows PySem.Spec Mine

section
open PySem PySem.W PySem.Calls PyProof.Rows
set_option maxRecDepth 100000
set_option maxHeartbeats 8000000
namespace Mine
local macro_rules | `(tactic| ktr_enter) => `(tactic| (
  refine' enterP ?k1 ?k2 ?k3 ?k4 ?kA ?kF ?kK ?k6 ?k7 ?k8 ?k9 ?kB ?_ ?c2 ?c3 ?c4 ?c5; (case kA | kF => exact rfl); (case kK => assumption); (case k1 | k2 | k3 | k4 => k_asm); (case k6 | k7 => k_is); (case k8 => ktr_room); (case k9 => exact fun _ => rfl); (case c5 => decide); (case kB => exact locs rfl); (case c2 | c3 | c4 => exact rfl); k_whole; intro L' h' F' N' B' X' T'; (try dsimp only); (try k_fold)))
local macro_rules | `(tactic| walk_at "call builtin:re.Pattern.search") => `(tactic| (k_here; k_dflt (refine' call_search ?k1 ?k2 ?k3 ?_; (case k1 => k_in); (case k2 => assumption); (case k3 => decide); k_whole)))
local macro_rules | `(tactic| walk_at "getMethod ref") => `(tactic| (k_here; (with_reducible show wpAny _ _ (getMethod _ (Str.ofString "search") _) _ _ _); k_dflt (refine' getMethod_search ?k1 ?k2 ?_; (case k1 => k_in); (case k2 => decide); k_whole)))

theorem convT {w : World} {A : Around} {s : Shared} {E : Value → Shared → Prop} {c : Nat} {t : Tok} {self : Value} (b : Bool)
    (cx : Cx w A s.heap) (hd : A.depth + 10 < recursionLimit) (hu : A.units + 100 < cLine) (hc : okCode c = true) :
    wpAny (model PySem.Challenge.rw_pm0057_01.row.toRowW.prog w) A (call (.ref 83) [self, .str (T1 c) t] [("name", .bool b)]) (Fin1 (fun v _ => v = .str (T1 c) t) s) E s := by
  obtain ⟨dp, un, gd, cn, cs, L, a, ccd, cl, outer, A₀, base, h₀, m, mean, mg, mb, rfl, B, F, X, T, hk⟩ := cx.is
  clear cx
  revert X; k_fill; intro X
  refine wpAny_call ?_
  k_dflt ktr_enter
  k_steps
  all_goals (try dsimp only)
  all_goals (k_unfold; dsimp only; exact Fin1.mk (by assumption) rfl rfl)
end Mine
end

local macro_rules | `(tactic| walk_at "call builtin:str.lower") => `(tactic| (k_here; k_dflt (refine' call_lower ?k1 ?_; (case k1 => assumption); k_whole); intro t' tk' hl'))
local macro_rules | `(tactic| k_inst) => `(tactic| exact InstAt.mono (by assumption) (Fr.keep (by k_asm)))
local macro_rules | `(tactic| walk_at "call ref") => `(tactic| (k_here; k_dflt (refine' Fin1.use (convT _ (Cx.of ?k1 ?k2 ?k3 ?k4 ?k5) ?kd ?ku ?kc) ?kF ?kN ?kE ?_; (case k1 | k2 | k3 | k4 => k_asm); (case k5 => first | exact rfl | assumption); (case kd => ktr_room); (case ku => ktr_units); (case kc => assumption); (case kF | kN => k_asm); (case kE => exact fun _ _ h => h); k_whole; intro v9 h9 tk9 R9 F9 N9 K9; subst R9; (try dsimp only); (try k_fold))))
section
open PySem PySem.W PySem.Calls PyProof.Rows Mine
set_option maxRecDepth 100000
set_option maxHeartbeats 8000000
namespace Mine
local macro_rules | `(tactic| walk_at "none at all") => `(tactic| fail)
local macro_rules | `(tactic| ktr_call $b:term $c:term) => `(tactic| (
  refine' enterPC (binds := $b) ?k1 ?k2 ?k3 ?k4 ?kA ?kF ?kK ?k6 ?k7 ?k8 ?k9 ?kB ?kD ?_ ?c2 ?c3 ?c4; (case kA | kF => exact rfl); (case kK => assumption); (case k1 | k2 | k3 | k4 => k_asm); (case k6 | k7 => k_is); (case k8 => ktr_room); (case k9 => exact fun _ => rfl); (case kB => exact rfl); (case kD => decide +kernel); (case c2 | c3 | c4 => exact rfl); k_whole; intro L' h' tk' cells' F' N' Y' B' X' T'; k_cells Y'; (try simp only [List.cons_append, List.nil_append] at N'); (try dsimp only); (try k_fold)))
local macro_rules | `(tactic| k_steps) => `(tactic| repeat' (first | (k_unfold; (try dsimp only)) | ((fail_if_success (with_reducible show wpAny _ _ (eval (Expr.ListComp _ _ _ _) _) _ _ _)); (fail_if_success (with_reducible show LcAt _ _ _ _ _ _ _ _ _ _ _ _)); first | (k_end; wrow_close) | walk1 | (dsimp only; walk1) | (leave1; walk_say "STEP leave1"; try dsimp only)) | fail "no step"))

theorem getAll {w : World} {A : Around} {s : Shared} {E : Value → Shared → Prop} {c : Nat} {t : Tok} {x dx hl n : Nat} {its : List Value} {hs : List (Nat × Nat)}
    (cx : Cx w A s.heap) (hd : A.depth + 20 < recursionLimit) (hu : A.units + 200 < cLine) (hc : okCode c = true)
    (H : Hdr s.heap x dx hl its n) (hp : Paired (PairAt s.heap) its hs) (hok : ∀ q ∈ hs, okCode q.1 = true ∧ q.2 < 10) (hlen : its.length ≤ 1000) :
    wpAny (model PySem.Challenge.rw_pm0057_01.row.toRowW.prog w) A (call (.ref 121) [.ref x, .str (T1 c) t])
      (Fin1 (NewL s.heap (Paired (fun q y => ∃ tk, y = Value.str (T1 (48 + q.2)) tk) (hs.filter fun q => lowc q.1 == lowc c))) s) E s := by
  obtain ⟨dp, un, gd, cn, cs, L, a, ccd, cl, outer, A₀, base, h₀, m, mean, mg, mb, rfl, B, F, X, T, hk⟩ := cx.is
  clear cx
  obtain ⟨hsh, tki, k, I⟩ := H.inst
  revert X; k_fill; intro X
  refine wpAny_call ?_
  k_dflt (ktr_call ([(Str.ofString "self", Value.ref x), (Str.ofString "name", Value.str (T1 c) t)]) ())
  k_steps
  refine' lcL ?hh ?hclos ?hcell ?hkind ?hnames ?hx ?hs ?h
  case hh => exact rfl
  case hclos => with_unfolding_all rfl
  case hcell => decide
  case hkind => with_unfolding_all rfl
  case hnames => decide
  case hx => with_unfolding_all rfl
  case hs => intro _; with_unfolding_all rfl
  k_steps
  rename_i F8 N8 d8
  classical
  refine ⟨hl, its, fun v => decide (∃ q, PairAt s.heap v q ∧ lowc q.1 = lowc c), fun v y => ∃ q, PairAt s.heap v q ∧ ∃ tk, y = Value.str (T1 (48 + q.2)) tk, rfl, ?_, ?_, ?_, ?_, ?_⟩
  · exact ⟨_, F8.keep _ _ H.list, rfl, _, rfl⟩
  · exact small_line hlen
  · intro C v s₂ m₂ E' hv hn hm hk2
    obtain ⟨q, hq, hpq⟩ := Paired.memL hp v hv
    have hpq2 := (hpq.keeps F8.keep).keeps hk2
    have hcq := (hok q hq).1
    have F9 := F8.keeps hk2
    have N9 := N8.grown hk2
    have hval : (decide (∃ q, PairAt s.heap v q ∧ lowc q.1 = lowc c)) = decide (lowc q.1 = lowc c) := by
      rw [Bool.eq_iff_iff, decide_eq_true_eq, decide_eq_true_eq]
      exact ⟨fun ⟨q', h1, h2⟩ => (h1.inj hpq) ▸ h2, fun e => ⟨q, hpq, e⟩⟩
    (try dsimp only)
    rw [hval]
    clear hval
    obtain ⟨t', tk1, tk2, rfl, hT⟩ := hpq2
    k_steps
    exact Fin1.of (fun _ _ e => e) (by
      rw [Bool.eq_iff_iff]; simp)
  · intro C v s₂ m₂ E' hv hpv hn hm hk2
    obtain ⟨q, hq, hpq⟩ := Paired.memL hp v hv
    have hpq2 := (hpq.keeps F8.keep).keeps hk2
    have F9 := F8.keeps hk2
    have N9 := N8.grown hk2
    obtain ⟨t', tk1, tk2, rfl, hT⟩ := hpq2
    k_steps
    exact Fin1.of (fun _ _ e => e) ⟨q, hpq, _, rfl⟩
  · intro D ys k' h' tk hD hys hP hk3
    (try dsimp only)
    refine Fin1.of (fun b o e => hk3 b o (F8.keep b o e)) ⟨D, ys, k', rfl, notIn_of F8.keep hD, hys, ?_⟩
    refine Paired.filt hp (fun v q hq hr => ?_) (fun v q y hq hr hf => ?_) hP
    · rw [Bool.eq_iff_iff, decide_eq_true_eq, beq_iff_eq]
      exact ⟨fun ⟨q', h1, h2⟩ => (h1.inj hr) ▸ h2, fun e => ⟨q, hr, e⟩⟩
    · obtain ⟨q', h1, h2⟩ := hf
      exact (h1.inj hr) ▸ h2
end Mine
end

section
open PySem PySem.W PySem.Calls PyProof.Rows Mine
set_option maxRecDepth 100000
set_option maxHeartbeats 8000000
namespace Mine
local macro_rules | `(tactic| walk_at "none at all") => `(tactic| fail)
local macro_rules | `(tactic| walk_at "none at all") => `(tactic| fail)

local macro_rules | `(tactic| k_steps) => `(tactic| repeat' (first | (k_unfold; (try dsimp only)) | ((fail_if_success (with_reducible show wpAny _ _ (eval (Expr.ListComp _ _ _ _) _) _ _ _)); (fail_if_success (with_reducible show LcAt _ _ _ _ _ _ _ _ _ _ _ _)); (fail_if_success (with_reducible show LgAt _ _ _ _ _ _ _ _ _ _ _)); first | (k_end; wrow_close) | walk1 | (dsimp only; walk1) | (leave1; walk_say "STEP leave1"; try dsimp only)) | fail "no step"))
local macro_rules | `(tactic| ktr_call $b:term $c:term) => `(tactic| first
  | (refine' enterP (binds := $b) ?k1 ?k2 ?k3 ?k4 ?kA ?kF ?kK ?k6 ?k7 ?k8 ?k9 ?kB ?_ ?c2 ?c3 ?c4 ?c5; (case kA | kF => exact rfl); (case kK => assumption); (case k1 | k2 | k3 | k4 => k_asm); (case k6 | k7 => k_is); (case k8 => ktr_room); (case k9 => exact fun _ => rfl); (case c5 => decide); (case kB => exact locs rfl); (case c2 | c3 | c4 => exact rfl); k_whole; intro L' h' F' N' B' X' T'; (try dsimp only); (try k_fold))
  | (refine' enterPC (binds := $b) ?k1 ?k2 ?k3 ?k4 ?kA ?kF ?kK ?k6 ?k7 ?k8 ?k9 ?kB ?kD ?_ ?c2 ?c3 ?c4; (case kA | kF => exact rfl); (case kK => assumption); (case k1 | k2 | k3 | k4 => k_asm); (case k6 | k7 => k_is); (case k8 => ktr_room); (case k9 => exact fun _ => rfl); (case kB => exact rfl); (case kD => decide +kernel); (case c2 | c3 | c4 => exact rfl); k_whole; intro L' h' tk' cells' F' N' Y' B' X' T'; k_cells Y'; (try simp only [List.cons_append, List.nil_append] at N'); (try dsimp only); (try k_fold)))

theorem keysL {w : World} {A : Around} {s : Shared} {E : Value → Shared → Prop} {x dx hl n : Nat} {its : List Value} {hs : List (Nat × Nat)}
    (cx : Cx w A s.heap) (hd : A.depth + 20 < recursionLimit) (hu : A.units + 200 < cLine)
    (H : Hdr s.heap x dx hl its n) (hp : Paired (PairAt s.heap) its hs) (hlen : its.length ≤ 1000) :
    wpAny (model PySem.Challenge.rw_pm0057_01.row.toRowW.prog w) A (call (.ref 134) [.ref x])
      (Fin1 (NewL s.heap (Paired (fun q y => ∃ tk, y = Value.str (T1 q.1) tk) hs)) s) E s := by
  obtain ⟨dp, un, gd, cn, cs, L, a, ccd, cl, outer, A₀, base, h₀, m, mean, mg, mb, rfl, B, F, X, T, hk⟩ := cx.is
  clear cx
  obtain ⟨hsh, tki, k, I⟩ := H.inst
  revert X; k_fill; intro X
  refine wpAny_call ?_
  k_dflt (ktr_call ([(Str.ofString "self", Value.ref x)]) ())
  k_steps
  refine' lcGen ?hh ?hclos ?hcell ?hkind ?hnames ?hs ?h
  case hh => exact rfl
  case hclos => with_unfolding_all rfl
  case hcell => decide
  case hkind => with_unfolding_all rfl
  case hnames => decide
  case hs => intro _; with_unfolding_all rfl
  k_steps
  (with_reducible rename Fr s.heap _ _ _ => F8)
  (with_reducible rename News s.heap _ _ _ => N8)
  refine ⟨hl, its, fun _ _ v y => ∃ q, PairAt s.heap v q ∧ ∃ tk, y = Value.str (T1 q.1) tk, rfl, ?_, ?_, ?_, ?_, ?_, ?_⟩
  · exact ⟨_, F8.keep _ _ H.list, rfl, _, rfl⟩
  · exact small_line hlen
  · exact fun _ _ _ _ _ g _ => g
  · intro v hv I l i s Q E hit hQ
    obtain ⟨q, hq, hpq⟩ := Paired.memL hp v hv
    obtain ⟨t', tk1, tk2, rfl, hT⟩ := hpq
    exact wpAny_letOwnedTupleGo_listiter hit hQ
  · intro C I' D v s₂ m₂ E' hv hn hk2 _ _ hCD hCI hC
    obtain ⟨q, hq, hpq⟩ := Paired.memL hp v hv
    have hpq2 := (hpq.keeps F8.keep).keeps hk2
    have F9 := F8.keeps hk2
    have N9 := N8.grown hk2
    obtain ⟨t', tk1, tk2, rfl, hT⟩ := hpq2
    refine kcp_assign rfl hT rfl rfl rfl hn fun h' tk hn' hk' => ?_
    refine ldVarK hn' (v := Value.str (T1 q.1) tk1) rfl ?_
    exact ⟨h', tk, _, rfl, hn', hk', q, hpq, _, rfl⟩
  · intro X D ys k' h' tk hD hys hP hk3
    (try dsimp only)
    refine Fin1.of (fun b o e => hk3 b o (F8.keep b o e)) ⟨D, ys, k', rfl, notIn_of F8.keep hD, hys, ?_⟩
    exact Paired.conv hp (fun v q y hq hr hf => by
      obtain ⟨q', h1, h2⟩ := hf
      exact (h1.inj hr) ▸ h2) hP
end Mine
end

section
open PySem PySem.W PySem.Calls PyProof.Rows Mine
set_option maxRecDepth 100000
set_option maxHeartbeats 8000000
namespace Mine
local macro_rules | `(tactic| walk_at "none at all") => `(tactic| fail)
local macro_rules | `(tactic| walk_at "none at all") => `(tactic| fail)
local macro_rules | `(tactic| walk_at "none at all") => `(tactic| fail)

local macro_rules | `(tactic| k_steps) => `(tactic| repeat' (first | (k_unfold; (try dsimp only)) | ((fail_if_success (with_reducible show wpAny _ _ (eval (Expr.ListComp _ _ _ _) _) _ _ _)); (fail_if_success (with_reducible show LcAt _ _ _ _ _ _ _ _ _ _ _ _)); (fail_if_success (with_reducible show LgAt _ _ _ _ _ _ _ _ _ _ _)); first | (k_end; wrow_close) | walk1 | (dsimp only; walk1) | (leave1; walk_say "STEP leave1"; try dsimp only)) | fail "no step"))
local macro_rules | `(tactic| ktr_call $b:term $c:term) => `(tactic| first
  | (refine' enterP (binds := $b) ?k1 ?k2 ?k3 ?k4 ?kA ?kF ?kK ?k6 ?k7 ?k8 ?k9 ?kB ?_ ?c2 ?c3 ?c4 ?c5; (case kA | kF => exact rfl); (case kK => assumption); (case k1 | k2 | k3 | k4 => k_asm); (case k6 | k7 => k_is); (case k8 => ktr_room); (case k9 => exact fun _ => rfl); (case c5 => decide); (case kB => exact locs rfl); (case c2 | c3 | c4 => exact rfl); k_whole; intro L' h' F' N' B' X' T'; (try dsimp only); (try k_fold))
  | (refine' enterPC (binds := $b) ?k1 ?k2 ?k3 ?k4 ?kA ?kF ?kK ?k6 ?k7 ?k8 ?k9 ?kB ?kD ?_ ?c2 ?c3 ?c4; (case kA | kF => exact rfl); (case kK => assumption); (case k1 | k2 | k3 | k4 => k_asm); (case k6 | k7 => k_is); (case k8 => ktr_room); (case k9 => exact fun _ => rfl); (case kB => exact rfl); (case kD => decide +kernel); (case c2 | c3 | c4 => exact rfl); k_whole; intro L' h' tk' cells' F' N' Y' B' X' T'; k_cells Y'; (try simp only [List.cons_append, List.nil_append] at N'); (try dsimp only); (try k_fold)))

local macro_rules | `(tactic| ktr_call $b:term $c:term) => `(tactic| first
  | (refine' enterM (binds := $b) ?k1 ?k2 ?k3 ?k4 ?kN ?kA ?kF ?kK ?k6 ?k7 ?k8 ?k9 ?kB ?_ ?c2 ?c3 ?c4 ?c5; (case kA | kF => exact rfl); (case kK => assumption); (case k1 | k2 | k3 | k4 | kN => k_asm); (case k6 | k7 => k_is); (case k8 => ktr_room); (case k9 => exact fun _ => rfl); (case c5 => decide); (case kB => exact locs rfl); (case c2 | c3 | c4 => exact rfl); k_whole; intro L' h' F' N' B' X' T' l1; (try dsimp only); (try k_fold))
  | (refine' enterMC (binds := $b) ?k1 ?k2 ?k3 ?k4 ?kN ?kA ?kF ?kK ?k6 ?k7 ?k8 ?k9 ?kB ?kD ?_ ?c2 ?c3 ?c4; (case kA | kF => exact rfl); (case kK => assumption); (case k1 | k2 | k3 | k4 | kN => k_asm); (case k6 | k7 => k_is); (case k8 => ktr_room); (case k9 => exact fun _ => rfl); (case kB => exact rfl); (case kD => decide +kernel); (case c2 | c3 | c4 => exact rfl); k_whole; intro L' h' tk' cells' F' N' Y' B' X' T' l1; k_cells Y'; (try simp only [List.cons_append, List.nil_append] at N'); (try dsimp only); (try k_fold)))


theorem Hdr.apart {h : Heap} {x dx hl n : Nat} {its : List Value} (H : Hdr h x dx hl its n) : ∃ hsh tk k, InstAt (hideAll h [hl]) x (instObj 182 dx) 182 (some (dictOf [⟨hsh, .str (Str.ofString "_headers") tk, .ref hl⟩] k)) := by
  obtain ⟨hsh, tk, k, I⟩ := H.inst
  refine ⟨hsh, tk, k, hide1_get I.at_ ?_, I.cls, I.no, hide1_get I.dict ?_⟩
  · rintro rfl
    have := I.at_
    rw [H.list] at this; cases this
  · rintro rfl
    have := I.dict
    dsimp only at this
    rw [H.list] at this; simp at this
theorem PairAt.apart {h : Heap} {v : Value} {q : Nat × Nat} {hl n : Nat} {its : List Value} (H : h.get? hl = some (listOf its.toArray n)) (p : PairAt h v q) : PairAt (hideAll h [hl]) v q := by
  obtain ⟨t, tk, tk', e, o, ho, hc, r⟩ := p
  refine ⟨t, tk, tk', e, o, hide1_get ho ?_, hc, r⟩
  rintro rfl
  rw [H] at ho; cases ho; simp at hc

theorem delItem {w : World} {A : Around} {s : Shared} {E : Value → Shared → Prop} {c : Nat} {t : Tok} {x dx hl n : Nat} {its : List Value} {hs : List (Nat × Nat)}
    (cx : CxM w A s.heap hl) (hd : A.depth + 20 < recursionLimit) (hu : A.units + 200 < cLine) (hc : okCode c = true)
    (H : Hdr s.heap x dx hl its n) (hp : Paired (PairAt s.heap) its hs) (hok : ∀ q ∈ hs, okCode q.1 = true ∧ q.2 < 10) (hlen : its.length ≤ 1000) :
    wpAny (model PySem.Challenge.rw_pm0057_01.row.toRowW.prog w) A (call (.ref 102) [.ref x, .str (T1 c) t])
      (Fin2 hl (fun v o h => ∃ its' n', o = listOf its'.toArray n' ∧ Paired (PairAt h) its' (hs.filter fun q => lowc q.1 != lowc c)) s) E s := by
  obtain ⟨dp, un, gd, cn, cs, L, a, ccd, cl, outer, A₀, base, h₀, m, mean, mg, mb, rfl, B, F, X, T, hk, hq, hL⟩ := cx.is
  clear cx
  obtain ⟨hsh, tki, k, I⟩ := H.apart
  have N : News h₀ L s.heap [(hl, listOf its.toArray n)] := fun p hp => by
    rw [List.mem_singleton.mp hp]
    exact ⟨H.list, hL, hq⟩
  revert X; k_fill; intro X
  refine wpAny_call ?_
  k_dflt (ktr_call ([(Str.ofString "self", Value.ref x), (Str.ofString "name", Value.str (T1 c) t)]) ())
  k_steps
  refine' lcL ?hh ?hclos ?hcell ?hkind ?hnames ?hx ?hs ?h
  case hh => exact rfl
  case hclos => with_unfolding_all rfl
  case hcell => decide
  case hkind => with_unfolding_all rfl
  case hnames => decide
  case hx => with_unfolding_all rfl
  case hs => intro _; with_unfolding_all rfl
  k_steps
  (with_reducible rename Fr (hideAll s.heap [hl]) _ _ _ => F8)
  (with_reducible rename News (hideAll s.heap [hl]) _ _ _ => N8)
  (with_reducible rename _ = Data.cell (some _) => d8)
  classical
  have hp' : Paired (PairAt (hideAll s.heap [hl])) its hs := Paired.imp hp fun v q _ _ p => p.apart H.list
  refine ⟨hl, its, fun v => decide (∃ q, PairAt (hideAll s.heap [hl]) v q ∧ lowc q.1 ≠ lowc c), fun v y => y = v, rfl, ?_, ?_, ?_, ?_, ?_⟩
  · exact ⟨_, (N8 (hl, listOf its.toArray n) (by simp)).1, rfl, _, rfl⟩
  · exact small_line hlen
  · intro C v s₂ m₂ E' hv hn hm hk2
    obtain ⟨q, hq, hpq⟩ := Paired.memL hp' v hv
    have hpq2 := (hpq.keeps F8.keep).keeps hk2
    have hcq := (hok q hq).1
    have F9 := F8.keeps hk2
    have N9 := N8.grown hk2
    have hval : (decide (∃ q, PairAt (hideAll s.heap [hl]) v q ∧ lowc q.1 ≠ lowc c)) = decide (lowc q.1 ≠ lowc c) := by
      rw [Bool.eq_iff_iff, decide_eq_true_eq, decide_eq_true_eq]
      exact ⟨fun ⟨q', h1, h2⟩ => (h1.inj hpq) ▸ h2, fun e => ⟨q, hpq, e⟩⟩
    (try dsimp only)
    rw [hval]
    clear hval
    obtain ⟨t', tk1, tk2, rfl, hT⟩ := hpq2
    k_steps
    exact Fin1.of (fun _ _ e => e) (by
      rw [Bool.eq_iff_iff]; simp)
  · intro C v s₂ m₂ E' hv hpv hn hm hk2
    have F9 := F8.keeps hk2
    have N9 := N8.grown hk2
    k_steps
    exact Fin1.of (fun _ _ e => e) rfl
  · intro D ys k' h' tk hD hys hP hk3
    have F9 := F8.keeps hk3
    have N9 := N8.grown hk3
    have N10 := News.addNew F8 hD hys N9
    have n1 := ne_new (N8 (hl, listOf its.toArray n) (by simp)).1 hD
    (try dsimp only)
    k_steps
    have hys2 : ys.size ≤ 1000 := by
      have e1 := hP.length
      have e2 := List.length_filter_le (fun v => decide (∃ q, PairAt (hideAll s.heap [hl]) v q ∧ lowc q.1 ≠ lowc c)) its
      have e4 : ys.toList.length = ys.size := by simp
      omega
    refine setItem_all (items := its.toArray) (ys := ys) (n := n) (Heap.get?_push_of_some _ (N9 (hl, listOf its.toArray n) (by simp)).1) (Heap.IsSliceOf.new ..) ⟨_, Heap.get?_push_of_some _ hys, rfl, _, rfl⟩ n1 (by simp; omega) ?_
    intro h2 n2 hl2 hs2
    k_steps
    refine ⟨h2, _, _, rfl, hl2, ⟨ys.toList, n2, by simp, ?_⟩, fun b o hb e => hs2.extBut b o hb (Heap.get?_push_of_some _ (F9.keep b o (hide1_get e hb)))⟩
    have kk : ∀ b o, (hideAll s.heap [hl]).get? b = some o → h2.get? b = some o := fun b o e => hs2.extBut b o (hide1_ne e) (Heap.get?_push_of_some _ (F9.keep b o e))
    refine Paired.symm' (Paired.filt hp' (F := fun v y => y = v) (G := fun q y => PairAt h2 y q) (fun v q hq hr => ?_) (fun v q y hq hr hf => by subst hf; exact hr.keeps kk) hP)
    rw [Bool.eq_iff_iff, decide_eq_true_eq, bne_iff_ne]
    exact ⟨fun ⟨q', h1, h2⟩ => (h1.inj hr) ▸ h2, fun e => ⟨q, hr, e⟩⟩
end Mine
end

local macro_rules | `(tactic| wtm_at "halt") => `(tactic| (with_reducible (first | show wpAny _ _ (eval (Expr.ListComp _ _ _ _) _) _ _ _ | show LcAt _ _ _ _ _ _ _ _ _ _ _ _ | show LgAt _ _ _ _ _ _ _ _ _ _ _ | show LcAtW _ _ _ _ _ _ _ _ _ _ _ _ | show ForAt _ _ _ _ _ _ _ _ _ | show TurnTo _ _ _ _ _ _ _ | show WTurnTo _ _ _ _ _ _ | show WTest _ _ _ _ _ _ _ _ _ _ _ | show Fin1 _ _ _ _ | show Fin2 _ _ _ _ _ | show wpAny _ _ (exec (Stmt.For _ _ (_ :: _) _ _) _) _ _ _ | show wpAny _ _ (exec (Stmt.While _ _ _ _) _) _ _ _)))
local macro_rules | `(tactic| k_steps) => `(tactic| repeat' (first | (k_unfold; (try dsimp only)) | ((fail_if_success (wtm_at "halt")); first | (k_end; wrow_close) | walk1 | (dsimp only; walk1) | (leave1; walk_say "STEP leave1"; try dsimp only)) | fail "no step"))
local macro_rules | `(tactic| ktr_call $b:term $c:ident) => `(tactic| first
  | (refine' enterP (binds := $b) ?k1 ?k2 ?k3 ?k4 ?kA ?kF ?kK ?k6 ?k7 ?k8 ?k9 ?kB ?_ ?c2 ?c3 ?c4 ?c5; (case kA | kF => exact rfl); (case kK => assumption); (case k1 | k2 | k3 | k4 => k_asm); (case k6 | k7 => k_is); (case k8 => ktr_room); (case k9 => exact fun _ => rfl); (case c5 => decide); (case kB => exact locs rfl); (case c2 | c3 | c4 => exact rfl); k_whole; intro $c:ident h' F' N' B' X' T'; (try dsimp only); (try k_fold))
  | (refine' enterPC (binds := $b) ?k1 ?k2 ?k3 ?k4 ?kA ?kF ?kK ?k6 ?k7 ?k8 ?k9 ?kB ?kD ?_ ?c2 ?c3 ?c4; (case kA | kF => exact rfl); (case kK => assumption); (case k1 | k2 | k3 | k4 => k_asm); (case k6 | k7 => k_is); (case k8 => ktr_room); (case k9 => exact fun _ => rfl); (case kB => exact rfl); (case kD => decide +kernel); (case c2 | c3 | c4 => exact rfl); k_whole; intro $c:ident h' tk' cells' F' N' Y' B' X' T'; k_cells Y'; (try simp only [List.cons_append, List.nil_append] at N'); (try dsimp only); (try k_fold)))
local macro_rules | `(tactic| walk_at "call builtin:len") => `(tactic| (k_here; k_dflt (refine' PyProof.Rows.len_list ?h ?f ?_; (case h => first | exact isL_F (by k_asm) (by assumption) | exact isL_N (by k_asm) (by k_mem)); (case f => first | (simp only [List.size_toArray]; omega) | omega); k_whole)))
local macro_rules | `(tactic| walk_at "subscriptTail Name Name ref int") => `(tactic| (k_here; (with_reducible show wpAny _ _ (subscriptTail _ _ (Value.ref _) (Value.int _ _)) _ _ _); k_dflt (refine' PyProof.Rows.item_list ?h ?h0 ?hf ?hx ?_; (case h => first | exact isL_F (by k_asm) (by assumption) | exact isL_N (by k_asm) (by k_mem)); (case h0 | hf => omega); (case hx => assumption); k_whole)))
local macro_rules | `(tactic| walk_at "subscriptTail Name Constant ref int") => `(tactic| (k_here; (with_reducible show wpAny _ _ (subscriptTail _ _ (Value.ref _) (Value.int _ _)) _ _ _); k_dflt (refine' PyProof.Rows.item_list ?h ?h0 ?hf ?hx ?_; (case h => first | exact isL_F (by k_asm) (by assumption) | exact isL_N (by k_asm) (by k_mem)); (case h0 | hf => omega); (case hx => assumption); k_whole)))
local macro_rules | `(tactic| walk_at "subscriptTail") => `(tactic| (k_here; (with_reducible show wpAny _ _ (subscriptTail _ _ (Value.ref _) (Value.int _ _)) _ _ _); k_dflt (refine' PyProof.Rows.item_list ?h ?h0 ?hf ?hx ?_; (case h => first | exact isL_F (by k_asm) (by assumption) | exact isL_N (by k_asm) (by k_mem)); (case h0 | hf => omega); (case hx => assumption); k_whole)))
local macro_rules | `(tactic| walk_at "subscriptTail ListComp") => `(tactic| (k_here; k_dflt (refine kba_turn (value' := PySem.Expr.Name (PySem.Str.ofString "_") ⟨0, 0, 0, 0⟩) (fun _ => rfl) ?_)))
section
open PySem PySem.W PySem.Calls PyProof.Rows Mine
set_option maxRecDepth 100000
set_option maxHeartbeats 8000000
namespace Mine

local macro_rules | `(tactic| wtm_at "halt") => `(tactic| (with_reducible (first | show wpAny _ _ (exec (Stmt.If _ _ _ _) _) _ _ _ | show RmIf _ _ _ _ _ _ _ _ _)))



local macro_rules | `(tactic| walk_at "compareOp NotIn int ref") => `(tactic| (k_here; k_dflt (refine' notin_arr ?hi ?hl ?_; (case hl => first | exact isL_F (by k_asm) (by assumption) | exact isL_N (by k_asm) (by k_mem)); (case hi => assumption); k_whole)))

local macro_rules | `(tactic| walk_at "call builtin:list.extend") => `(tactic| (k_here; (with_reducible show wpAny _ _ (call (Value.builtin _) [Value.ref _, Value.ref _]) _ _ _); k_dflt (refine' ext2 ?F ?N ?b ?ne ?U ?d ?_; (case F | N => k_asm); (case b => k_mem); (case U => k_upd); (case ne => simp); (case d => (simp; omega))); kl_rest))

/-- a list of signs -/
abbrev Signs (vs : List Value) (cs : List Nat) : Prop := Paired (fun v c => ∃ t, v = Value.str (T1 c) t) vs cs

inductive RmJ1 (g : Heap) (L al : Addr) (cs : List Nat) (pD pl : Addr × Obj) (m0 : Str → Option Value) (i : Nat) (h : Heap) : Prop
  | mk (m : Str → Option Value) (k2 : Nat) (vals : Array Value) (oh : Obj) (v0 : Option Value) (z1 : Fr g L h m) (z2 : News g L h [(al, listOf vals k2), pD, (L + 1 + 1, oh), pl]) (z3 : oh.data = Data.cell v0) (z4 : ∀ y, y ≠ Str.ofString "there" → y ≠ Str.ofString "point" → m y = m0 y) (z5 : Ints vals.toList ((List.range i).map (acr cs))) : RmJ1 g L al cs pD pl m0 i h
inductive RmJ2 (g : Heap) (L sl : Addr) (cs : List Nat) (rest : List (Addr × Obj)) (m1 : Str → Option Value) (i : Nat) (h : Heap) : Prop
  | mk (m : Str → Option Value) (ks : Nat) (sv : Array Value) (tr : Tok) (z1 : Fr g L h m) (z2 : News g L h ((sl, listOf sv ks) :: rest)) (z3 : ∀ y, y ≠ Str.ofString "start" → y ≠ Str.ofString "point" → y ≠ Str.ofString "rims" → m y = m1 y)
    (z4 : m (Str.ofString "rims") = some (.int ((rimsTo cs i).1 : Nat) tr)) (z5 : Ints sv.toList (rimsTo cs i).2) : RmJ2 g L sl cs rest m1 i h
inductive RmIf (g : Heap) (L : Addr) (news : List (Addr × Obj)) (m1 : Str → Option Value) (cs : List Nat) (i : Nat) (s : Shared) (fl : Flow) (s' : Shared) : Prop
  | mk (m2 : Str → Option Value) (h : Heap) (tk : Nat) (t1 t2 : Tok) (z1 : fl = .next) (z2 : s' = { s with heap := h, toks := tk }) (z3 : Fr g L h m2) (z4 : News g L h news) (z5 : ∀ y, y ≠ Str.ofString "start" → y ≠ Str.ofString "point" → y ≠ Str.ofString "rims" → m2 y = m1 y)
    (z6 : m2 (Str.ofString "start") = some (.int (i : Nat) t1)) (z7 : m2 (Str.ofString "rims") = some (.int ((rimsTo cs (i + 1)).1 : Nat) t2)) : RmIf g L news m1 cs i s fl s'
inductive RmJ3 (g : Heap) (L sl : Addr) (cs : List Nat) (pI : Addr × Obj) (rest : List (Addr × Obj)) (m2 : Str → Option Value) (i n : Nat) (h : Heap) : Prop
  | mk (m : Str → Option Value) (p : Nat) (sw : Array Value) (kw : Nat) (seen : List Nat) (tp : Tok) (z1 : Fr g L h m) (z2 : News g L h (pI :: (sl, listOf sw kw) :: rest)) (z3 : ∀ y, y ≠ Str.ofString "point" → m y = m2 y) (z4 : m (Str.ofString "point") = some (.int (p : Nat) tp)) (z5 : p < 2 * cs.length)
    (z6 : Ints sw.toList seen) (z7 : orb cs n p seen = orb cs (2 * cs.length + 1) i (rimsTo cs i).2) (z8 : cnt (2 * cs.length) seen < n) (z9 : seen.length + 2 * cnt (2 * cs.length) seen ≤ 4 * cs.length) : RmJ3 g L sl cs pI rest m2 i n h
theorem int_some {x : Int} {y : Nat} {t : Tok} (h : x = (y : Int)) : some (Value.int x t) = some (Value.int (y : Int) t) := by rw [h]
theorem rimsT {w : World} {A : Around} {s : Shared} {E : Value → Shared → Prop} {wl : Addr} {vs : List Value} {cs : List Nat}
    (cx : Cx w A s.heap) (hd : A.depth + 20 < recursionLimit) (hu : A.units + 200 < cLine)
    (hw : s.heap.IsList wl vs.toArray) (hp : Signs vs cs) (hok : ∀ c ∈ cs, okCode c = true) (hlen : vs.length ≤ 100) (hgood : ∀ h, h < cs.length → others cs h ≠ []) :
    wpAny (model PySem.Challenge.rw_pm0057_01.row.toRowW.prog w) A (call (.ref 228) [.ref wl])
      (Fin1 (fun v _ => ∃ t, v = .int ((rims cs : Nat) : Int) t) s) E s := by
  obtain ⟨dp, un, gd, cn, cs', L, a, ccd, cl, outer, A₀, base, h₀, m, mean, mg, mb, rfl, B, F, X, T, hk⟩ := cx.is
  clear cx
  revert X; k_fill; intro X
  refine wpAny_call ?_
  k_dflt (ktr_call ([(Str.ofString "word", Value.ref wl)]) Lf)
  rename_i ohere olow0 dh dl Nz0
  k_steps
  refine' lcL ?hh ?hclos ?hcell ?hkind ?hnames ?hx ?hs ?h
  case hh => exact rfl
  case hclos => with_unfolding_all rfl
  case hcell => decide
  case hkind => with_unfolding_all rfl
  case hnames => decide
  case hx => with_unfolding_all rfl
  case hs => intro _; with_unfolding_all rfl
  k_steps
  (with_reducible rename Fr s.heap _ _ _ => F8)
  (with_reducible rename News s.heap _ _ _ => N8)
  refine ⟨wl, vs, fun _ => true, fun v y => ∃ c, okCode c = true ∧ (∃ t, v = Value.str (T1 c) t) ∧ ∃ t, y = Value.str (T1 (lowc c)) t, rfl, ?_, ?_, ?_, ?_, ?_⟩
  · exact hw.at fun o e => F8.keep _ o e
  · exact small_line (by omega)
  · intro C v s₂ m₂ E' hv hn hm hk2
    have F9 := F8.keeps hk2
    have N9 := N8.grown hk2
    k_steps
    exact Fin1.of (fun _ _ e => e) rfl
  · intro C v s₂ m₂ E' hv hpv hn hm hk2
    obtain ⟨c, hc, t, rfl⟩ := Paired.memL hp v hv
    have hcc := hok c hc
    have F9 := F8.keeps hk2
    have N9 := N8.grown hk2
    k_steps
    exact Fin1.of (fun _ _ e => e) ⟨c, hcc, ⟨_, rfl⟩, _, rfl⟩
  intro D ys k' h' tk hD hys hP hk3
  have F9 := F8.keeps hk3
  have N10 := News.addNew F8 hD hys (N8.grown hk3)
  have hlow : Signs ys.toList (cs.map lowc) := by
    rw [List.filter_eq_self.mpr (fun _ _ => rfl)] at hP
    exact Paired.mapR (Paired.symmF (Paired.conv hp (fun v q y _ hr hf => by
      obtain ⟨c, _, ⟨t, e⟩, hy⟩ := hf
      obtain ⟨t', e'⟩ := hr
      rw [e] at e'
      have := (Value.str.inj e').1
      rw [T1_inj] at this
      subst this
      exact hy) hP))
  (try dsimp only)
  k_steps
  (with_reducible rename Fr s.heap _ _ _ => F1)
  (with_reducible rename News s.heap _ _ _ => N1)
  (with_reducible rename _ = Data.cell (some (Value.ref D)) => dlow)
  simp only [List.cons_append, List.nil_append] at N1
  have hys2 : ys.size = cs.length := by
    have e1 := hlow.length
    have e2 : ys.toList.length = ys.size := by simp
    simp at e1
    omega
  have hvl : vs.length = cs.length := hp.length
  refine' forW ?hs ?h
  case hs => intro _; with_unfolding_all rfl
  k_steps
  (with_reducible rename Fr s.heap _ _ _ => F2)
  (with_reducible rename News s.heap _ _ _ => N2)
  (with_reducible rename IsRange _ _ _ _ _ _ _ _ => hr)
  rename_i olow zz al h11 l1 h9 Fz Nz H6 tk5 t4 u3 v2 a1
  have q1 : @LT.lt Nat _ D al := l1 (D, listOf ys k') (by repeat (first | exact List.Mem.head _ | refine List.Mem.tail _ ?_))
  have q2 : @LT.lt Nat _ (Lf + 1 + 1) al := l1 (Lf + 1 + 1, ohere) (by repeat (first | exact List.Mem.head _ | refine List.Mem.tail _ ?_))
  have q3 : @LT.lt Nat _ (Lf + 1) al := l1 (Lf + 1, olow) (by repeat (first | exact List.Mem.head _ | refine List.Mem.tail _ ?_))
  clear Fz Nz a1 l1
  obtain ⟨m0, hm0⟩ := Fr.named F2
  refine pyIter_r (n := 2 * cs.length) hr (by simp; omega) (by omega) ?_
  have i0 : ∀ b o, H6.get? b = some o → b ∉ [H6.objs.size] := fun b o e => by simpa using Nat.ne_of_lt (Heap.lt_size e)
  have iN : ∀ p ∈ [(al, listOf #[] 0), (D, listOf ys k'), (Lf + 1 + 1, _), (Lf + 1, olow)], p.1 ∉ [H6.objs.size] := fun p hp => i0 _ _ (N2 p hp).1
  have iL : Lf ∉ [H6.objs.size] := by obtain ⟨o, _, _, e, _⟩ := F2.ns; exact i0 _ _ e
  have iG : ∀ b ∈ [H6.objs.size], s.heap.get? b = none := fun b hb => by
    cases q : s.heap.get? b with
    | none => rfl
    | some o => exact absurd hb (i0 _ _ (F2.keep _ _ q))
  simp only [List.mem_cons, List.not_mem_nil, or_false, forall_eq_or_imp, forall_eq] at iN
  obtain ⟨iN1, iN2, iN3, iN4⟩ := iN
  refine ⟨H6.objs.size, [H6.objs.size], [H6.objs.size], 2 * cs.length, _, _, fun i h => RmJ1 s.heap Lf al cs (D, listOf ys k') (Lf + 1, olow) m0 i h, rfl, walksR rfl _ _, fun v => rfl, ?st0, ?j0, ?turn, ?done⟩
  case j0 =>
    refine ⟨_, 0, #[], _, _, F2.push _, N2.grown fun b o e => Heap.get?_push_of_some _ e, dh, fun y _ _ => by rw [hm0], .nil⟩
  case st0 => simpa using Heap.get?_push_size H6 (o := rIt 0 _) rfl
  case turn =>
    intro i v h h₁ tk hi hPv hJ hk1 hst1
    refine turn_gen fun QQ hQQ => ?_
    obtain ⟨t, rfl⟩ := hPv
    obtain ⟨m, k2, vals, oh, v0, Fh, Nh, doh, hm, hv⟩ := hJ
    have F3 := Fr.keptBut Fh hk1 iG iL
    have N3 := News.keptBut (X := [H6.objs.size]) Nh hk1 (by
      simp only [List.mem_cons, List.not_mem_nil, or_false, forall_eq_or_imp, forall_eq]
      exact ⟨iN1, iN2, iN3, iN4⟩)
    have NI : News s.heap Lf h₁ ((H6.objs.size, _) :: _) := List.forall_mem_cons.mpr ⟨⟨hst1, fun e => iL (List.mem_singleton.mpr e.symm), iG _ (.head _)⟩, N3⟩
    clear Fh Nh N3 hk1
    rw [map2 hm, hm0] at F3
    dsimp only at F3
    k_steps
    (with_reducible rename Fr s.heap _ _ _ => F4)
    (with_reducible rename News s.heap _ _ _ => N4)
    (with_reducible rename _ = Data.cell (some (Value.int _ _)) => dhere)
    rw [fdiv2] at dhere
    simp only [List.cons_append, List.nil_append] at N4
    have hi2 : i / 2 < cs.length := by omega
    have hlowk : ∀ j : Nat, j < cs.length → ∃ t, ys[((j : Nat) : Int).toNat]? = some (Value.str (T1 (lowc (cs.getD j 0))) t) := fun j hj => by
      obtain ⟨v, hv1, t, rfl⟩ := Paired.get hlow j (lowc (cs.getD j 0)) (by simp [hj])
      exact ⟨t, by simpa using hv1⟩
    obtain ⟨th, hlowh⟩ := hlowk (i / 2) hi2
    refine' lcW ?hclos ?hcell ?hkind ?hnames ?hx ?hs ?h
    case hclos => with_unfolding_all rfl
    case hcell => decide
    case hkind => with_unfolding_all rfl
    case hnames => decide
    case hx => with_unfolding_all rfl
    case hs => intro _; with_unfolding_all rfl
    k_steps
    (with_reducible rename Fr s.heap _ _ _ => F5)
    (with_reducible rename News s.heap _ _ _ => N5)
    (with_reducible rename IsRange _ _ _ _ _ _ _ _ => hr5)
    refine pyIter_r (n := cs.length) hr5 (by simp; omega) (by omega) ?_
    refine ⟨_, _, _, cs.length, _, _, fun v => match v with | .int k _ => decide (k.toNat ≠ i / 2 ∧ lowc (cs.getD k.toNat 0) = lowc (cs.getD (i / 2) 0)) | _ => false, fun v y => y = v, rfl, walksRB rfl _ _, small_line (by omega), ?st5, fpPush, ?tests5, ?elts5, ?done5⟩
    case st5 => simpa using Heap.get?_push_size _ (o := rIt 0 _) rfl
    case tests5 =>
      rintro C j v s₃ m₂ E' ⟨hj, t2, rfl⟩ hn hm2 hk3
      have F9 := F5.keeps (upPush hk3)
      have N9 := N5.grown (upPush hk3)
      obtain ⟨tj, hlowj⟩ := hlowk j hj
      (try dsimp only)
      k_steps
      all_goals exact Fin1.of (fun _ _ e => e) (by
        rw [show ((j : Nat) : Int).toNat = j from rfl]
        simp_all
        try omega)
    case elts5 =>
      rintro C j v s₃ m₂ E' ⟨hj, t2, rfl⟩ hpv hn hm2 hk3
      have F9 := F5.keeps (upPush hk3)
      have N9 := N5.grown (upPush hk3)
      k_steps
      exact Fin1.of (fun _ _ e => e) rfl
    case done5 =>
      intro D2 ys2 k5 h5 tk5 vs5 hD2 hys5 hvs5 hP5 hF5 hk5
      have F9 := F5.keeps (upPush hk5)
      have N9 := News.addNew F5 (notIn_of (fun b o e => Heap.get?_push_of_some _ e) hD2) hys5 (N5.grown (upPush hk5))
      have hin5 := ints_range hvs5 (fun j v e => (hP5 j v e).2)
      have hoth : Paired (fun (n : Nat) y => ∃ t, y = Value.int (n : Int) t) (others cs (i / 2)) ys2.toList := by
        refine Paired.conv (Paired.filter2 hin5 (pz := fun k => k != i / 2 && lowc (cs.getD k 0) == lowc (cs.getD (i / 2) 0)) ?_) (fun v q y _ hr hf => ?_) hF5
        · rintro v q hq ⟨t, rfl⟩
          rw [Bool.eq_iff_iff]
          simp only [decide_eq_true_eq, Bool.and_eq_true, bne_iff_ne, beq_iff_eq, Int.toNat_natCast]
        · obtain ⟨t, rfl⟩ := hr
          exact ⟨t, hf⟩
      obtain ⟨v6, hv6, t6, rfl⟩ := Paired.get (Paired.symmF hoth) 0 _ (headD_get (hgood _ hi2))
      have hx6 : ys2[(0 : Int).toNat]? = some (Value.int ((partner cs (i / 2) : Nat) : Int) t6) := by
        rw [← Array.getElem?_toList]
        exact hv6
      have hPlt := (others_mem (partner_mem (hgood _ hi2))).1
      have hwk : ∀ j : Nat, j < cs.length → ∃ t, vs.toArray[((j : Nat) : Int).toNat]? = some (Value.str (T1 (cs.getD j 0)) t) := fun j hj => by
        obtain ⟨v, hv1, t, rfl⟩ := Paired.get hp j (cs.getD j 0) (by simp [hj])
        exact ⟨t, by simpa using hv1⟩
      obtain ⟨tw1, hw1⟩ := hwk _ hi2
      have hvs : vals.size = i := by
        have e1 := hv.length
        simpa using e1
      have q5 : @Ne Nat al H6.objs.size := iN1
      have q4 := ne_new (N5 (al, listOf vals k2) (by repeat (first | exact List.Mem.head _ | refine List.Mem.tail _ ?_))).1 (notIn_of (fun b o e => Heap.get?_push_of_some _ e) hD2)
      obtain ⟨tw2, hw2⟩ := hwk _ hPlt
      (try clear hwk); (try clear hoth); (try clear hin5); (try clear hF5); (try clear hP5); (try clear hk5); (try clear hvs5); (try clear hv6); (try clear hys5); (try clear hlowk); (try clear hlowh); (try clear N5); (try clear F5); (try clear N4); (try clear F4); (try clear F2); (try clear N2); (try clear hr5); (try clear hlow); (try clear hok); (try clear hP); (try clear hys); (try clear hD); (try clear hk3); (try clear F3); (try clear NI); (try clear F8); (try clear N8)
      (try dsimp only)
      k_steps
      (with_reducible rename Fr s.heap _ _ _ => F7)
      (with_reducible rename News s.heap _ _ _ => N7)
      refine hQQ _ _ ⟨_, _, rfl, ⟨_, _, _, _, _, F7, News.tl (News.tl (News.tl N7)), dhere, ?m7, ?i7⟩, ?f7⟩
      case m7 => exact fun y h1 h2 => by simp [h1, h2, hm0]
      case i7 =>
        rw [Array.toList_push, List.range_succ, List.map_append]
        exact Paired.snoc hv ⟨_, congrArg (Value.int · _) (acr_val cs i)⟩
      case f7 =>
        intro b hb o e
        rw [List.mem_singleton.mp hb] at e ⊢
        rw [hst1] at e
        cases e
        exact (N7 (H6.objs.size, _) (by repeat (first | exact List.Mem.head _ | refine List.Mem.tail _ ?_))).1
  case done =>
    rintro h h1 tk ⟨m, k2, vals, oh, v0, Fh, Nh, doh, hm, hv⟩ hk1
    have F3 := Fr.keptBut Fh hk1 iG iL
    have N3 := News.keptBut (X := [H6.objs.size]) Nh hk1 (by
      simp only [List.mem_cons, List.not_mem_nil, or_false, forall_eq_or_imp, forall_eq]
      exact ⟨iN1, iN2, iN3, iN4⟩)
    clear Fh Nh hk1 F2 N2 hr iN1 iN2 iN3 iN4 iL iG i0
    rw [map2 hm, hm0] at F3
    dsimp only at F3
    clear hm hm0
    have hvs : vals.size = 2 * cs.length := by
      have e1 := hv.length
      simpa using e1
    (try dsimp only)
    k_steps
    refine' forW ?hs ?h
    case hs => intro _; with_unfolding_all rfl
    k_steps
    rename_i sl h14 l1 h12 Fz Nz H9 tk8 t7 u6 v5 hr2 F5 N5 a1
    obtain ⟨q1, q2, q3, q4⟩ := l1
    clear Fz Nz a1
    obtain ⟨m1, hm1⟩ := Fr.named F5
    refine pyIter_r (n := 2 * cs.length) hr2 (by omega) (by omega) ?_
    have i0 : ∀ b o, H9.get? b = some o → b ∉ [H9.objs.size] := fun b o e => by simpa using Nat.ne_of_lt (Heap.lt_size e)
    have iN : ∀ p ∈ [(sl, listOf #[] 0), (al, listOf vals k2), (D, listOf ys k'), (Lf + 1 + 1, oh), (Lf + 1, olow)], p.1 ∉ [H9.objs.size] := fun p hp => i0 _ _ (N5 p hp).1
    have iL : Lf ∉ [H9.objs.size] := by obtain ⟨o, _, _, e, _⟩ := F5.ns; exact i0 _ _ e
    have iG : ∀ b ∈ [H9.objs.size], s.heap.get? b = none := fun b hb => by
      cases q : s.heap.get? b with
      | none => rfl
      | some o => exact absurd hb (i0 _ _ (F5.keep _ _ q))
    simp only [List.mem_cons, List.not_mem_nil, or_false, forall_eq_or_imp, forall_eq] at iN
    obtain ⟨iN0, iN1, iN2, iN3, iN4⟩ := iN
    refine ⟨H9.objs.size, [H9.objs.size], [H9.objs.size], 2 * cs.length, _, _, fun i h => RmJ2 s.heap Lf sl cs [(al, listOf vals k2), (D, listOf ys k'), (Lf + 1 + 1, oh), (Lf + 1, olow)] m1 i h, rfl, walksR rfl _ _, fun v => rfl, ?st0, ?j0, ?turn, ?done⟩
    case j0 =>
      exact ⟨_, 0, #[], _, F5.push _, N5.grown fun b o e => Heap.get?_push_of_some _ e, fun y _ _ _ => by rw [hm1], rfl, .nil⟩
    case st0 => simpa using Heap.get?_push_size H9 (o := rIt 0 _) rfl
    case turn =>
      intro i v h h₁ tk hi hPv hJ hk1 hst1
      refine turn_gen fun QQ hQQ => ?_
      obtain ⟨t, rfl⟩ := hPv
      obtain ⟨m, ks, sv, tr, Fh, Nh, hm, hmr, hv2⟩ := hJ
      have F3 := Fr.keptBut Fh hk1 iG iL
      have N3 := News.keptBut (X := [H9.objs.size]) Nh hk1 (by
        simp only [List.mem_cons, List.not_mem_nil, or_false, forall_eq_or_imp, forall_eq]
        exact ⟨iN0, iN1, iN2, iN3, iN4⟩)
      have NI : News s.heap Lf h₁ ((H9.objs.size, _) :: _) := List.forall_mem_cons.mpr ⟨⟨hst1, fun e => iL (List.mem_singleton.mpr e.symm), iG _ (.head _)⟩, N3⟩
      clear Fh Nh N3 hk1
      rw [map3 hm, hmr, hm1] at F3
      dsimp only at F3
      k_steps
      refine wpAny_mono (?ifp : wpAny _ _ _ (RmIf s.heap Lf [(H9.objs.size, rIt ((i + 1 : Nat) : Int) (((2 * cs.length : Nat) : Int) - ((i + 1 : Nat) : Int))), (sl, listOf sv ks), (al, listOf vals k2), (D, listOf ys k'), (Lf + 1 + 1, oh), (Lf + 1, olow)] m1 cs i s) _ _) (fun fl s' hfl => ?cont) (fun _ _ e => e)
      case ifp =>
        walk1
        k_steps
        all_goals
          (with_reducible rename Fr s.heap _ _ _ => F7)
          (with_reducible rename News s.heap _ _ _ => N7)
          refine ⟨_, _, _, _, _, rfl, rfl, F7, N7, fun y h1 h2 h3 => ?z1, rfl, int_some (y := (rimsTo cs (i + 1)).1) ?z2⟩
          case z1 => rw [hm1]; simp [h1, h2, h3]
          case z2 =>
            rw [rimsTo_succ]
            simp_all [rimStep]
      obtain ⟨m2, h7, tk7, t1, t2, rfl, rfl, F7, N7, hma, hmb, hmc⟩ := hfl
      rw [map3 hma, hmb, hmc, hm1] at F7
      dsimp only at F7
      clear hma hmb hmc
      k_steps
      (with_reducible rename Fr s.heap _ _ _ => F7)
      (with_reducible rename News s.heap _ _ _ => N7)
      obtain ⟨m3, hm2⟩ := Fr.named F7
      refine whileW (n₀ := 2 * cs.length + 1) (fun n h => RmJ3 s.heap Lf sl cs (H9.objs.size, rIt ((i + 1 : Nat) : Int) (((2 * cs.length : Nat) : Int) - ((i + 1 : Nat) : Int))) [(al, listOf vals k2), (D, listOf ys k'), (Lf + 1 + 1, oh), (Lf + 1, olow)] m3 i n h) ?jw ?tw
      case jw =>
        refine ⟨_, i, sv, ks, _, _, F7, N7, fun y _ => by rw [hm2], rfl, hi, hv2, rfl, Nat.lt_succ_of_le (cnt_le _ _), rimsTo_bound cs (by omega) i (by omega)⟩
      case tw =>
        rintro n hx tx ⟨m5, p, sw, kw, seen, tp, Fx, Nx, hm5, hmp, hp5, hs5, ho5, hc5, hb5⟩
        have hacr : ∃ t, vals[((p : Nat) : Int).toNat]? = some (Value.int ((acr cs p : Nat) : Int) t) := by
          obtain ⟨v, hv1, t, rfl⟩ := Paired.get hv p (acr cs p) (by simp [hp5])
          exact ⟨t, by simpa using hv1⟩
        obtain ⟨ta, hacr⟩ := hacr
        have hsz5 : sw.size = seen.length := by
          have e1 := hs5.length
          simpa using e1
        rw [map1 hm5, hmp, hm2] at Fx
        dsimp only at Fx
        clear F7 N7 hm5 hmp
        k_steps
        refine ⟨fun hb => ?_, fun hb => ?_⟩
        · have hnot : p ∉ seen := by simpa using hb
          have q0 : @Ne Nat sl H9.objs.size := by simpa using iN0
          refine body_gen fun QW hQW => ?_
          k_steps
          (with_reducible rename Fr s.heap _ _ _ => F6)
          (with_reducible rename News s.heap _ _ _ => N6)
          have hcl := cnt_lt (acr cs p) hp5 hnot
          refine hQW _ _ ⟨_, _, n - 1, rfl, by omega, _, nxt cs p, _, _, seen ++ [p, acr cs p], _, F6, News.tl N6, fun y h => ?y1, int_some (y := nxt cs p) ?y2, stepP_lt (by omega), ?y3, ?y4, by omega, ?y5⟩
          case y1 => rw [hm2]; simp [h]
          case y2 => rw [hvs]; exact nxt_val _ _ (by omega)
          case y3 => simpa [List.append_assoc] using Paired.snoc (Paired.snoc hs5 ⟨_, rfl⟩) ⟨ta, rfl⟩
          case y4 =>
            rw [← ho5]
            obtain ⟨k, rfl⟩ : ∃ k, n = k + 1 := ⟨n - 1, by omega⟩
            exact (orb_out hnot).symm
          case y5 => simp; omega
        · have hin : p ∈ seen := by simpa using hb
          k_steps
          (with_reducible rename Fr s.heap _ _ _ => F6)
          (with_reducible rename News s.heap _ _ _ => N6)
          refine hQQ _ _ ⟨_, _, rfl, ⟨_, _, _, _, F6, News.tl N6, fun y h1 h2 h3 => ?z1, rfl, ?z3⟩, ?z4⟩
          case z1 => rw [hm1]; simp [h1, h2, h3]
          case z3 =>
            rw [rimsTo_succ]
            show Ints _ (orb cs (2 * cs.length + 1) i (rimsTo cs i).2)
            rw [← ho5, orb_in hin]
            exact hs5
          case z4 =>
            intro b hb o e
            rw [List.mem_singleton.mp hb] at e ⊢
            rw [hst1] at e
            cases e
            exact (N6 (H9.objs.size, _) (by repeat (first | exact List.Mem.head _ | refine List.Mem.tail _ ?_))).1
    case done =>
      rintro h h1 tk ⟨m, ks, sv, tr, Fh, Nh, hm, hmr, hv2⟩ hk1
      have F3 := Fr.keptBut Fh hk1 iG iL
      clear Fh Nh hk1
      rw [map3 hm, hmr, hm1] at F3
      dsimp only at F3
      (try dsimp only)
      k_steps
      exact Fin1.of (fun _ _ e => F3.keep _ _ e) ⟨_, rfl⟩
end Mine
end

section
open PySem PySem.W PySem.Calls PyProof.Rows Mine
set_option maxRecDepth 100000
set_option maxHeartbeats 1000000
namespace Mine
local macro_rules | `(tactic| walk_at "none at all") => `(tactic| fail)

section
variable {prog : Program} {w : World} {A : Around} {E : Value → Shared → Prop} {s : Shared} {h₀ : Heap} {L D : Addr} {m : Str → Option Value} {news news' : List (Addr × Obj)} {its : Array Value} {n : Nat}
theorem app2 {x : Value} {Q : Value → Shared → Prop} (F : Fr h₀ L s.heap m) (N : News h₀ L s.heap news)
    (U : Upd D (listOf its n) (listOf (its.push x) (n + 1)) news news') (hd : its.size ≤ 5000)
    (h : ∀ h', Fr h₀ L h' m → News h₀ L h' news' → Q .none { s with heap := h' }) : wpAny (model prog w) A (call (.builtin "list.append") [.ref D, x]) Q E s := by
  have e : (5000 : Nat) ≤ sizeLine := by decide
  obtain ⟨pre, post, rfl, rfl, a, c⟩ := U.split
  have z := N (D, listOf its n) (List.mem_append.mpr (.inr (.head _)))
  exact append_at (hsz := by omega) z.1 fun h' hs ho' => h h' (F.change hs z.2.1 z.2.2) (news_set N a c hs ho')
end

theorem call_join1 {prog : Program} {w : World} {A : Around} {E : Value → Shared → Prop} {s : Shared} {x : Str} {t t1 : Tok} {c : Nat} {D : Addr} {h₀ : Heap} {L : Addr} {news : List (Addr × Obj)} {n : Nat} {Q : Value → Shared → Prop} (hx : x.length ≤ 10)
    (N : News h₀ L s.heap news) (hm : (D, listOf #[Value.str (T1 c) t1] n) ∈ news) (h : ∀ t' k, Q (.str (T1 c) t') { s with toks := k }) : wpAny (model prog w) A (call (.builtin "str.join") [.str x t, .ref D]) Q E s := by
  refine SC.join (l := [(T1 c, t1)]) (texts := [T1 c]) (N.isList hm) rfl ?_ h
  have e : (5000 : Nat) ≤ sizeLine := by decide
  unfold JoinOk
  simp [Builtin.Str.tooLong, T1, Str.length] at hx ⊢
  omega

local macro_rules | `(tactic| wtm_at "halt") => `(tactic| (with_reducible (first | show wpAny _ _ (call (Value.builtin _) [Value.ref _, Value.ref _]) _ _ _)))

local macro_rules | `(tactic| ktr_call $b:term $c:term) => `(tactic| (refine' enterMD (front := $b) ?k1 ?k2 ?k3 ?k4 ?kN ?kA ?kF ?kK ?k6 ?k7 ?k8 ?kP ?kT ?kB ?_ ?c2 ?c3 ?c4 ?c5; (case kA | kF => exact rfl); (case kK => assumption); (case k1 | k2 | k3 | k4 | kN => k_asm); (case k6 | k7 => k_is); (case k8 => ktr_room); (case kP => exact rfl); (case kT => exact fun _ => rfl); (case c5 => decide); (case kB => exact fun _ => locs rfl); (case c2 | c3 | c4 => exact rfl); k_whole; intro D' L' h' F' N' B' X' T' l1 lo' hs' fs'; (try dsimp only); (try k_fold)))

local macro_rules | `(tactic| walk_at "call builtin:list.append") => `(tactic| (k_here; (with_reducible show wpAny _ _ (call (Value.builtin _) [Value.ref _, Value.ref _]) _ _ _); k_dflt (refine' app2 ?F ?N ?U ?d ?_; (case F | N => k_asm); (case U => k_upd); (case d => omega)); kl_rest))

local macro_rules | `(tactic| walk_at "call builtin:str.join") => `(tactic| (k_here; (with_reducible show wpAny _ _ (call (Value.builtin _) [Value.str _ _, Value.ref _]) _ _ _); k_dflt (refine' call_join1 ?hx ?N ?b ?_; (case hx => exact Nat.le_of_ble_eq_true rfl); (case N => k_asm); (case b => k_mem); k_whole); intro t' tk'))

theorem addHdr {w : World} {A : Around} {s : Shared} {E : Value → Shared → Prop} {c p : Nat} {t tv : Tok} {x dx hl n : Nat} {its : List Value} {hs : List (Nat × Nat)}
    (cx : CxM w A s.heap hl) (hd : A.depth + 20 < recursionLimit) (hu : A.units + 200 < cLine) (hc : okCode c = true) (hpv : okCode (48 + p) = true)
    (H : Hdr s.heap x dx hl its n) (hp : Paired (PairAt s.heap) its hs) (hlen : its.length ≤ 1000) :
    wpAny (model PySem.Challenge.rw_pm0057_01.row.toRowW.prog w) A (call (.ref 179) [.ref x, .str (T1 c) t, .str (T1 (48 + p)) tv])
      (Fin2 hl (fun _ o h => ∃ its' n', o = listOf its'.toArray n' ∧ its'.length = its.length + 1 ∧ Paired (PairAt h) its' (hs ++ [(c, p)])) s) E s := by
  obtain ⟨dp, un, gd, cn, cs, L, a, ccd, cl, outer, A₀, base, h₀, m, mean, mg, mb, rfl, B, F, X, T, hk, hq, hL⟩ := cx.is
  clear cx
  obtain ⟨hsh, tki, k, I⟩ := H.apart
  have hp' : Paired (PairAt (hideAll s.heap [hl])) its hs := Paired.imp hp fun v q _ _ p => p.apart H.list
  obtain ⟨arr, rfl⟩ : ∃ arr : Array Value, its = arr.toList := ⟨its.toArray, by simp⟩
  have hlist := H.list
  rw [Array.toArray_toList] at hlist
  have hsz : arr.size ≤ 1000 := by simpa using hlen
  have N : News h₀ L s.heap [(hl, listOf arr n)] := fun p hp => by
    rw [List.mem_singleton.mp hp]
    exact ⟨hlist, hL, hq⟩
  clear H hp hlist
  revert X; k_fill; intro X
  refine wpAny_call ?_
  k_dflt (ktr_call ([(Str.ofString "self", Value.ref x), (Str.ofString "_name", Value.str (T1 c) t), (Str.ofString "_value", Value.str (T1 (48 + p)) tv)]) ())
  k_steps
  walk1
  (with_reducible rename PyProof.V.FlatPairs _ _ _ => fs9)
  clear fs9
  k_steps
  (with_reducible rename News (hideAll s.heap [hl]) _ _ _ => N8)
  refine' app2 (by k_asm) (by k_asm) ?U ?d ?_
  case U => k_upd
  case d => omega
  kl_rest
  k_steps
  (with_reducible rename Fr (hideAll s.heap [hl]) _ _ _ => F8)
  (with_reducible rename News (hideAll s.heap [hl]) _ _ _ => N8)
  refine Fin2.mk F8 N8 (.tail _ (.tail _ (.tail _ (.head _)))) ⟨(arr.push _).toList, n + 1, by rw [Array.toArray_toList], by simp, ?_⟩
  rw [Array.toList_push]
  exact Paired.snoc (Paired.imp hp' fun v q _ _ p => p.keeps F8.keep) ⟨_, _, _, rfl, N8.isTup (.head _)⟩
end Mine
end

local macro_rules | `(tactic| walk_at "setItem ref str") => `(tactic| (k_here; (with_reducible show wpAny _ _ (setItem (Value.ref _) (Value.str _ _) (Value.int _ _)) _ _ _); k_dflt (refine' setS ?F ?N ?d ?U ?r ?z ?_; (case F | N => k_asm); (case U => k_updF); (case d => k_asm); (case r | z => assumption)); intro h' o' kvs' F' N' hd' hr'; (try dsimp only at N')))
section
open PySem PySem.W PySem.Calls PyProof.Rows Mine
set_option maxRecDepth 100000
set_option maxHeartbeats 1000000
namespace Mine


local macro_rules | `(tactic| walk_at "compareOp In str ref") => `(tactic| (k_here; k_dflt (refine' inS ?lo ?N ?d ?m ?r ?_; (case N => k_asm); (case m => k_mem); (case d => k_asm); (case r | lo => assumption); k_whole)))
local macro_rules | `(tactic| walk_at "getItem ref str") => `(tactic| (k_here; k_dflt (refine' getS ?N ?d ?m ?r ?x ?_; (case N => k_asm); (case m => k_mem); (case d => k_asm); (case r | x => assumption); k_whole); intro t'))
local macro_rules | `(tactic| walk_at "subscriptTail Name Name ref str") => `(tactic| (k_here; k_dflt (refine' itemS ?N ?d ?m ?r ?x ?_; (case N => k_asm); (case m => k_mem); (case d => k_asm); (case r | x => assumption); k_whole); intro t'))

theorem mem2 {α : Type} {b x y : α} {P : Prop} (h : b ∈ [x, y]) (h1 : b = x → P) (h2 : b = y → P) : P := (List.mem_cons.mp h).elim h1 fun h => h2 (List.mem_singleton.mp h)
inductive AcJ (prog : Program) (w : World) (g : Heap) (L nd : Addr) (m0 : Str → Option Value) (R : List (Nat × Int)) (h : Heap) : Prop
  | mk (m : Str → Option Value) (o' : Obj) (kvs' : List (Str × Value)) (z1 : Fr g L h m) (z2 : News g L h [(nd, o')]) (z3 : ∀ y, y ≠ Str.ofString "func" → y ≠ Str.ofString "caller" → m y = m0 y) (z4 : o'.IsDictOf (strKind prog w) kvs') (z5 : RowIs kvs' R) : AcJ prog w g L nd m0 R h
inductive AcR (prog : Program) (w : World) (g : Heap) (R : List (Nat × Int)) (v : Value) (h : Heap) : Prop
  | mk (f : Addr) (z1 : v = .ref f) (z2 : g.get? f = none) (z3 : RowAt prog w h f R) : AcR prog w g R v h
theorem addC {w : World} {A : Around} {s : Shared} {E : Value → Shared → Prop} {d e : Addr} {qs rs : List (Nat × Int)}
    (cx : Cx w A s.heap) (hd : A.depth + 20 < recursionLimit) (hu : A.units + 200 < cLine) 
    (hq : RowAt PySem.Challenge.rw_pm0057_01.row.toRowW.prog w s.heap d qs) (hr : RowAt PySem.Challenge.rw_pm0057_01.row.toRowW.prog w s.heap e rs) (hql : qs.length ≤ 100) (hrl : rs.length ≤ 100) :
    wpAny (model PySem.Challenge.rw_pm0057_01.row.toRowW.prog w) A (call (.ref 211) [.ref d, .ref e])
      (Fin1 (AcR PySem.Challenge.rw_pm0057_01.row.toRowW.prog w s.heap (rs.foldl addP (qs.foldl (fun l q => setP l q.1 q.2) []))) s) E s := by
  obtain ⟨dp, un, gd, cn, cs', L, a, ccd, cl, outer, A₀, base, h₀, m, mean, mg, mb, rfl, B, F, X, T, hk⟩ := cx.is
  clear cx
  revert X; k_fill; intro X
  refine wpAny_call ?_
  k_dflt (ktr_call ([(Str.ofString "target", Value.ref d), (Str.ofString "source", Value.ref e)]) Lf)
  k_steps
  (with_reducible rename Fr s.heap _ _ _ => F2)
  (with_reducible rename News s.heap _ _ _ => N2)
  rename_i h1' B1 X1 T1' nd h2' on lo hs hfs hi hfi l1 H2 
  clear hfs hi hfi
  obtain ⟨loq, epq, kvq, hdq, hrq⟩ := hq
  obtain ⟨lor, epr, kvr, hdr, hrr⟩ := hr
  obtain ⟨m0, hm0⟩ := Fr.named F2
  obtain ⟨od0, hgd0⟩ : ∃ o, s.heap.get? d = some o := by obtain ⟨o, _, e, _⟩ := hdq; exact ⟨o, e⟩
  refine itemsW (knd := strKind PySem.Challenge.rw_pm0057_01.row.toRowW.prog w) rfl ?hs ?h
  case hs => intro _; with_unfolding_all rfl
  have hdq1 := hdq.at fun o e => F2.keep _ o e
  refine wpAny_Call_items loq (PySem.Heap.DictAt.dictOf hdq1) rfl rfl (fun Q' hq => ?_) ?_
  · k_steps
    exact hq
  refine wpAny_pyIter_items (ep := epq) (kvs := kvq) (knd := strKind PySem.Challenge.rw_pm0057_01.row.toRowW.prog w) (d := d) ⟨_, Heap.get?_push_size _ rfl, rfl, rfl⟩ (hdq1.push _) ?hQ
  case hQ =>
    generalize hHH : H2.push { cls := .type "dict_items", data := .fields #[.ref d] } = H3
    have hk3 : ∀ b o, H2.get? b = some o → H3.get? b = some o := fun b o e => by rw [← hHH]; exact Heap.get?_push_of_some _ e
    have F3 := F2.keeps hk3
    have N3 := N2.grown hk3
    have hdq3 := hdq1.at fun o e => hk3 _ o e
    have i0 : ∀ b o, H3.get? b = some o → b ≠ H3.objs.size := fun b o e => Nat.ne_of_lt (Heap.lt_size e)
    have iL : Lf ∉ [H3.objs.size] := by obtain ⟨o, _, _, e, _⟩ := F3.ns; simpa using i0 _ _ e
    have iG : ∀ b ∈ [H3.objs.size], s.heap.get? b = none := fun b hb => by
      cases q : s.heap.get? b with
      | none => rfl
      | some o => exact absurd (List.mem_singleton.mp hb) (i0 _ _ (F3.keep _ _ q))
    have iN : @Ne Nat nd H3.objs.size := i0 _ _ (N3 (nd, on) (.head _)).1
    refine ⟨H3.objs.size, d, kvq, epq, fun i h => AcJ PySem.Challenge.rw_pm0057_01.row.toRowW.prog w s.heap Lf nd m0 ((qs.take i).foldl (fun l q => setP l q.1 q.2) []) h, rfl, i0 _ _ (F3.keep _ _ hgd0), ?it, ?da, ?j0, ?turn, ?done⟩
    case it => exact Heap.get?_push_size _ rfl
    case da => exact hdq3.push _
    case j0 => exact ⟨_, _, [], F3.push _, N3.grown fun b o e => Heap.get?_push_of_some _ e, fun y _ _ => by rw [hm0], hs, .nil⟩
    case turn =>
      intro i k v key h hh1 tkk Tp oT hi hkey hJ hkb hI hTn hTu hdh
      refine turn_gen fun QQ hQQ => ?_
      obtain ⟨m, o', kvs', Fh, Nh, hm, ho', hr'⟩ := hJ
      have F4 := Fr.keptBut Fh hkb iG iL
      have N4 := News.keptBut (X := [H3.objs.size]) Nh hkb (by simpa using iN)
      obtain ⟨⟨c, x⟩, hcx, e1, t2, e2⟩ := Paired.get (Paired.symmF hrq) i (k, v) hi
      dsimp only at e1 e2
      subst e1 e2
      obtain ⟨t3, rfl⟩ := Value.isStrOf_shape hkey
      rw [map2n hm, hm0] at F4
      dsimp only at F4
      have hbb : ((qs.take i).foldl (fun l q => setP l q.1 q.2) []).length ≤ 1000 := by
        have := setF_len (qs.take i) []
        have : (qs.take i).length ≤ 100 := by rw [List.length_take]; omega
        simp at *; omega
      have NI : News s.heap Lf hh1 ((H3.objs.size, oT) :: _) := List.forall_mem_cons.mpr ⟨⟨hI, fun e => iL (List.mem_singleton.mpr e.symm), iG _ (.head _)⟩, N4⟩
      have hdO := F4.keep _ _ hgd0
      clear Fh Nh N4 hkb
      k_steps
      (with_reducible rename Fr s.heap _ _ _ => F5)
      (with_reducible rename News s.heap _ _ _ => N5)
      (with_reducible rename Obj.IsDictOf _ _ _ => hd5)
      (with_reducible rename Paired _ _ _ => hr5)
      refine hQQ _ _ ⟨_, _, rfl, ⟨_, _, _, F5, fun p hp => N5 p (.tail _ hp), fun y a b => ?_, hd5, by rw [foldl_take hcx]; exact hr5⟩, fun b hb o e => ?_⟩
      · simp [a, b, hm0]
      · have eI := (N5 (H3.objs.size, oT) (.head _)).1
        have eD := F5.keep _ _ hgd0
        exact mem2 hb (fun e2 => by subst e2; rw [hI] at e; cases e; exact eI) (fun e2 => by subst e2; rw [hdO] at e; cases e; exact eD)
    case done =>
      rintro h h' tkk ⟨m, o', kvs', Fh, Nh, hm, ho', hr'⟩ hkb
      have F4 := Fr.keptBut Fh hkb iG iL
      have N4 := News.keptBut (X := [H3.objs.size]) Nh hkb (by simpa using iN)
      rw [List.take_of_length_le (by have := hrq.length; omega)] at hr'
      have hbq : (qs.foldl (fun l q => setP l q.1 q.2) []).length ≤ 100 := by
        have := setF_len qs []
        simp at *; omega
      generalize hQQ : qs.foldl (fun l q => setP l q.1 q.2) [] = Q0 at *
      rw [map2n hm, hm0] at F4
      dsimp only at F4
      generalize hF1 : m (Str.ofString "func") = mf at F4
      generalize hF2 : m (Str.ofString "caller") = mc at F4
      have hdO := F4.keep _ _ hgd0
      clear Fh Nh F2 N2 F3 N3 hm hm0 hkb iG iL iN
      (try dsimp only)
      k_steps
      obtain ⟨od1, hgd1⟩ : ∃ o, s.heap.get? e = some o := by obtain ⟨o, _, e, _⟩ := hdr; exact ⟨o, e⟩
      refine itemsW (knd := strKind PySem.Challenge.rw_pm0057_01.row.toRowW.prog w) rfl ?hs ?h
      case hs => intro _; with_unfolding_all rfl
      have hdr1 := hdr.at fun o e => F4.keep _ o e
      refine wpAny_Call_items lor (PySem.Heap.DictAt.dictOf hdr1) rfl rfl (fun Q' hq => ?_) ?_
      · k_steps
        exact hq
      refine wpAny_pyIter_items (ep := epr) (kvs := kvr) (knd := strKind PySem.Challenge.rw_pm0057_01.row.toRowW.prog w) (d := e) ⟨_, Heap.get?_push_size _ rfl, rfl, rfl⟩ (hdr1.push _) ?hQ
      case hQ =>
        generalize hHH : h'.push { cls := .type "dict_items", data := .fields #[.ref e] } = H4
        have hk4 : ∀ b o, h'.get? b = some o → H4.get? b = some o := fun b o e => by rw [← hHH]; exact Heap.get?_push_of_some _ e
        have F5 := F4.keeps hk4
        have N5 := N4.grown hk4
        have hdr3 := hdr1.at fun o e => hk4 _ o e
        obtain ⟨m1, hm1⟩ := Fr.named F5
        have i0 : ∀ b o, H4.get? b = some o → b ≠ H4.objs.size := fun b o e => Nat.ne_of_lt (Heap.lt_size e)
        have iL : Lf ∉ [H4.objs.size] := by obtain ⟨o, _, _, e, _⟩ := F5.ns; simpa using i0 _ _ e
        have iG : ∀ b ∈ [H4.objs.size], s.heap.get? b = none := fun b hb => by
          cases q : s.heap.get? b with
          | none => rfl
          | some o => exact absurd (List.mem_singleton.mp hb) (i0 _ _ (F5.keep _ _ q))
        have iN : @Ne Nat nd H4.objs.size := i0 _ _ (N5 (nd, o') (.head _)).1
        refine ⟨H4.objs.size, e, kvr, epr, fun i h => AcJ PySem.Challenge.rw_pm0057_01.row.toRowW.prog w s.heap Lf nd m1 ((rs.take i).foldl addP Q0) h, rfl, i0 _ _ (F5.keep _ _ hgd1), ?it, ?da, ?j0, ?turn, ?done⟩
        case it => exact Heap.get?_push_size _ rfl
        case da => exact hdr3.push _
        case j0 => exact ⟨_, _, _, F5.push _, N5.grown fun b o e => Heap.get?_push_of_some _ e, fun y _ _ => by rw [hm1], ho', hr'⟩
        case turn =>
          clear ho' hr' N4 F4 N5 
          intro i k v key h hh1 tkk Tp oT hi hkey hJ hkb hI hTn hTu hdh
          refine turn_gen fun QQ hQQ => ?_
          obtain ⟨m2, o2, kvs2, Fh, Nh, hm, ho', hr'⟩ := hJ
          have F6 := Fr.keptBut Fh hkb iG iL
          have N6 := News.keptBut (X := [H4.objs.size]) Nh hkb (by simpa using iN)
          obtain ⟨⟨c, x⟩, hcx, e1, t2, e2⟩ := Paired.get (Paired.symmF hrr) i (k, v) hi
          dsimp only at e1 e2
          subst e1 e2
          obtain ⟨t3, rfl⟩ := Value.isStrOf_shape hkey
          rw [map2n hm, hm1] at F6
          dsimp only at F6
          have hbb : ((rs.take i).foldl addP Q0).length ≤ 1000 := by
            have := addF_len (rs.take i) Q0
            have : (rs.take i).length ≤ 100 := by rw [List.length_take]; omega
            simp at *; omega
          have NI : News s.heap Lf hh1 ((H4.objs.size, oT) :: _) := List.forall_mem_cons.mpr ⟨⟨hI, fun e => iL (List.mem_singleton.mpr e.symm), iG _ (.head _)⟩, N6⟩
          have hdO := F6.keep _ _ hgd1
          clear Fh Nh N6 hkb
          k_steps
          all_goals
            (with_reducible rename Fr s.heap _ _ _ => F7)
            (with_reducible rename News s.heap _ _ _ => N7)
            (with_reducible rename Obj.IsDictOf _ _ _ => hd7)
            (with_reducible rename Paired _ _ _ => hr7)
            (with_reducible rename (_ : Bool) = _ => hb7)
          · refine hQQ _ _ ⟨_, _, rfl, ⟨_, _, _, F7, fun p hp => N7 p (.tail _ hp), fun y a b => ?_, hd7, by rw [foldl_take hcx]; exact hr7⟩, fun b hb o e => ?_⟩
            · simp [a, b, hm1]
            · have eI := (N7 (H4.objs.size, oT) (.head _)).1
              have eD := F7.keep _ _ hgd1
              exact mem2 hb (fun e2 => by subst e2; rw [hI] at e; cases e; exact eI) (fun e2 => by subst e2; rw [hdO] at e; cases e; exact eD)
          · refine hQQ _ _ ⟨_, _, rfl, ⟨_, _, _, F7, fun p hp => N7 p (.tail _ hp), fun y a b => ?_, hd7, by rw [foldl_take hcx]; rw [addP_none hb7]; exact hr7⟩, fun b hb o e => ?_⟩
            · simp [a, b, hm1]
            · have eI := (N7 (H4.objs.size, oT) (.head _)).1
              have eD := F7.keep _ _ hgd1
              exact mem2 hb (fun e2 => by subst e2; rw [hI] at e; cases e; exact eI) (fun e2 => by subst e2; rw [hdO] at e; cases e; exact eD)
        case done =>
          clear ho' hr' N4 F4 N5
          rintro h h' tkk ⟨m2, o2, kvs2, Fh, Nh, hm, ho', hr'⟩ hkb
          have F6 := Fr.keptBut Fh hkb iG iL
          have N6 := News.keptBut (X := [H4.objs.size]) Nh hkb (by simpa using iN)
          rw [List.take_of_length_le (by have := hrr.length; omega)] at hr'
          rw [map2n hm, hm1] at F6
          dsimp only at F6
          generalize hF1 : m2 (Str.ofString "func") = mf at F6
          generalize hF2 : m2 (Str.ofString "caller") = mc at F6
          clear Fh Nh F5 hm hm1 hkb iG iL iN
          (try dsimp only)
          k_steps
          (try dsimp only)
          k_steps
          exact Fin1.mk F6 rfl ⟨nd, rfl, (N6 _ (.head _)).2.2, by
            obtain ⟨ep, hx⟩ := Heap.DictOf.dictAt (Heap.dictOf_iff.mpr ⟨o2, (N6 _ (.head _)).1, ho'⟩)
            exact ⟨lo, ep, kvs2, hx, by rw [hQQ]; exact hr'⟩⟩
end Mine
end

section
open PySem PySem.W PySem.Calls PyProof.Rows PySem.Spec Mine
set_option maxRecDepth 100000
set_option maxHeartbeats 2000000
namespace Mine
theorem StoredAll.imp {K : Type} [DecidableEq K] {FK : Value → K → Prop} {F G : Value → Value → Prop} {l : List Value} {kvs : List (K × Value)} (h : StoredAll FK F l kvs) (k : ∀ v y, F v y → G v y) : StoredAll FK G l kvs := by
  induction h with
  | nil => exact .nil
  | snoc _ a b ih => exact .snoc ih a (k _ _ b)
section
variable {prog : Program} {w : World} {A : Around} {E : Value → Shared → Prop} {s : Shared} {env : Env} {K : Type} [DecidableEq K]

/-- a dict comprehension over an iterator; a value may be an object of its own -/
inductive DhAt (prog : Program) (w : World) (A : Around) (env : Env) (knd : KeyKind prog w K) (scope : Scope) (cl : List (Str × Addr)) (x y : Str) (kx vx : Expr) (h₀ : Heap) (L : Addr) (Q : Flow → Shared → Prop) (it : Value) (s₂ : Shared) : Prop
  | mk (I : Addr) (n : Nat) (P : Nat → Value → Prop) (St : Nat → Heap → Prop) (FK : Value → K → Prop) (G : List Addr → Heap → Value → Value → Prop) (m : Str → Option Value)
    (z1 : it = .ref I)
    (z2 : Fr h₀ L s₂.heap m)
    (z3 : L ≠ I)
    (z4 : (∀ b o, h₀.get? b = some o → b ≠ I))
    (z5 : Walks prog w A I [I] [I] n P St)
    (z6 : n ≤ sizeLine)
    (z7 : St 0 s₂.heap)
    (z8 : (s₂.heap.get? I).isSome = true)
    (z9 : (∀ i h, St i h → (h.get? I).isSome = true))
    (z10 : (∀ X h h' v y, G X h v y → KeptBut X h h' → G X h' v y))
    (z11 : (∀ C i v s₃ m₃ E', P i v → s₃.heap.Ns C m₃ → m₃ x = some v → (∀ b o, b ∉ [I] → s₂.heap.get? b = some o → s₃.heap.get? b = some o) → s₂.heap.get? C = none →
      wpAny (model prog w) A (eval kx (compEnvC scope cl C env)) (Fin1 (fun key _ => ∃ k, knd.is k key = true ∧ FK v k) s₃) E' s₃))
    (z12 : (∀ C D i v s₃ m₃ E', P i v → s₃.heap.Ns C m₃ → m₃ x = some v → (∀ b o, b ∉ [I] → s₂.heap.get? b = some o → s₃.heap.get? b = some o) → (s₃.heap.get? I).isSome = true → (s₃.heap.get? D).isSome = true → C ≠ D → C ≠ I → s₂.heap.get? C = none →
      wpAny (model prog w) A (eval vx (compEnvC scope cl C env)) (Fin1 (fun y h => G [C, D, I, L] h v y) s₃) E' s₃))
    (z13 : (∀ X D kvs h' tk vs, s₂.heap.get? D = none → h'.DictOf knd D kvs → vs.length = n → (∀ j v, vs[j]? = some v → P j v) → StoredAll FK (G X h') vs kvs → Fr h₀ L h' (fun z => if z = y then some (.ref D) else m z) → (∀ b o, b ∉ [L, I] → s₂.heap.get? b = some o → h'.get? b = some o) → Q .next { s₂ with heap := h', toks := tk })) : DhAt prog w A env knd scope cl x y kx vx h₀ L Q it s₂

inductive DhJ {prog : Program} {w : World} (knd : KeyKind prog w K) (s₂ : Shared) (I C D : Addr) (n : Nat) (P : Nat → Value → Prop) (St : Nat → Heap → Prop) (FK : Value → K → Prop) (G : Heap → Value → Value → Prop) (k : Nat) (s' : Shared) : Prop
  | mk (h' : Heap) (tk : Nat) (m' : Str → Option Value) (kvs : List (K × Value)) (vs : List Value) (z1 : s' = { s₂ with heap := h', toks := tk }) (z2 : St vs.length h') (z3 : h'.DictOf knd D kvs) (z4 : h'.Ns C m') (z5 : ∀ j v, vs[j]? = some v → P j v)
    (z6 : StoredAll FK (G h') vs kvs) (z7 : vs.length ≤ n) (z8 : k = n + 1 - vs.length) (z9 : ∀ b o, b ∉ [I] → s₂.heap.get? b = some o → h'.get? b = some o) : DhJ knd s₂ I C D n P St FK G k s'
theorem dcAss {knd : KeyKind prog w K} {kx vx iter : Expr} {x y : Str} {px py : Pos} {scope : Scope} {cl : List (Str × Addr)} {pos spos : Pos} {h₀ : Heap} {L : Addr} {Q : Flow → Shared → Prop}
    (hsw : swapsWith (.DictComp kx vx [⟨.Name x px, iter, [], 0⟩] scope pos) (some (.Name y py)) spos.line env = pure true) (hL : env.locals = L)
    (hy : env.kindOf y = some .local) (hpE : (env.scope.kind == .class || (env.scope.kind == .module && env.locals != env.globals)) = false)
    (hclos : closureFor scope env = pure cl) (hcell : ∀ y ∈ scope.names, y.2 ≠ .cell) (hkind : scope.kind = .function)
    (hnames : ∀ y ∈ scope.names, y.2 = .local → scope.names.lookup y.1 = some .local) (hx : scope.names.lookup x = some .local)
    (hs : ∀ x, foldedSetIterable iter env x = pure x)
    (h : wpAny (model prog w) A (eval iter env) (fun xv s₁ => wpAny (model prog w) A (pyIter xv) (DhAt prog w A env knd scope cl x y kx vx h₀ L Q) E s₁) E s) :
    wpAny (model prog w) A (exec (.Assign [.Name y py] (.DictComp kx vx [⟨.Name x px, iter, [], 0⟩] scope pos) spos) env) Q E s := by
  subst hL
  rw [exec_Assign_Name_used _ _ _ _ hsw]
  refine wpAny_bind (wpAny_standAt (wpAny_bind ?_))
  show wpAny _ A (do let _ ← comprehension (.DictComp kx vx [⟨.Name x px, iter, [], 0⟩] scope pos) scope env _ newDict false (eval iter env) (some (assign (.Name y py) env))) _ _ s
  refine wpAny_bind (wpAny_mono (wpAny_comprehension_free (use := some (assign (.Name y py) env)) (Q := fun _ s' => Q .next s') rfl hs hclos hkind hnames
    (wpAny_mono h (fun xv s₁ hx₁ => wpAny_mono hx₁ (fun it s₂ h₂ => ?_) fun _ _ e => e) fun _ _ e => e)) (fun _ s' hq => wpAny_pure (wpAny_pure hq)) fun _ _ e => e)
  obtain ⟨I, n, P, St, FK, G, m, rfl, FF, hLI, hI0, W, hsz, hst, hI, hStI, stab, hkey, hval, hQ⟩ := h₂
  refine wpAny_newObj_type (wpAny_newFunctionEnv hcell (by intro y hy; simp at hy) (fun h₁ hns₁ hsb₁ => ?_) hkind)
  dsimp only at hns₁ hsb₁ ⊢
  have hnew : (s₂.heap.push { cls := .type "dict", dict := none, data := .dict #[] }).DictOf knd s₂.heap.objs.size [] := Heap.DictOf.new s₂.heap
  generalize hH2 : s₂.heap.push { cls := .type "dict", dict := none, data := .dict #[] } = H2 at hns₁ hsb₁ hnew ⊢
  generalize hD : s₂.heap.objs.size = D at *
  generalize hC : H2.objs.size = C at *
  generalize hLL : env.locals = L at *
  have hC' : C = D + 1 := by rw [← hC, ← hH2, Heap.size_push, hD]
  have below : ∀ b o, s₂.heap.get? b = some o → b < D := fun b o e => hD ▸ Heap.lt_size e
  have hID : I < D := by obtain ⟨o, e⟩ := Option.isSome_iff_exists.mp hI; exact below _ _ e
  have nDI : D ≠ I := Nat.ne_of_gt hID
  have nCI : C ≠ I := by rw [hC']; exact Nat.ne_of_gt (Nat.lt_succ_of_lt hID)
  have nCD : C ≠ D := by rw [hC']; exact Nat.succ_ne_self D
  have nbC : ∀ b o, s₂.heap.get? b = some o → b ≠ C := fun b o e => by rw [hC']; exact Nat.ne_of_lt (Nat.lt_succ_of_lt (below b o e))
  have nbD : ∀ b o, s₂.heap.get? b = some o → b ≠ D := fun b o e => Nat.ne_of_lt (below b o e)
  have old : ∀ b o, s₂.heap.get? b = some o → h₁.get? b = some o := fun b o e => hsb₁.extBut b o (nbC b o e) (Heap.get?_push_of_some _ (hH2 ▸ Heap.get?_push_of_some _ e))
  have hacc : h₁.DictOf knd D [] := hnew.at fun o e => hsb₁.extBut _ _ nCD.symm (Heap.get?_push_of_some _ e)
  have hst₁ : St 0 h₁ := W.frame _ _ _ hst fun b _ o e => old b o e
  have fresh : ∀ a, D ≤ a → s₂.heap.get? a = none := fun a ha => by
    cases e : s₂.heap.get? a with
    | none => rfl
    | some o' => exact absurd (below _ _ e) (Nat.not_lt.mpr ha)
  have fC : s₂.heap.get? C = none := fresh C (by rw [hC']; exact Nat.le_succ D)
  have m1 : ∀ b, b ∉ [C, D, I, L] → b ≠ C := fun b hb e => hb (e ▸ .head _)
  have m2 : ∀ b, b ∉ [C, D, I, L] → b ≠ D := fun b hb e => hb (e ▸ .tail _ (.head _))
  have m3 : ∀ b, b ∉ [C, D, I, L] → b ≠ I := fun b hb e => hb (e ▸ .tail _ (.tail _ (.head _)))
  have m4 : ∀ b, b ∉ [C, D, I, L] → b ≠ L := fun b hb e => hb (e ▸ .tail _ (.tail _ (.tail _ (.head _))))
  have hxl : (compEnvC scope cl C env).kindOf x = some .local := lookup_relabel_local hx
  have hp : ((compEnvC scope cl C env).scope.kind == .class || ((compEnvC scope cl C env).scope.kind == .module && (compEnvC scope cl C env).locals != (compEnvC scope cl C env).globals)) = false := by simp [compEnvC, relabel, hkind]
  have loop : ∀ s₃ : Shared, s₃ = { s₂ with heap := h₁, toks := s₂.toks + ([] : List (Str × Value)).length } →
      codeAny (model prog w) A (.compLoop (.DictComp kx vx [⟨.Name x px, iter, [], 0⟩] scope pos) 0 (.ref I) (.ref D) (compEnvC scope cl C env))
        (compPost (model prog w) A E (some (assign (.Name y py) env)) (fun _ s' => Q .next s') (.ref D) C) s₃ := by
    rintro s₃ rfl
    refine codeAny_compLoop_testsD
      (DhJ knd s₂ I C D n P St FK (G [C, D, I, L])) ?_ (n + 1)
      ⟨h₁, _, _, [], [], rfl, hst₁, hacc, hns₁, by simp, .nil, Nat.zero_le _, rfl, fun b o _ e => old b o e⟩
    rintro k s' ⟨H, tk, m', kvs, vs, rfl, hst', hacc', hn', hP, hF, hi, rfl, hk⟩
    by_cases hlt : vs.length < n
    · refine W.item vs.length _ _ _ hlt hst' fun v h₁ tk₁ hPv hst₁ hk₁ => ?_
      have hk₁' : ∀ b o, b ≠ I → H.get? b = some o → h₁.get? b = some o := fun b o hb e => hk₁ b o (by simpa using hb) e
      refine wpAny_assign_Name (wpAny_storeName_local hxl (hn'.at' fun o e => hk₁' _ o nCI e) (fun h₂ hn₂ hs₂ => ?_) hp)
      have up₂ : ∀ b o, b ≠ C → b ≠ I → H.get? b = some o → h₂.get? b = some o := fun b o hbC hbf e => hs₂.extBut b o hbC (hk₁' b o hbf e)
      have hst₂ : St (vs.length + 1) h₂ := W.frame _ _ _ hst₁ fun b hb o e => hs₂.extBut b o (by rw [List.mem_singleton.mp hb]; exact nCI.symm) e
      have kk₂ : ∀ b o, b ∉ [I] → s₂.heap.get? b = some o → h₂.get? b = some o := fun b o hb e => up₂ b o (nbC b o e) (by simpa using hb) (hk b o hb e)
      rw [List.forIn_nil]
      refine wpAny_pure ?_
      rw [if_pos rfl]
      refine wpAny_mono (hkey C vs.length v _ _ _ hPv hn₂ (by simp) kk₂ fC) (fun key s₃ h₃ => ?_) fun _ _ e => e
      obtain ⟨⟨kk, hkk, hFk⟩, h₃, tk₃, rfl, hk₃⟩ := h₃
      have hacc₃ : h₃.DictOf knd D kvs := hacc'.at fun o e => hk₃ _ o (up₂ D o nCD.symm nDI e)
      have hst₃ : St (vs.length + 1) h₃ := W.frame _ _ _ hst₂ fun b _ o e => hk₃ b o e
      refine wpAny_mono (hval C D vs.length v _ _ _ hPv (hn₂.keeps hk₃) (by simp) (fun b o hb e => hk₃ b o (kk₂ b o hb e)) (hStI _ _ hst₃) (by obtain ⟨o, e, _⟩ := Heap.dictOf_iff.mp hacc₃; rw [e]; rfl) nCD nCI fC) (fun y s₄ h₄ => ?_) fun _ _ e => e
      obtain ⟨hG, h₄, tk₄, rfl, hk₄⟩ := h₄
      have hkv : kvs.length ≤ sizeLine := by have := hF.length_le; omega
      refine wpAny_dictSet_pairs (hsz := hkv) hkk (hacc₃.at fun o e => hk₄ _ o e) fun h₅ hl₅ hs₅ => ?_
      have k45 : KeptBut [C, D, I, L] h₄ h₅ := fun b o hb e => hs₅.extBut b o (m2 b hb) e
      have k25 : KeptBut [C, D, I, L] H h₅ := fun b o hb e => k45 b o hb (hk₄ b o (hk₃ b o (up₂ b o (m1 b hb) (m3 b hb) e)))
      refine ⟨n + 1 - (vs.length + 1), by omega, h₅, _, _, stored kvs kk y, vs ++ [v], rfl, ?_, hl₅, ((hn₂.keeps hk₃).keeps hk₄).sameBut hs₅ nCD, ?_, ?_, (by rw [List.length_append, List.length_singleton]; exact hlt), (by rw [List.length_append, List.length_singleton]), fun b o hb e => ?_⟩
      · have := W.frame _ _ h₅ hst₃ fun b hb o e => hs₅.extBut b o (by rw [List.mem_singleton.mp hb]; exact nDI.symm) (hk₄ b o e)
        simpa using this
      · intro j u hj
        rcases Nat.lt_trichotomy j vs.length with h | h | h
        · exact hP j u (by rwa [List.getElem?_append_left h] at hj)
        · subst h; simp at hj; subst hj; exact hPv
        · have hnone : (vs ++ [v])[j]? = none := List.getElem?_eq_none (by rw [List.length_append, List.length_singleton]; omega)
          rw [hnone] at hj; cases hj
      · exact .snoc (StoredAll.imp hF fun v y g => stab _ _ _ _ _ g k25) hFk (stab _ _ _ _ _ hG k45)
      · exact hs₅.extBut b o (nbD b o e) (hk₄ b o (hk₃ b o (kk₂ b o hb e)))
    · have hin : vs.length = n := by omega
      refine W.done _ _ _ (hin ▸ hst') fun h₁ tk₁ hk₁ => ?_
      have hk₁' : ∀ b o, b ≠ I → H.get? b = some o → h₁.get? b = some o := fun b o hb e => hk₁ b o (by simpa using hb) e
      have hLsome : ∃ o, s₂.heap.get? L = some o := by obtain ⟨o, _, _, e, _⟩ := FF.ns; exact ⟨o, e⟩
      obtain ⟨oL, eL⟩ := hLsome
      have nLC : L ≠ C := nbC _ _ eL
      have nLD : L ≠ D := nbD _ _ eL
      have hkL : ∀ o, s₂.heap.get? L = some o → h₁.get? L = some o := fun o e => hk₁' _ o hLI (hk L o (by simpa using hLI) e)
      show wpAny _ A (assign (.Name y py) env (.ref D)) _ _ _
      refine wpAny_assign_Name (wpAny_storeName_local hy (by rw [hLL]; exact FF.ns.at' hkL) (fun h₂ hn₂ hs₂ => ?_) (by rw [hLL]; exact hpE))
      rw [hLL] at hn₂ hs₂
      refine ⟨m', (hn'.at' fun o e => hk₁' _ o nCI e).sameBut hs₂ nLC.symm, fun h₃ hs₃ => ?_⟩
      have keep : ∀ b o, b ∉ [L, I] → s₂.heap.get? b = some o → h₃.get? b = some o := fun b o hb e =>
        hs₃.extBut b o (nbC b o e) (hs₂.extBut b o (fun h => hb (h ▸ .head _)) (hk₁' b o (fun h => hb (h ▸ .tail _ (.head _))) (hk b o (fun h => hb (List.mem_singleton.mp h ▸ .tail _ (.head _))) e)))
      have k3 : KeptBut [C, D, I, L] H h₃ := fun b o hb e => hs₃.extBut b o (m1 b hb) (hs₂.extBut b o (m4 b hb) (hk₁' b o (m3 b hb) e))
      refine hQ [C, D, I, L] D kvs h₃ _ vs (fresh _ (Nat.le_refl _)) (hacc'.at fun o e => hs₃.extBut _ o nCD.symm (hs₂.extBut _ o nLD.symm (hk₁' _ o nDI e))) hin hP (StoredAll.imp hF fun v y g => stab _ _ _ _ _ g k3) ?_ keep
      refine ⟨hn₂.sameBut hs₃ nLC, fun b o e => ?_, FF.above⟩
      have e2 := FF.keep _ _ e
      have hbL : b ≠ L := Nat.ne_of_lt (Nat.lt_of_lt_of_le (Heap.lt_size e) FF.above)
      by_cases hbI : b = I
      · exact absurd hbI (hI0 b o e)
      · exact keep b o (by simp [hbL, hbI]) e2
  exact codeAny_compStart_dict (loop _ rfl) (W.self 0 _ _ _ hst₁ (loop _ rfl))
end
section
variable {prog : Program} {w : World} {A : Around} {E : Value → Shared → Prop} {s : Shared} {env : Env}
/-- a list comprehension that is stored in a local name -/
inductive LaAt (prog : Program) (w : World) (A : Around) (env : Env) (scope : Scope) (cl : List (Str × Addr)) (x y : Str) (ifs : List Expr) (elt : Expr) (h₀ : Heap) (L : Addr) (Q : Flow → Shared → Prop) (xv : Value) (s₁ : Shared) : Prop
  | mk (ax : Addr) (vs : List Value) (p : Value → Bool) (F : Value → Value → Prop) (m : Str → Option Value) (news : List (Addr × Obj))
    (z1 : xv = .ref ax)
    (z2 : s₁.heap.IsList ax vs.toArray)
    (z3 : vs.length ≤ sizeLine)
    (z4 : Fr h₀ L s₁.heap m)
    (z5 : News h₀ L s₁.heap news)
    (z6 : (∀ C v s₂ m₂ E', v ∈ vs → s₂.heap.Ns (compEnvC scope cl C env).locals m₂ → m₂ x = some v → (∀ b o, s₁.heap.get? b = some o → s₂.heap.get? b = some o) →
      wpAny (model prog w) A (testsOf ifs (compEnvC scope cl C env)) (Fin1 (fun ok _ => ok = p v) s₂) E' s₂))
    (z7 : (∀ C v s₂ m₂ E', v ∈ vs → p v = true → s₂.heap.Ns (compEnvC scope cl C env).locals m₂ → m₂ x = some v → (∀ b o, s₁.heap.get? b = some o → s₂.heap.get? b = some o) →
      wpAny (model prog w) A (eval elt (compEnvC scope cl C env)) (Fin1 (fun y _ => F v y) s₂) E' s₂))
    (z8 : (∀ D ys k h' tk, (∀ b o, s₁.heap.get? b = some o → D ≠ b) → Fr h₀ L h' (fun z => if z = y then some (.ref D) else m z) → News h₀ L h' ((D, listOf ys k) :: news) → Paired F (vs.filter p) ys.toList → (∀ b o, b ≠ L → s₁.heap.get? b = some o → h'.get? b = some o) → Q .next { s₁ with heap := h', toks := tk })) : LaAt prog w A env scope cl x y ifs elt h₀ L Q xv s₁

theorem lcAss {elt iter : Expr} {x y : Str} {px py : Pos} {ifs : List Expr} {scope : Scope} {cl : List (Str × Addr)} {pos spos : Pos} {h₀ : Heap} {L : Addr} {Q : Flow → Shared → Prop}
    (hsw : swapsWith (.ListComp elt [⟨.Name x px, iter, ifs, 0⟩] scope pos) (some (.Name y py)) spos.line env = pure true) (hL : env.locals = L)
    (hy : env.kindOf y = some .local) (hpE : (env.scope.kind == .class || (env.scope.kind == .module && env.locals != env.globals)) = false)
    (hh : A.handled = none) (hclos : closureFor scope env = pure cl) (hcell : ∀ y ∈ scope.names, y.2 ≠ .cell) (hkind : scope.kind = .function)
    (hnames : ∀ y ∈ scope.names, y.2 = .local → scope.names.lookup y.1 = some .local) (hx : scope.names.lookup x = some .local)
    (hs : ∀ x, foldedSetIterable iter env x = pure x)
    (h : wpAny (model prog w) A (eval iter env) (LaAt prog w A env scope cl x y ifs elt h₀ L Q) E s) :
    wpAny (model prog w) A (exec (.Assign [.Name y py] (.ListComp elt [⟨.Name x px, iter, ifs, 0⟩] scope pos) spos) env) Q E s := by
  subst hL
  rw [exec_Assign_Name_used _ _ _ _ hsw]
  refine wpAny_bind (wpAny_standAt (wpAny_bind ?_))
  show wpAny _ A (do let _ ← comprehension (.ListComp elt [⟨.Name x px, iter, ifs, 0⟩] scope pos) scope env _ (newList []) false (eval iter env) (some (assign (.Name y py) env))) _ _ s
  refine wpAny_bind (wpAny_mono (wpAny_comprehension_free (use := some (assign (.Name y py) env)) (Q := fun _ s' => Q .next s') rfl hs hclos hkind hnames
    (wpAny_mono h (fun xv s₁ h₁ => ?_) fun _ _ e => e)) (fun _ s' hq => wpAny_pure (wpAny_pure hq)) fun _ _ e => e)
  obtain ⟨ax, vs, p, F, m, news, rfl, hl, hsz, FF, N, htests, helt, hQ⟩ := h₁
  have hlt : ax < s₁.heap.objs.size := by obtain ⟨_, e, _⟩ := hl; exact Heap.lt_size e
  have up : ∀ (s₃ : Shared), (∀ b o, b ∉ [s₁.heap.objs.size] → (s₁.heap.push { cls := .type "list_iterator", data := .fields #[.ref ax, .int 0 0] }).get? b = some o → s₃.heap.get? b = some o) → ∀ b o, s₁.heap.get? b = some o → s₃.heap.get? b = some o :=
    fun s₃ hk b o e => hk b o (fun hm => by rcases List.mem_cons.mp hm with rfl | hm; exact Nat.lt_irrefl _ (Heap.lt_size e); cases hm) (Heap.get?_push_of_some _ e)
  refine wpAny_pyIter_list hl ?_
  refine comp_block_walkC (fp := [s₁.heap.objs.size, ax]) (RR := fun acc C => compPost (model prog w) A E (some (assign (.Name y py) env)) (fun _ s' => Q .next s') acc C) (Walks.list hh s₁.heap.objs.size ax (Nat.ne_of_lt hlt) vs.toArray) (by rw [List.size_toArray]; exact hsz) p F hcell hkind hx
    ⟨⟨_, Heap.get?_push_size _ rfl, rfl, rfl⟩, hl.push _⟩ ?_ ⟨?_, ?_⟩ ?_
  · intro b hb
    show b < (s₁.heap.push _).objs.size
    rw [Heap.size_push]
    rcases List.mem_cons.mp hb with rfl | hb
    · exact Nat.lt_succ_self _
    · rcases List.mem_cons.mp hb with rfl | hb
      · exact Nat.lt_succ_of_lt hlt
      · cases hb
  · intro C i v s₃ m₃ E' _ hP hn hm hk _
    exact htests C v s₃ m₃ E' (by have := Array.mem_of_getElem? hP; simpa using this) hn hm (up s₃ hk)
  · intro C i v s₃ m₃ E' _ hP hp hn hm hk _
    exact helt C v s₃ m₃ E' (by have := Array.mem_of_getElem? hP; simpa using this) hp hn hm (up s₃ hk)
  · intro D C h' tk m' ys vs' hD hC hDC hn hlD hpl hlen hP hF hk
    have e : vs' = vs := by simpa using list_of_places hlen hP
    subst e
    generalize hLL : env.locals = L at *
    obtain ⟨oL, eL⟩ : ∃ o, s₁.heap.get? L = some o := by obtain ⟨o, _, _, e, _⟩ := FF.ns; exact ⟨o, e⟩
    have nC : ∀ b o, s₁.heap.get? b = some o → b ≠ C := fun b o e => by rintro rfl; rw [Heap.get?_push_of_some _ e] at hC; cases hC
    have nD : ∀ b o, s₁.heap.get? b = some o → D ≠ b := fun b o e => by rintro rfl; rw [Heap.get?_push_of_some _ e] at hD; cases hD
    show wpAny _ A (assign (.Name y py) env (.ref D)) _ _ _
    refine wpAny_assign_Name (wpAny_storeName_local hy (by rw [hLL]; exact FF.ns.at' fun o e => up { s₁ with heap := h' } hk L o e) (fun h₂ hn₂ hs₂ => ?_) (by rw [hLL]; exact hpE))
    rw [hLL] at hn₂ hs₂
    refine ⟨m', hn.sameBut hs₂ (nC _ _ eL).symm, fun h₃ hs₃ => ?_⟩
    have keep : ∀ b o, b ≠ L → s₁.heap.get? b = some o → h₃.get? b = some o := fun b o hb e => hs₃.extBut b o (nC b o e) (hs₂.extBut b o hb (up { s₁ with heap := h' } hk b o e))
    obtain ⟨k, hk1⟩ := (hpl.extBut hs₂.extBut (nD _ _ eL)).extBut hs₃.extBut hDC
    have F3 : Fr h₀ L h₃ (fun z => if z = y then some (.ref D) else m z) :=
      ⟨hn₂.sameBut hs₃ (nC _ _ eL), fun b o e => keep b o (Nat.ne_of_lt (Nat.lt_of_lt_of_le (Heap.lt_size e) FF.above)) (FF.keep _ _ e), FF.above⟩
    refine hQ D ys k h₃ _ nD F3 (List.forall_mem_cons.mpr ⟨⟨hk1, nD _ _ eL, ?_⟩, fun p hp => ⟨keep _ _ (N p hp).2.1 (N p hp).1, (N p hp).2⟩⟩) hF keep
    cases e : h₀.get? D with
    | none => rfl
    | some o' => exact absurd rfl (nD _ _ (FF.keep _ _ e))
end
theorem pyIter_s {prog : Program} {w : World} {A : Around} {E : Value → Shared → Prop} {s : Shared} {ls : List Nat} {t : Tok} {Q : Value → Shared → Prop} (hls : ∀ c ∈ ls, c < 128)
    (hQ : Q (.ref s.heap.objs.size) { s with heap := s.heap.push { cls := .type "str_ascii_iterator", data := .fields #[.str ⟨ls.toArray⟩ t, .int 0 0] } }) : wpAny (model prog w) A (pyIter (.str ⟨ls.toArray⟩ t)) Q E s :=
  wpAny_pyIter_ascii (by simpa using hls) hQ
theorem walksS {prog : Program} {w : World} {A : Around} (hh : A.handled = none) (I : Addr) (ls : List Nat) (t : Tok) :
    Walks prog w A I [I] [I] ls.length (fun i v => ∃ c u, ls[i]? = some c ∧ v = Value.str ⟨#[c]⟩ u) (fun i h => h.IsStrIter I "str_ascii_iterator" ⟨ls.toArray⟩ t i) := by
  have W := Walks.strAscii (prog := prog) (w := w) hh I ⟨ls.toArray⟩ t
  have e : (⟨ls.toArray⟩ : Str).cps.size = ls.length := by simp
  rw [e] at W
  exact ⟨W.sub, W.frame, fun i s Q E hi st hQ => W.item i s Q E hi st fun v h' tk ⟨c, u, h1, h2⟩ => hQ v h' tk ⟨c, u, by simpa using h1, h2⟩, W.done, W.self⟩
end Mine
end

section
open PySem PySem.W PySem.Calls PyProof.Rows Mine
set_option maxRecDepth 100000
set_option maxHeartbeats 1000000
namespace Mine


local macro_rules | `(tactic| wtm_at "halt") => `(tactic| (with_reducible (first | show DhAt _ _ _ _ _ _ _ _ _ _ _ _ _ _ _ _ | show wpAny _ _ (exec (Stmt.Assign _ (Expr.DictComp _ _ _ _ _) _) _) _ _ _ | show wpAny _ _ (exec (Stmt.Assign _ (Expr.ListComp _ _ _ _) _) _) _ _ _ | show LaAt _ _ _ _ _ _ _ _ _ _ _ _ _ _ _)))

local macro_rules | `(tactic| k_all) => `(tactic| assumption)
theorem collect {α β : Type} {P : α → β → Prop} {R : β → Prop} : ∀ (ls : List α), (∀ c ∈ ls, ∃ p, P c p ∧ R p) → ∃ EN : List β, (∀ p ∈ EN, R p) ∧ ∀ c ∈ ls, ∃ p ∈ EN, P c p
  | [], _ => ⟨[], fun _ h => (nomatch h), fun _ h => (nomatch h)⟩
  | a :: l, h => by
    obtain ⟨p, hp, hr⟩ := h a (.head _)
    obtain ⟨EN, h1, h2⟩ := collect l fun c hc => h c (.tail _ hc)
    refine ⟨p :: EN, fun q hq => ?_, fun c hc => ?_⟩
    · rcases List.mem_cons.mp hq with rfl | hq
      · exact hr
      · exact h1 q hq
    · rcases List.mem_cons.mp hc with rfl | hc
      · exact ⟨p, .head _, hp⟩
      · obtain ⟨q, a, b⟩ := h2 c hc
        exact ⟨q, .tail _ a, b⟩
/-- the ends of a letter, as a list that stands -/
inductive EndAt (hs : List (Nat × Nat)) (kvs : List (Str × Value)) (c : Nat) (p : Addr × Obj) : Prop
  | mk (q0 q1 : Nat × Nat) (t0 t1 : Tok) (k : Nat) (z1 : valueAt kvs (T1 c) = some (.ref p.1)) (z2 : endsOf hs c = [q0, q1]) (z3 : q0.2 < q1.2) (z4 : p.2 = listOf #[.int (q0.2 : Nat) t0, .int (q1.2 : Nat) t1] k) : EndAt hs kvs c p
theorem allLt_ne {d : Nat} {l : List (Addr × Obj)} (h : AllLt d l) : ∀ p ∈ l, p.1 ≠ d := by
  induction l with
  | nil => intro p hp; cases hp
  | cons a r ih =>
    intro p hp
    rcases List.mem_cons.mp hp with e | hp
    · rw [e]; exact Nat.ne_of_lt h.1
    · exact ih h.2 p hp
theorem get0 {a b : Value} : (#[a, b] : Array Value)[(0 : Int).toNat]? = some a := rfl
theorem get1 {a b : Value} : (#[a, b] : Array Value)[(1 : Int).toNat]? = some b := rfl
theorem Pairs.inj {prog : Program} {w : World} : ∀ {es : List DictEntry} {a b : List (Str × Value)}, Pairs (strKind prog w) es a → Pairs (strKind prog w) es b → a = b
  | _, _, _, .nil, .nil => rfl
  | _, _, _, .cons (kv := x) h1 h2 h3, .cons (kv := y) g1 g2 g3 => by
    rw [Pairs.inj h3 g3]
    congr 1
    exact Prod.ext (Value.isStrOf_inj _ _ _ h1 g1) (h2.symm.trans g2)
theorem dict_inj {prog : Program} {w : World} {o : Obj} {a b : List (Str × Value)} (h : o.IsDictOf (strKind prog w) a) (g : o.IsDictOf (strKind prog w) b) : a = b := by
  obtain ⟨es, ep, _, e1, _, p1, _⟩ := h
  obtain ⟨es2, ep2, _, e2, _, p2, _⟩ := g
  rw [e1] at e2
  cases e2
  exact Pairs.inj p1 p2
theorem RowIs.inj : ∀ {kvs : List (Str × Value)} {a b : List (Nat × Int)}, RowIs kvs a → RowIs kvs b → a = b
  | _, _, _, .nil, .nil => rfl
  | _, _, _, .cons (b := x) ⟨h1, t, h2⟩ h3, .cons (b := y) ⟨g1, u, g2⟩ g3 => by
    rw [RowIs.inj h3 g3]
    congr 1
    rw [h1, T1_inj] at g1
    rw [h2] at g2
    exact Prod.ext g1 (Value.int.inj g2).1
/-- one of the sums, among the frozen objects -/
inductive OneAt (prog : Program) (w : World) (FN : List (Addr × Obj)) (v : Value) (one : List (Nat × Int)) : Prop
  | mk (f : Addr) (of : Obj) (kv1 : List (Str × Value)) (z1 : v = Value.ref f) (z2 : (f, of) ∈ FN) (z3 : (f == sysModules) = false) (z4 : of.IsDictOf (strKind prog w) kv1) (z5 : RowIs kv1 one) : OneAt prog w FN v one
theorem OneAt.inj {prog : Program} {w : World} {FN : List (Addr × Obj)} {h : Heap} (hF : ∀ p ∈ FN, h.get? p.1 = some p.2) {v : Value} {a b : List (Nat × Int)} (x : OneAt prog w FN v a) (y : OneAt prog w FN v b) : a = b := by
  obtain ⟨f, of, kv, rfl, m, _, d, r⟩ := x
  obtain ⟨f', of', kv', e, m', _, d', r'⟩ := y
  cases e
  have e1 := hF _ m
  have e2 := hF _ m'
  dsimp only at e1 e2
  rw [e1] at e2
  cases e2
  rw [dict_inj d d'] at r
  exact RowIs.inj r r'
theorem rowAt_N {prog : Program} {w : World} {h₀ h : Heap} {L d : Addr} {news : List (Addr × Obj)} {o : Obj} {kvs : List (Str × Value)} {qs : List (Nat × Int)} (N : News h₀ L h news) (hm : (d, o) ∈ news) (hds : (d == sysModules) = false)
    (hd : o.IsDictOf (strKind prog w) kvs) (hr : RowIs kvs qs) : RowAt prog w h d qs := by
  obtain ⟨ep, hx⟩ := Heap.DictOf.dictAt (Heap.dictOf_iff.mpr ⟨o, (N _ hm).1, hd⟩)
  exact ⟨hds, ep, kvs, hx, hr⟩
theorem Paired.app2 {α β : Type} {R : α → β → Prop} : ∀ {a b : List α} {c d : List β}, Paired R a c → Paired R b d → Paired R (a ++ b) (c ++ d)
  | _, _, _, _, .nil, h => h
  | _, _, _, _, .cons x y, h => .cons x (Paired.app2 y h)
theorem wpAny_Call_values {prog : Program} {w : World} {K : Type} [DecidableEq K] {knd : KeyKind prog w K} {A : Around} {E : Value → Shared → Prop} {s : Shared} {env : Env} {o : Expr} {apos pos : Pos} {d : Addr} {kvs : List (K × Value)} {Q : Value → Shared → Prop} (hdS : (d == sysModules) = false) (hm : s.heap.DictOf knd d kvs)
    (hbase : attributeBase o "values" env (eval o env) = eval o env) (hline : (apos.endLine == pos.line) = true)
    (ho : ∀ Q', Q' (.ref d) s → wpAny (model prog w) A (eval o env) Q' E s)
    (hQ : Q (.ref s.heap.objs.size) { s with heap := s.heap.push { cls := .type "dict_values", data := .fields #[.ref d] } }) :
    wpAny (model prog w) A (eval (.Call (.Attribute o "values" apos) [] [] pos) env) Q E s := by
  refine wpAny_Call_method (T := "dict") (id := "dict.values") hbase rfl hline F.plainAttrs_dict F.slot_dict_values F.type_dict_values (ho _ ⟨hm.typeIs, hm.mapOf.noDict, ?_⟩)
  show wpAny _ _ (callWith pos (.builtin "dict.values") [.ref d] [] []) Q E s
  exact method_meetsIn F.slot_dict_values F.entry_dict_values rfl (PySem.evalArgs_none ⟨rfl, hm.typeIs, F.args_dict_values_1 _, _, meets_dict_values knd d hdS, ⟨kvs, hm⟩, hQ⟩)
theorem eqE {prog : Program} {w : World} {A : Around} {E : Value → Shared → Prop} {s : Shared} {h₀ : Heap} {L a b : Addr} {news : List (Addr × Obj)} {ys : Array Value} {k1 k2 : Nat} {ns : List Int} {Q : Value → Shared → Prop} (N : News h₀ L s.heap news) (ha : (a, listOf ys k1) ∈ news) (hb : (b, listOf #[] k2) ∈ news)
    (hi : IntsAre ys.toList ns) (hu : A.units + 64 < cLine) (h : Q (.bool (decide (ns = []))) s) : wpAny (model prog w) A (compareOp .Eq (.ref a) (.ref b)) Q E s :=
  ke_eq_ints (xs := ys.toList) (ys := []) (by rw [Array.toArray_toList]; exact isL_N N ha) (isL_N N hb) hi .nil hu h
theorem newList_P {M : Model} {A : Around} {E : Value → Shared → Prop} {s : Shared} {h₀ : Heap} {L : Addr} {m : Str → Option Value} {news : List (Addr × Obj)} {vs : List Value} {Q : Value → Shared → Prop} (F : Fr h₀ L s.heap m) (N : News h₀ L s.heap news) (hsz : vs.length ≤ 1000)
    (h : ∀ l h', Fr h₀ L h' m → News h₀ L h' ((l, listOf vs.toArray 0) :: news) → (∀ p ∈ news, p.1 < l) → (∀ b o, s.heap.get? b = some o → h'.get? b = some o) → Q (.ref l) { s with heap := h' }) : wpAny M A (newList vs) Q E s := by
  refine wpAny_newList (h _ _ (F.push _) (List.forall_mem_cons.mpr ⟨⟨Heap.get?_push_size _ rfl, ?_, ?_⟩, N.grown fun b o e => Heap.get?_push_of_some _ e⟩) (fun p hp => Heap.lt_size (N p hp).1) (fun b o e => Heap.get?_push_of_some _ e)) (small_line hsz)
  · obtain ⟨o, _, _, e, _⟩ := F.ns
    exact Nat.ne_of_gt (Heap.lt_size e)
  · cases e : h₀.get? s.heap.objs.size with
    | none => rfl
    | some o => exact absurd (Heap.lt_size (F.keep _ _ e)) (Nat.lt_irrefl _)
/-- the numbers of a table's filtered row -/
theorem rowVals {P : Nat × Int → Bool} {one : List (Nat × Int)} {ys : List Value} (h : Paired (fun (q : Nat × Int) y => ∃ t, y = Value.int q.2 t) (one.filter P) ys) : IntsAre ys ((one.filter P).map (·.2)) := by
  generalize one.filter P = l at h
  induction h with
  | nil => exact .nil
  | cons h _ ih =>
    obtain ⟨t, rfl⟩ := h
    exact .cons _ t ih
theorem evenRow_iff (one : List (Nat × Int)) : decide (((one.filter fun q => q.2.fmod 2 == 1).map (·.2)) = []) = evenRow one := by
  rw [Bool.eq_iff_iff, decide_eq_true_iff, List.map_eq_nil_iff, List.filter_eq_nil_iff]
  unfold evenRow
  rw [List.all_eq_true]
  refine forall_congr' fun q => imp_congr_right fun _ => ?_
  rw [Int.fmod_eq_emod_of_nonneg _ (by decide)]
  simp
theorem neAB {a b : Nat} (h : a ≠ b) : @Ne Addr a b := h
theorem intT1 {p : Nat} (hp : p < 10) : PySem.intText? (T1 (48 + p)) = some (p : Int) := by
  rcases p with _|_|_|_|_|_|_|_|_|_|p
  all_goals first | (exfalso; omega) | decide +kernel | rfl
theorem Hdr.mono {h h' : Heap} {x dx hl n : Nat} {its : List Value} (H : Hdr h x dx hl its n) (k : ∀ b o, h.get? b = some o → h'.get? b = some o) : Hdr h' x dx hl its n := by
  obtain ⟨⟨a, b, c, I⟩, l⟩ := H
  exact ⟨⟨a, b, c, Mine.InstAt.mono I k⟩, k _ _ l⟩
section
variable {prog : Program} {w : World} {A : Around} {E : Value → Shared → Prop} {s : Shared} {h₀ : Heap} {L d : Addr} {m : Str → Option Value} {news : List (Addr × Obj)} {o : Obj} {kvs : List (Str × Value)} {hs : List (Nat × Nat)} {ls : List Nat} {FN : List (Addr × Obj)} {c : Nat}
theorem endS {t : Tok} {value slice : Expr} {Q : Value → Shared → Prop} (N : News h₀ L s.heap news) (hd : o.IsDictOf (strKind prog w) kvs) (hm : (d, o) ∈ news) (hE : ∀ c ∈ ls, ∃ p ∈ FN, EndAt hs kvs c p) (hc : c ∈ ls)
    (h : ∀ l t0 t1 k, (l, listOf #[.int (end1 hs c : Nat) t0, .int (end2 hs c : Nat) t1] k) ∈ FN → end1 hs c < end2 hs c → Q (.ref l) { s with toks := s.toks + 1 })
    (hsb : subscripted slice false (.ref d) (.str (T1 c) t) = operate [.ref d, .str (T1 c) t] (getItem (.ref d) (.str (T1 c) t)) := by with_unfolding_all rfl) : wpAny (model prog w) A (subscriptTail value slice (.ref d) (.str (T1 c) t)) Q E s := by
  have hdd : s.heap.DictOf (strKind prog w) d kvs := Heap.dictOf_iff.mpr ⟨o, (N _ hm).1, hd⟩
  obtain ⟨⟨l, ol⟩, hp, q0, q1, t0, t1, k, e1, e2, e3, e4⟩ := hE c hc
  dsimp only at e1 e4
  subst e4
  have h1 : end1 hs c = q0.2 := by unfold end1; rw [e2]; rfl
  have h2 : end2 hs c = q1.2 := by unfold end2; rw [e2]; rfl
  exact tail_any hdd.typeIs slot_dict_getitem.lookup (wpAny_getItem_of (strKind_is prog w (T1 c) t) hdd.mapOf e1 (h l t0 t1 k (by rw [h1, h2]; exact hp) (by rw [h1, h2]; exact e3))) hsb
end
local macro_rules | `(tactic| k_mem) => `(tactic| assumption)
local macro_rules | `(tactic| walk_at "subscriptTail Name Name ref str") => `(tactic| (k_here; k_dflt (refine' endS ?N ?d ?m ?r ?x ?_; (case N => k_asm); (case m => k_mem); (case d | r | x => assumption); k_whole); intro l8 t8 u8 k8 m8 lt8))
local macro_rules | `(tactic| walk_at "subscriptTail Name Constant ref int") => `(tactic| (k_here; (with_reducible show wpAny _ _ (subscriptTail _ _ (Value.ref _) (Value.int _ _)) _ _ _); k_dflt (refine' PyProof.Rows.item_list ?h ?h0 ?hf ?hx ?_; (case h => exact isL_N (by k_asm) (by k_mem)); (case h0 | hf => decide); (case hx => first | exact get0 | exact get1); k_whole)))
local macro_rules | `(tactic| walk_at "newList") => `(tactic| (k_here; k_dflt (refine' newList_P ?k1 ?k2 ?k3 ?_; (case k1 | k2 => k_asm); (case k3 => exact Nat.le_of_ble_eq_true rfl); k_whole); intro l' h' F' N' l1 k'; (try k_lt l1); (try k_sweep)))
local macro_rules | `(tactic| walk_at "compareOp Eq ref ref") => `(tactic| (k_here; k_dflt (refine' eqE ?N ?a ?b ?i ?u ?_; (case N => k_asm); (case a | b => k_mem); (case i => assumption); (case u => ktr_units); k_whole)))
local macro_rules | `(tactic| walk_at "call ref") => `(tactic| (k_here; k_dflt (first
  | (refine' Fin1.use (getAll (Cx.of ?k1 ?k2 ?k3 ?k4 ?k5) ?kd ?ku ?kc ?kH ?kp ?kok ?kl) ?kF ?kN ?kE ?_; (case k1 | k2 | k3 | k4 => k_asm); (case k5 => first | exact rfl | assumption); (case kd => ktr_room); (case ku => ktr_units); (case kc => assumption); (case kH => exact Hdr.mono (by assumption) (Fr.keep (by k_asm))); (case kp => exact Paired.imp (by assumption) fun v q _ _ p => PairAt.keeps p (Fr.keep (by k_asm))); (case kok | kl => assumption); (case kF | kN => k_asm); (case kE => exact fun _ _ h => h); k_whole; intro v9 h9 tk9 R9 F9 N9 K9; obtain ⟨D9, ys9, k9, e9, hD9, hys9, hP9⟩ := R9; subst e9; (try dsimp only); (try k_fold))
  | (refine' Fin1.use (keysL (Cx.of ?k1 ?k2 ?k3 ?k4 ?k5) ?kd ?ku ?kH ?kp ?kl) ?kF ?kN ?kE ?_; (case k1 | k2 | k3 | k4 => k_asm); (case k5 => first | exact rfl | assumption); (case kd => ktr_room); (case ku => ktr_units); (case kH => exact Hdr.mono (by assumption) (Fr.keep (by k_asm))); (case kp => exact Paired.imp (by assumption) fun v q _ _ p => PairAt.keeps p (Fr.keep (by k_asm))); (case kl => assumption); (case kF | kN => k_asm); (case kE => exact fun _ _ h => h); k_whole; intro v9 h9 tk9 R9 F9 N9 K9; obtain ⟨D9, ys9, k9, e9, hD9, hys9, hP9⟩ := R9; subst e9; (try dsimp only); (try k_fold))
  | (refine' Fin1.use (bisR (Cx.of ?k1 ?k2 ?k3 ?k4 ?k5) ?kd ?ku ?kl ?ko) ?kF ?kN ?kE ?_; (case k1 | k2 | k3 | k4 => k_asm); (case k5 => first | exact rfl | assumption); (case kd => ktr_room); (case ku => ktr_units); (case kl => exact isL_N (by k_asm) (by k_mem)); (case ko => omega); (case kF | kN => k_asm); (case kE => exact fun _ _ h => h); k_whole; intro v9 h9 tk9 R9 F9 N9 K9; obtain ⟨t9, e9⟩ := R9; subst e9; (try dsimp only); (try k_fold))
  | (refine' Fin1.use (bisL (Cx.of ?k1 ?k2 ?k3 ?k4 ?k5) ?kd ?ku ?kl ?ko) ?kF ?kN ?kE ?_; (case k1 | k2 | k3 | k4 => k_asm); (case k5 => first | exact rfl | assumption); (case kd => ktr_room); (case ku => ktr_units); (case kl => exact isL_N (by k_asm) (by k_mem)); (case ko => omega); (case kF | kN => k_asm); (case kE => exact fun _ _ h => h); k_whole; intro v9 h9 tk9 R9 F9 N9 K9; obtain ⟨t9, e9⟩ := R9; subst e9; (try dsimp only); (try k_fold))
  | (refine' Fin1.use (addC (Cx.of ?k1 ?k2 ?k3 ?k4 ?k5) ?kd ?ku ?ka ?kb ?kl ?kl2) ?kF ?kN ?kE ?_; (case k1 | k2 | k3 | k4 => k_asm); (case k5 => first | exact rfl | assumption); (case kd => ktr_room); (case ku => ktr_units); (case ka | kb => exact rowAt_N (by k_asm) (by k_mem) (by assumption) (by assumption) (by assumption)); (case kl | kl2 => assumption); (case kF | kN => k_asm); (case kE => exact fun _ _ h => h); k_whole; intro v9 h9 tk9 R9 F9 N9 K9; obtain ⟨f9, e9, hf9, hr9⟩ := R9; subst e9; (try dsimp only); (try k_fold))
  )))


/-- an address that is none of those that stand -/
structure Far (g : Heap) (L it f : Addr) : Prop where
  a : f ≠ L
  b : g.get? f = none
  c : f ≠ L + 1
  d : f ≠ L + 1 + 1
  e : f ≠ L + 1 + 1 + 1
  i : f ≠ it
inductive EvG (g : Heap) (L : Addr) (hs : List (Nat × Nat)) (X : List Addr) (h : Heap) (v y : Value) : Prop
  | mk (c : Nat) (t : Tok) (l : Addr) (q0 q1 : Nat × Nat) (t0 t1 : Tok) (k : Nat) (z1 : v = Value.str (T1 c) t) (z2 : y = Value.ref l) (z3 : endsOf hs c = [q0, q1]) (z4 : q0.2 < q1.2) (z5 : l ∉ X) (z6 : Far g L l.succ l) (z7 : h.get? l = some (listOf #[.int (q0.2 : Nat) t0, .int (q1.2 : Nat) t1] k)) : EvG g L hs X h v y
inductive EvJ (prog : Program) (w : World) (g : Heap) (L it D : Addr) (oD cRib : Obj) (hs : List (Nat × Nat)) (ls : List Nat) (kvs : List (Str × Value)) (m0 : Str → Option Value) (i : Nat) (h : Heap) : Prop
  | mk (m : Str → Option Value) (oRow oLet : Obj) (rv lv : Option Value) (sl : Addr) (vals : Array Value) (k : Nat) (FN : List (Addr × Obj)) (z1 : Fr g L h m) (z2 : News g L h ((sl, listOf vals k) :: (D, oD) :: (L + 1 + 1 + 1, oRow) :: (L + 1 + 1, oLet) :: (L + 1, cRib) :: FN))
    (z3 : oRow.data = Data.cell rv) (z4 : oLet.data = Data.cell lv) (z5 : ∀ y, y ∉ [Str.ofString "first", Str.ofString "second", Str.ofString "signs", Str.ofString "other", Str.ofString "until", Str.ofString "sums"] → m y = m0 y) (z6 : m (Str.ofString "sums") = some (.ref sl))
    (z7 : ∀ p ∈ FN, p.1 ≠ L + 1) (z8 : ∀ p ∈ FN, p.1 ≠ L + 1 + 1) (z9 : ∀ p ∈ FN, p.1 ≠ L + 1 + 1 + 1) (z10 : ∀ p ∈ FN, p.1 ≠ it) (z11 : ∀ c ∈ ls, ∃ p ∈ FN, EndAt hs kvs c p) (z12 : sl ≠ L + 1 + 1) (z13 : sl ≠ L + 1 + 1 + 1) (z14 : sl ≠ it)
    (z15 : Paired (OneAt prog w FN) vals.toList (sumsTo hs ls (ls.take i))) : EvJ prog w g L it D oD cRib hs ls kvs m0 i h
inductive EvJ2 (prog : Program) (w : World) (g : Heap) (L dr : Addr) (rest : List (Addr × Obj)) (R : List (Nat × Int)) (m1 : Str → Option Value) (h : Heap) : Prop
  | mk (m : Str → Option Value) (oR : Obj) (kvR : List (Str × Value)) (z1 : Fr g L h m) (z2 : News g L h ((dr, oR) :: rest)) (z3 : ∀ y, y ∉ [Str.ofString "other", Str.ofString "until"] → m y = m1 y) (z4 : oR.IsDictOf (strKind prog w) kvR) (z5 : RowIs kvR R) : EvJ2 prog w g L dr rest R m1 h
inductive EvS (prog : Program) (w : World) (g : Heap) (L it : Addr) (h : Heap) (R : List (Nat × Int)) (y : Value) : Prop
  | mk (f : Addr) (of : Obj) (kv : List (Str × Value)) (z1 : y = Value.ref f) (z2 : Far g L it f) (z3 : h.get? f = some of) (z4 : (f == sysModules) = false) (z5 : of.IsDictOf (strKind prog w) kv) (z6 : RowIs kv R) : EvS prog w g L it h R y
inductive EvG2 (prog : Program) (w : World) (g : Heap) (L it : Addr) (FN : List (Addr × Obj)) (r : List (Nat × Int)) (X : List Addr) (h : Heap) (v y : Value) : Prop
  | mk (one : List (Nat × Int)) (f : Addr) (of : Obj) (kv : List (Str × Value)) (z0 : OneAt prog w FN v one) (z1 : y = Value.ref f) (zX : f ∉ X) (z2 : Far g L it f) (z3 : h.get? f = some of) (z4 : (f == sysModules) = false) (z5 : of.IsDictOf (strKind prog w) kv) (z6 : RowIs kv (r.foldl addP (cpR one))) : EvG2 prog w g L it FN r X h v y
theorem evenT {w : World} {A : Around} {s : Shared} {E : Value → Shared → Prop} {x dx hl n : Nat} {its : List Value} {hs : List (Nat × Nat)} {ls : List Nat} {tl : Tok}
    (cx : Cx w A s.heap) (hd : A.depth + 30 < recursionLimit) (hu : A.units + 300 < cLine) 
    (H : Hdr s.heap x dx hl its n) (hp : Paired (PairAt s.heap) its hs) (hok : ∀ q ∈ hs, okCode q.1 = true ∧ q.2 < 10) (hlen : its.length ≤ 1000)
    (hls : ∀ c ∈ ls, okCode c = true) (hl5 : ls.length ≤ 5) (hgood : ∀ c ∈ ls, ∃ q0 q1, endsOf hs c = [q0, q1] ∧ q0.2 < q1.2) :
    wpAny (model PySem.Challenge.rw_pm0057_01.row.toRowW.prog w) A (call (.ref 223) [.ref x, .str ⟨ls.toArray⟩ tl])
      (Fin1 (fun v _ => ∃ t, v = .int ((evenCount hs ls : Nat) : Int) t) s) E s := by
  obtain ⟨dp, un, gd, cn, cs', L, a, ccd, cl, outer, A₀, base, h₀, m, mean, mg, mb, rfl, B, F, X, T, hk⟩ := cx.is
  clear cx
  obtain ⟨hsh, tki, k, I⟩ := H.inst
  revert X; k_fill; intro X
  refine wpAny_call ?_
  k_dflt (ktr_call ([(Str.ofString "ribbons", Value.ref x), (Str.ofString "left", Value.str ⟨ls.toArray⟩ tl)]) Lf)
  rename_i h0e tk0 F0 B0 X0 T0 cRow cLet cRib dRow dLet dRib N0
  k_steps
  refine' dcAss (h₀ := s.heap) (L := Lf) (knd := strKind PySem.Challenge.rw_pm0057_01.row.toRowW.prog w) ?hsw ?hL ?hy ?hp ?hclos ?hcell ?hkind ?hnames ?hx ?hs ?h
  case hsw => with_unfolding_all rfl
  case hL => with_unfolding_all rfl
  case hclos => with_unfolding_all rfl
  case hcell => decide
  case hkind => with_unfolding_all rfl
  case hnames => decide
  case hx => with_unfolding_all rfl
  case hy => with_unfolding_all rfl
  case hp => with_unfolding_all rfl
  case hs => intro _; with_unfolding_all rfl
  k_steps
  have hls8 : ∀ c ∈ ls, c < 128 := fun c hc => okCode_lt (hls c hc)
  refine pyIter_s hls8 ?_
  have i0 : ∀ b o, h0e.get? b = some o → b ≠ h0e.objs.size := fun b o e => Nat.ne_of_lt (Heap.lt_size e)
  have iL : Lf ≠ h0e.objs.size := by obtain ⟨o, _, _, e, _⟩ := F0.ns; exact i0 _ _ e
  have iG : ∀ b o, s.heap.get? b = some o → b ≠ h0e.objs.size := fun b o e => i0 _ _ (F0.keep _ _ e)
  have iN1 : @Ne Nat (Lf + 1 + 1 + 1) h0e.objs.size := i0 _ _ (N0 (_, cRow) (by repeat (first | exact List.Mem.head _ | refine List.Mem.tail _ ?_))).1
  have iN2 : @Ne Nat (Lf + 1 + 1) h0e.objs.size := i0 _ _ (N0 (_, cLet) (by repeat (first | exact List.Mem.head _ | refine List.Mem.tail _ ?_))).1
  have iN3 : @Ne Nat (Lf + 1) h0e.objs.size := i0 _ _ (N0 (_, cRib) (by repeat (first | exact List.Mem.head _ | refine List.Mem.tail _ ?_))).1
  have F1 := F0.push { cls := .type "str_ascii_iterator", data := .fields #[.str ⟨ls.toArray⟩ tl, .int 0 0] }
  refine ⟨h0e.objs.size, ls.length, _, _, fun v k => ∃ t, v = Value.str k t, EvG s.heap Lf hs, _, rfl, F1, iL, iG, walksS rfl _ ls tl, small_line (by omega), ?st0, ?isI, ?stI, ?stab, ?key, ?val, ?done⟩
  case st0 => exact ⟨_, Heap.get?_push_size _ rfl, rfl, rfl⟩
  case isI => rw [Heap.get?_push_size _ rfl]; rfl
  case stI => rintro i h ⟨o, e, _⟩; rw [e]; rfl
  case stab =>
    rintro X h h' v y ⟨c, t, l, q0, q1, t0, t1, k, e1, e2, e3, e4, e5, e6, e10⟩ hk
    exact ⟨c, t, l, q0, q1, t0, t1, k, e1, e2, e3, e4, e5, e6, hk _ _ e5 e10⟩
  case key =>
    rintro C i v s₃ m₃ E' ⟨c, u, hc, rfl⟩ hn hm hk1 hC
    k_steps
    exact Fin1.of (fun _ _ e => e) ⟨T1 c, strKind_is _ _ (T1 c) u, u, rfl⟩
  case val =>
    rintro C D i v s₃ m₃ E' ⟨c, u, hc, rfl⟩ hn hm hk1 hI1 hD1 hCD hCI hC
    have F2 := Fr.keptBut F1 hk1 (fun b hb => by
      cases q : s.heap.get? b with
      | none => rfl
      | some o => exact absurd (List.mem_singleton.mp hb) (iG _ _ q)) (by simpa using iL)
    have N2 := News.keptBut (X := [h0e.objs.size]) (N0.grown (fun b o e => Heap.get?_push_of_some _ e)) hk1 (by
      simp only [List.mem_cons, List.not_mem_nil, or_false, forall_eq_or_imp, forall_eq]
      exact ⟨iN1, iN2, iN3⟩)
    have hcm := List.mem_of_getElem? hc
    have hcok := hls c hcm
    k_steps
    refine' lcL ?hh ?hclos ?hcell ?hkind ?hnames ?hx ?hs ?h
    case hh => exact rfl
    case hclos => with_unfolding_all rfl
    case hcell => decide
    case hkind => with_unfolding_all rfl
    case hnames => decide
    case hx => with_unfolding_all rfl
    case hs => intro _; with_unfolding_all rfl
    k_steps
    rename_i cE h9 tk9 F9 N9 K9 D9 ys9 k9 hD9 hys9 hP9
    obtain ⟨q0, q1, hq, hql⟩ := hgood c hcm
    have hq9 : (hs.filter fun q => lowc q.1 == lowc c) = [q0, q1] := hq
    have hq0 : q0 ∈ hs := (List.mem_filter.mp (hq9 ▸ List.mem_cons_self)).1
    have hq1 : q1 ∈ hs := (List.mem_filter.mp (hq9 ▸ List.mem_cons_of_mem _ List.mem_cons_self)).1
    rw [hq9] at hP9
    have hP8 := Paired.symmF hP9
    refine ⟨D9, ys9.toList, fun _ => true, fun v y => ∃ p : Nat, (∃ t, v = Value.str (T1 (48 + p)) t) ∧ ∃ t, y = Value.int (p : Int) t, rfl, ?_, ?_, ?_, ?_, ?_⟩
    · exact ⟨_, hys9, rfl, _, rfl⟩
    · exact small_line (by have := hP9.length; simp at this ⊢; omega)
    · intro C v s₂ m₂ E' hv hn hm hk2
      have F9 := F9.keeps hk2
      have N9 := N9.grown hk2
      k_steps
      exact Fin1.of (fun _ _ e => e) rfl
    · intro C v s₂ m₂ E' hv hpv hn hm hk2
      obtain ⟨q, hqm, t, rfl⟩ := Paired.memL hP8 v hv
      have F9 := F9.keeps hk2
      have N9 := N9.grown hk2
      k_steps
      have hqlt : q.2 < 10 := by
        rcases List.mem_cons.mp hqm with rfl | h
        · exact (hok _ hq0).2
        · rw [List.mem_singleton.mp h]; exact (hok _ hq1).2
      refine KIN.call_text (intT1 hqlt) (show 1 ≤ 640 by decide) ?_
      exact Fin1.of (fun _ _ e => e) ⟨q.2, ⟨_, rfl⟩, _, rfl⟩
    intro D3 ys k' h' tk hD hys hP hk3
    rw [List.filter_eq_self.mpr (fun _ _ => rfl)] at hP
    have hne : ∀ b o, h9.get? b = some o → D3 ≠ b := fun b o e x => by rw [← x, hD] at e; cases e
    have hL3 : D3 ≠ Lf := by obtain ⟨o, _, _, e, _⟩ := F9.ns; exact hne _ _ e
    have hC3 : D3 ≠ C := by obtain ⟨o, _, _, e, _⟩ := hn; exact hne _ _ (K9 _ _ e)
    have hI3 : D3 ≠ h0e.objs.size := by obtain ⟨o, e⟩ := Option.isSome_iff_exists.mp hI1; exact hne _ _ (K9 _ _ e)
    have hD3 : D3 ≠ D := by obtain ⟨o, e⟩ := Option.isSome_iff_exists.mp hD1; exact hne _ _ (K9 _ _ e)
    have h2 : Paired (fun (q : Nat × Nat) y => ∃ t, y = Value.int (q.2 : Nat) t) [q0, q1] ys.toList := Paired.conv hP8 (fun v q y _ hr hf => by
      obtain ⟨p, ⟨t, rfl⟩, t', rfl⟩ := hf
      obtain ⟨t2, e⟩ := hr
      have := (Value.str.inj e).1
      rw [T1_inj] at this
      exact ⟨t', by rw [show p = q.2 by omega]⟩) hP
    refine ⟨?_, h', tk, rfl, fun b o e => hk3 _ _ (K9 _ _ e)⟩
    have hys3 : ∃ t0 t1, ys = #[Value.int (q0.2 : Nat) t0, Value.int (q1.2 : Nat) t1] := by
      generalize hyl : ys.toList = yl at h2
      rcases h2 with _ | ⟨⟨t0, rfl⟩, _ | ⟨⟨t1, rfl⟩, _ | _⟩⟩
      exact ⟨t0, t1, by rw [← Array.toArray_toList (xs := ys), hyl]⟩
    obtain ⟨t0, t1, rfl⟩ := hys3
    refine ⟨c, _, D3, q0, q1, t0, t1, k', rfl, rfl, hq, hql, by simp [hC3, hD3, hI3, hL3], ⟨hL3, notIn_of F9.keep hD, hne _ _ (N9 (_, cRib) (.tail _ (.tail _ (.head _)))).1, hne _ _ (N9 (_, cLet) (.tail _ (.head _))).1, hne _ _ (N9 (_, cRow) (.head _)).1, Nat.ne_of_lt (Nat.lt_succ_self _)⟩, hys⟩
  case done =>
    intro X D kvs h' tk vs hD hkv hlen2 hP hS F3 hk3
    have N3 := News.keptBut (X := [Lf, h0e.objs.size]) (N0.grown (fun b o e => Heap.get?_push_of_some _ e)) hk3 (by
      simp only [List.mem_cons, List.not_mem_nil, or_false, forall_eq_or_imp, forall_eq, not_or]
      exact ⟨⟨neAB (by omega), iN1⟩, ⟨neAB (by omega), iN2⟩, ⟨neAB (by omega), iN3⟩⟩)
    have hsD : s.heap.get? D = none := notIn_of F1.keep hD
    have hLD : D ≠ Lf := by obtain ⟨o, _, _, e, _⟩ := F1.ns; rintro rfl; rw [hD] at e; cases e
    obtain ⟨oD, hoD, hdD⟩ := Heap.dictOf_iff.mp hkv
    have hvs : ∀ c ∈ ls, ∃ v ∈ vs, ∃ t, v = Value.str (T1 c) t := fun c hc => by
      obtain ⟨i, hi⟩ := List.mem_iff_getElem?.mp hc
      have hil : i < vs.length := by rw [hlen2]; exact (List.getElem?_eq_some_iff.mp hi).1
      obtain ⟨c', u, e1, e2⟩ := hP i _ (List.getElem?_eq_getElem hil)
      rw [hi] at e1
      cases e1
      exact ⟨_, List.getElem_mem hil, u, e2⟩
    obtain ⟨EN, hEN, hEn⟩ := collect (P := EndAt hs kvs) (R := fun p => h'.get? p.1 = some p.2 ∧ Far s.heap Lf (Nat.succ p.1) p.1) ls (fun c hc => by
      obtain ⟨y, v, e1, ⟨t, e2⟩, e3⟩ := StoredAll.look hS (T1 c) (hvs c hc)
      obtain ⟨c', t', l, q0, q1, t0, t1, k, f1, rfl, f3, f4, f5, f6, f10⟩ := e3
      rw [e2] at f1
      have := (Value.str.inj f1).1
      rw [T1_inj] at this
      subst this
      refine ⟨(l, _), ⟨q0, q1, t0, t1, k, e1, f3, f4, rfl⟩, f10, f6⟩)
    have N4 : News s.heap Lf h' ((D, oD) :: (Lf + 1 + 1 + 1, cRow) :: (Lf + 1 + 1, cLet) :: (Lf + 1, cRib) :: EN) := by
      refine List.forall_mem_cons.mpr ⟨⟨hoD, hLD, hsD⟩, List.forall_mem_cons.mpr ⟨N3 _ (.head _), List.forall_mem_cons.mpr ⟨N3 _ (.tail _ (.head _)), List.forall_mem_cons.mpr ⟨N3 _ (.tail _ (.tail _ (.head _))), fun p hp => ?_⟩⟩⟩⟩
      exact ⟨(hEN p hp).1, (hEN p hp).2.a, (hEN p hp).2.b⟩
    have hE1 : ∀ p ∈ EN, p.1 ≠ Lf + 1 := fun p hp => (hEN p hp).2.c
    have hE2 : ∀ p ∈ EN, p.1 ≠ Lf + 1 + 1 := fun p hp => (hEN p hp).2.d
    have hE3 : ∀ p ∈ EN, p.1 ≠ Lf + 1 + 1 + 1 := fun p hp => (hEN p hp).2.e
    have hDne : ∀ b o, h0e.get? b = some o → D ≠ b := fun b o e x => by rw [← x] at e; have := Heap.get?_push_of_some { cls := .type "str_ascii_iterator", data := .fields #[.str ⟨ls.toArray⟩ tl, .int 0 0] } e; rw [hD] at this; cases this
    have hD1 : @Ne Nat D (Lf + 1) := hDne _ _ (N0 (_, cRib) (by repeat (first | exact List.Mem.head _ | refine List.Mem.tail _ ?_))).1
    have hD2 : @Ne Nat D (Lf + 1 + 1) := hDne _ _ (N0 (_, cLet) (by repeat (first | exact List.Mem.head _ | refine List.Mem.tail _ ?_))).1
    have hD3 : @Ne Nat D (Lf + 1 + 1 + 1) := hDne _ _ (N0 (_, cRow) (by repeat (first | exact List.Mem.head _ | refine List.Mem.tail _ ?_))).1
    clear hDne hk3 hS N3 N0 F1 F0 i0 iL iG iN1 iN2 iN3 hvs hP hD hkv hoD hEN
    (try dsimp only)
    k_steps
    (with_reducible rename Fr s.heap _ _ _ => F1)
    (with_reducible rename News s.heap _ _ _ => N1)
    rename_i d0 h1a o0 lo0 hs0 fs0 hi0 fi0 l1 sl0 h1b k2 l2 H1
    have a0 : AllLt d0 EN := l1.2.2.2.2
    have a1 : AllLt sl0 EN := l2.2.2.2.2.2
    clear fs0 hi0 fi0
    refine' forW ?hs ?h
    case hs => intro _; with_unfolding_all rfl
    k_steps
    refine pyIter_s hls8 ?_
    have i0 : ∀ b o, H1.get? b = some o → b ≠ H1.objs.size := fun b o e => Nat.ne_of_lt (Heap.lt_size e)
    have iL : Lf ≠ H1.objs.size := by obtain ⟨o, _, _, e, _⟩ := F1.ns; exact i0 _ _ e
    have iG : ∀ b ∈ [H1.objs.size], s.heap.get? b = none := fun b hb => by
      cases q : s.heap.get? b with
      | none => rfl
      | some o => exact absurd (List.mem_singleton.mp hb) (i0 _ _ (F1.keep _ _ q))
    have iN1 : @Ne Nat (Lf + 1 + 1 + 1) H1.objs.size := i0 _ _ (N1 (_, cRow) (by repeat (first | exact List.Mem.head _ | refine List.Mem.tail _ ?_))).1
    have iN2 : @Ne Nat (Lf + 1 + 1) H1.objs.size := i0 _ _ (N1 (_, cLet) (by repeat (first | exact List.Mem.head _ | refine List.Mem.tail _ ?_))).1
    have iN3 : @Ne Nat (Lf + 1) H1.objs.size := i0 _ _ (N1 (_, cRib) (by repeat (first | exact List.Mem.head _ | refine List.Mem.tail _ ?_))).1
    have iD : @Ne Nat D H1.objs.size := i0 _ _ (N1 (_, oD) (by repeat (first | exact List.Mem.head _ | refine List.Mem.tail _ ?_))).1
    obtain ⟨m0, hm0⟩ := Fr.named F1
    refine ⟨H1.objs.size, [H1.objs.size], [H1.objs.size], ls.length, _, _, fun i h => EvJ PySem.Challenge.rw_pm0057_01.row.toRowW.prog w s.heap Lf H1.objs.size D oD cRib hs ls kvs m0 i h, rfl, walksS rfl _ ls tl, fun v => rfl, ?st0, ?j0, ?turn, ?done2⟩
    case st0 => exact ⟨_, Heap.get?_push_size _ rfl, rfl, rfl⟩
    case j0 =>
      refine ⟨_, cRow, cLet, _, _, sl0, #[Value.ref d0], 0, (d0, o0) :: EN, F1.push _, (fun p hp => N1.grown (fun b o e => Heap.get?_push_of_some _ e) p (by
        simp only [List.mem_cons] at hp ⊢
        rcases hp with h | h | h | h | h | h | h <;> simp [h])), dRow, dLet, fun y _ => by rw [hm0], if_pos rfl, ?_, ?_, ?_, ?_, ?_, ?_, ?_, ?_, ?_⟩
      · exact List.forall_mem_cons.mpr ⟨Nat.ne_of_gt l1.2.2.2.1, hE1⟩
      · exact List.forall_mem_cons.mpr ⟨Nat.ne_of_gt l1.2.2.1, hE2⟩
      · exact List.forall_mem_cons.mpr ⟨Nat.ne_of_gt l1.2.1, hE3⟩
      · intro p hp
        refine i0 _ _ (N1 p ?_).1
        simp only [List.mem_cons] at hp ⊢
        rcases hp with h | h <;> simp [h]
      · intro c hc
        obtain ⟨p, hp, e⟩ := hEn c hc
        exact ⟨p, .tail _ hp, e⟩
      · exact Nat.ne_of_gt l2.2.2.2.1
      · exact Nat.ne_of_gt l2.2.2.1
      · exact i0 _ _ (N1 (sl0, _) (.head _)).1
      · exact .cons ⟨d0, o0, [], rfl, .head _, lo0, hs0, .nil⟩ .nil
    case turn =>
      intro i v h h₁ tk hi hPv hJ hk1 hst1
      refine turn_gen fun QQ hQQ => ?_
      obtain ⟨c, u, hc, rfl⟩ := hPv
      obtain ⟨m, oRow, oLet, rv, lv, sl, vals, kk, FN, Fh, Nh, dR, dL, hm, hms, g1, g2, g3, g4, hE, s1, s2, s3, hP⟩ := hJ
      have F3 := Fr.keptBut Fh hk1 iG (by simpa using iL)
      have N3 := News.keptBut (X := [H1.objs.size]) Nh hk1 (by
        simp only [List.forall_mem_cons, List.mem_singleton]
        exact ⟨s3, iD, iN1, iN2, iN3, g4⟩)
      obtain ⟨oI, eI, cI, dI⟩ := id hst1
      have NI : News s.heap Lf h₁ ((H1.objs.size, oI) :: _) := List.forall_mem_cons.mpr ⟨⟨eI, fun e => iL e.symm, iG _ (.head _)⟩, N3⟩
      have hcm := List.mem_of_getElem? hc
      have hcok := hls c hcm
      rw [mapL _ hm, hm0] at F3
      dsimp only [List.foldr] at F3
      rw [hms] at F3
      clear Fh Nh N3 hk1
      k_steps
      refine' lcAss (h₀ := s.heap) (L := Lf) ?hsw ?hL ?hy ?hp ?hh ?hclos ?hcell ?hkind ?hnames ?hx ?hs7 ?h7
      case hsw => with_unfolding_all rfl
      case hL => with_unfolding_all rfl
      case hh => exact rfl
      case hclos => with_unfolding_all rfl
      case hcell => decide
      case hkind => with_unfolding_all rfl
      case hnames => decide
      case hx => with_unfolding_all rfl
      case hy => with_unfolding_all rfl
      case hp => with_unfolding_all rfl
      case hs7 => intro _; with_unfolding_all rfl
      k_steps
      rename_i h5 oLet2 dLet2 l8 t8 u8 k8 m8 lt8 h6 h7 h8 F5 N5 h9 tk9 F9 N9 K9 D9 ys9 k9 hD9 hys9 hP9
      have hP8 := Paired.symmF hP9
      have hnl : ys9.toList.length = its.length := by rw [hP9.length.symm, hp.length]
      refine ⟨D9, ys9.toList, fun v => match v with | .str x _ => lowc (x.cps.getD 0 0) == lowc c | _ => false, fun v y => y = v, _, _, rfl, ⟨_, hys9, rfl, _, rfl⟩, small_line (by omega), F9, N9, ?tests3, ?elts3, ?done3⟩
      case tests3 =>
        intro C v s₂ m₂ E' hv hn hm hk2
        obtain ⟨q, hqm, t, rfl⟩ := Paired.memL hP8 v hv
        have hcq := (hok q hqm).1
        have F9 := F9.keeps hk2
        have N9 := N9.grown hk2
        k_steps
        exact Fin1.of (fun _ _ e => e) (by rw [Bool.eq_iff_iff, beq_iff_eq, beq_iff_eq, T1_inj]; rfl)
      case elts3 =>
        intro C v s₂ m₂ E' hv hpv hn hm hk2
        have F9 := F9.keeps hk2
        have N9 := N9.grown hk2
        k_steps
        exact Fin1.of (fun _ _ e => e) rfl
      case done3 =>
        intro D3 ys3 k3 h' tk' hDne F10 N10 hP10 hk10
        obtain ⟨q0, q1, hq, hql⟩ := hgood c hcm
        have hP11 : Paired (fun (q : Nat × Nat) y => ∃ t, y = Value.str (T1 q.1) t) [q0, q1] ys3.toList := by
          rw [← hq]
          exact Paired.conv (Paired.filter2 hP8 (pz := fun q => lowc q.1 == lowc c) (fun v q _ ⟨t, e⟩ => by rw [e]; rfl)) (fun v q y _ hr hf => by rw [hf]; exact hr) hP10
        have htwist : twist hs c = (T1 q0.1 == T1 q1.1) := by
          unfold twist; rw [hq, Bool.eq_iff_iff, beq_iff_eq, beq_iff_eq, T1_inj]; rfl
        have hys3 : ∃ t0 t1, ys3 = #[Value.str (T1 q0.1) t0, Value.str (T1 q1.1) t1] := by
          generalize hyl : ys3.toList = yl at hP11
          rcases hP11 with _ | ⟨⟨t0, rfl⟩, _ | ⟨⟨t1, rfl⟩, _ | _⟩⟩
          exact ⟨t0, t1, by rw [← Array.toArray_toList (xs := ys3), hyl]⟩
        obtain ⟨ts0, ts1, rfl⟩ := hys3
        have hx1 : @Ne Nat D3 (Lf + 1) := hDne _ _ (N9 (_, cRib) (by repeat (first | exact List.Mem.head _ | refine List.Mem.tail _ ?_))).1
        have hx2 : @Ne Nat D3 (Lf + 1 + 1) := hDne _ _ (N9 (_, oLet2) (by repeat (first | exact List.Mem.head _ | refine List.Mem.tail _ ?_))).1
        have hx3 : @Ne Nat D3 (Lf + 1 + 1 + 1) := hDne _ _ (N9 (_, oRow) (by repeat (first | exact List.Mem.head _ | refine List.Mem.tail _ ?_))).1
        clear hP10 hP11 F9 N9 K9 hys9 hP9 hP8 hnl F5 N5 hk10 hD9
        (try dsimp only)
        k_steps
        (with_reducible rename Fr s.heap _ _ _ => F6)
        (with_reducible rename News s.heap _ _ _ => N6)
        rename_i dr h10 oR loR hsR fsR hiR fiR l1R H2 oRow2 dRow2
        clear fsR hiR fiR
        have gR : ∀ p ∈ FN, p.1 ≠ dr := allLt_ne l1R.2.2.2.2.2.2.2
        refine' forW ?hs8 ?h8
        case hs8 => intro _; with_unfolding_all rfl
        k_steps
        refine pyIter_s hls8 ?_
        have j0 : ∀ b o, H2.get? b = some o → b ≠ H2.objs.size := fun b o e => Nat.ne_of_lt (Heap.lt_size e)
        have jL : Lf ≠ H2.objs.size := by obtain ⟨o, _, _, e, _⟩ := F6.ns; exact j0 _ _ e
        have jG : ∀ b ∈ [H2.objs.size], s.heap.get? b = none := fun b hb => by
          cases q : s.heap.get? b with
          | none => rfl
          | some o => exact absurd (List.mem_singleton.mp hb) (j0 _ _ (F6.keep _ _ q))
        have jN : ∀ p ∈ (dr, oR) :: (D3, _) :: (H1.objs.size, oI) :: (sl, listOf vals kk) :: (D, oD) :: (Lf + 1 + 1 + 1, oRow2) :: (Lf + 1 + 1, oLet2) :: (Lf + 1, cRib) :: FN, p.1 ∉ [H2.objs.size] := fun p hp => by simpa using j0 _ _ (N6 p hp).1
        obtain ⟨m1, hm1⟩ := Fr.named F6
        have jR : @Ne Nat dr H2.objs.size := j0 _ _ (N6 (dr, oR) (by repeat (first | exact List.Mem.head _ | refine List.Mem.tail _ ?_))).1
        refine ⟨H2.objs.size, [H2.objs.size], [H2.objs.size], ls.length, _, _, fun j h => EvJ2 PySem.Challenge.rw_pm0057_01.row.toRowW.prog w s.heap Lf dr ((D3, listOf #[Value.str (T1 q0.1) ts0, Value.str (T1 q1.1) ts1] k3) :: (H1.objs.size, oI) :: (sl, listOf vals kk) :: (D, oD) :: (Lf + 1 + 1 + 1, oRow2) :: (Lf + 1 + 1, oLet2) :: (Lf + 1, cRib) :: FN) ((ls.take j).foldl (fun r o => setP r o (cellOf hs c o)) []) m1 h, rfl, walksS rfl _ ls tl, fun v => rfl, ?st4, ?j4, ?turn4, ?done4⟩
        case st4 => exact ⟨_, Heap.get?_push_size _ rfl, rfl, rfl⟩
        case j4 => exact ⟨_, oR, [], F6.push _, N6.grown fun b o e => Heap.get?_push_of_some _ e, fun y _ => by rw [hm1], hsR, .nil⟩
        case turn4 =>
          intro j v h h₁ tk hj hPv hJ hk1 hst1
          refine turn_gen fun Q2 hQ2 => ?_
          obtain ⟨d, ud, hdj, rfl⟩ := hPv
          obtain ⟨m, oR, kvR, Fh, Nh, hm, hdR, hrR⟩ := hJ
          have F3 := Fr.keptBut Fh hk1 jG (by simpa using jL)
          have N3 := News.keptBut (X := [H2.objs.size]) Nh hk1 (fun p hp => by
            rcases List.mem_cons.mp hp with e | hp
            · rw [e]; simpa using jR
            · exact jN _ (.tail _ hp))
          obtain ⟨oI2, eI2, cI2, dI2⟩ := id hst1
          have NI : News s.heap Lf h₁ ((H2.objs.size, oI2) :: _) := List.forall_mem_cons.mpr ⟨⟨eI2, fun e => jL e.symm, jG _ (.head _)⟩, N3⟩
          have hdm := List.mem_of_getElem? hdj
          have hdok := hls d hdm
          rw [mapL _ hm, hm1] at F3
          dsimp only [List.foldr] at F3
          have hbb : ((ls.take j).foldl (fun r o => setP r o (cellOf hs c o)) []).length ≤ 1000 := by
            have := rowTo_len hs c (ls.take j) []
            have : (ls.take j).length ≤ 5 := by rw [List.length_take]; omega
            simp at *; omega
          clear Fh Nh N3 hk1
          k_steps
          all_goals
            (with_reducible rename Fr s.heap _ _ _ => F7)
            (with_reducible rename News s.heap _ _ _ => N7)
            (with_reducible rename Obj.IsDictOf _ _ _ => hd7)
            (with_reducible rename Paired _ _ _ => hr7)
            (with_reducible rename (_ == _) = _ => ha)
            refine hQ2 _ _ ⟨_, _, rfl, ⟨_, _, _, F7, fun p hp => N7 p (.tail _ hp), fun y hy => ?_, hd7, ?_⟩, fun b hb o e => ?_⟩
            · simp only [List.mem_cons, List.not_mem_nil, or_false, not_or] at hy
              simp [hy.1, hy.2, hm1]
            · rw [foldl_take hdj]
              have htw := htwist.trans ha
              have hce : cellOf hs c d = (if twist hs c then bR (end1 hs d) (end2 hs d) (end2 hs c) else bL (end1 hs d) (end2 hs d) (end2 hs c)) - bR (end1 hs d) (end2 hs d) (end1 hs c) := rfl
              rw [htw] at hce
              rw [hce]
              exact hr7
            · rw [List.mem_singleton.mp hb] at e ⊢
              rw [eI2] at e
              cases e
              exact (N7 _ (.head _)).1
        case done4 =>
          rintro h h' tk2 ⟨m, oR, kvR, Fh, Nh, hm, hdR, hrR⟩ hk1
          have F3 := Fr.keptBut Fh hk1 jG (by simpa using jL)
          have N3 := News.keptBut (X := [H2.objs.size]) Nh hk1 (fun p hp => by
            rcases List.mem_cons.mp hp with e | hp
            · rw [e]; simpa using jR
            · exact jN _ (.tail _ hp))
          rw [mapL _ hm, hm1] at F3
          dsimp only [List.foldr] at F3
          generalize hF1 : m (Str.ofString "other") = mf at F3
          generalize hF2 : m (Str.ofString "until") = mc at F3
          have hrow : RowIs kvR (rowTo hs c ls) := by
            have e : ls.take ls.length = ls := List.take_length
            rw [e] at hrR; exact hrR
          clear Fh Nh hk1 hm hrR jN jL jG jR hF1 hF2
          (try dsimp only)
          k_steps
          refine' lcGen ?hh ?hclos ?hcell ?hkind ?hnames ?hs ?h
          case hh => exact rfl
          case hclos => with_unfolding_all rfl
          case hcell => decide
          case hkind => with_unfolding_all rfl
          case hnames => decide
          case hs => intro _; with_unfolding_all rfl
          k_steps
          have hsl := sumsTo_len hs ls (ls.take i) [[]] 0 (by simp)
          have hti : (ls.take i).length ≤ 5 := by rw [List.length_take]; omega
          have hp2 : (2 : Nat) ^ (ls.take i).length ≤ 32 := Nat.le_trans (Nat.pow_le_pow_right (by decide) hti) (by decide)
          have hmul : (ls.take i).length * ls.length ≤ 25 := Nat.mul_le_mul hti hl5
          have hvl : vals.toList.length ≤ 32 := by
            have h1 := hsl.1
            rw [show ([[]] : List (List (Nat × Int))).length = 1 from rfl, Nat.mul_one] at h1
            rw [hP.length]
            show (List.foldl (stepS hs ls) [[]] (ls.take i)).length ≤ 32
            rw [h1]; exact hp2
          have hrl : (rowTo hs c ls).length ≤ 100 := by have := rowTo_len hs c ls []; unfold rowTo; simp at this; omega
          have hFl : ∀ p ∈ FN, h'.get? p.1 = some p.2 := fun p hp => (N3 p (by simp [hp])).1
          refine ⟨sl, vals.toList, EvG2 PySem.Challenge.rw_pm0057_01.row.toRowW.prog w s.heap Lf H1.objs.size FN (rowTo hs c ls), rfl, ?isl, ?sz, ?stab5, ?go5, ?turn5, ?done5⟩
          case isl => rw [Array.toArray_toList]; exact isL_N N3 (.tail _ (.tail _ (.tail _ (.head _))))
          case sz => exact small_line (by omega)
          case stab5 =>
            rintro X h h' v y ⟨one, f, of, kv, e1, e2, e3, e4, e10, e11, e12, e13⟩ hk
            exact ⟨one, f, of, kv, e1, e2, e3, e4, hk _ _ e3 e10, e11, e12, e13⟩
          case go5 =>
            intro v hv I l i s Q E hit hq
            exact wpAny_pure hq
          case turn5 =>
            intro C I' D' v s₂ m₂ E' hv hn hk2 hI' hD' hCD hCI hC
            obtain ⟨one, hone, f, of, kv, rfl, hmf, hfs, hfd, hfr⟩ := Paired.memL hP v hv
            have hql : one.length ≤ 100 := by have := hsl.2 one hone; omega
            refine wpAny_assign_Name (wpAny_storeName_local (lookup_relabel_local rfl) hn (fun h₂ hn₂ hs₂ => ?_) rfl)
            have nC : ∀ b o, h'.get? b = some o → b ≠ C := fun b o e => by rintro rfl; rw [hC] at e; cases e
            have kk : ∀ b o, h'.get? b = some o → h₂.get? b = some o := fun b o e => hs₂.extBut b o (nC b o e) (hk2 b o e)
            have F9 := F3.keeps kk
            have N9 := N3.grown kk
            obtain ⟨mC, hmC⟩ : ∃ mC : Str → Option Value, h₂.Ns C mC ∧ mC (Str.ofString "one") = some (Value.ref f) := ⟨_, hn₂, by simp⟩
            obtain ⟨hnC, hm⟩ := hmC
            clear hn₂
            refine wpAny_mono (?key5 : wpAny _ _ _ (Fin1 (AcR PySem.Challenge.rw_pm0057_01.row.toRowW.prog w h₂ ((rowTo hs c ls).foldl addP (cpR one))) { s₂ with heap := h₂, toks := s₂.toks + 1 }) _ _) (fun y s₄ h₄ => ?post5) (fun _ _ e => e)
            case key5 =>
              k_steps
              rename_i h9 tk9 F10 N10 K9 f9 hf9 hr9
              exact Fin1.of K9 ⟨f9, rfl, hf9, hr9⟩
            case post5 =>
              obtain ⟨⟨f', rfl, hf', hdsf, ep', kv', hda, hri⟩, h₄, tk₄, rfl, hk₄⟩ := h₄
              have hne : ∀ b o, h₂.get? b = some o → f' ≠ b := fun b o e x => by rw [← x, hf'] at e; cases e
              have hs0 : ∀ {b : Addr}, (s₂.heap.get? b).isSome = true → C ≠ b → f' ≠ b := fun h1 h2 => by
                obtain ⟨o, e⟩ := Option.isSome_iff_exists.mp h1
                exact hne _ _ (hs₂.extBut _ o h2.symm e)
              have n1 : f' ≠ C := by obtain ⟨o, _, _, e, _⟩ := hnC; exact hne _ _ e
              have n2 := hs0 hD' hCD
              have n3 := hs0 hI' hCI
              have n4 : f' ≠ Lf := by obtain ⟨o, _, _, e, _⟩ := F9.ns; exact hne _ _ e
              obtain ⟨of', hof', hdf'⟩ := Heap.dictOf_iff.mp (PySem.Heap.DictAt.dictOf hda)
              refine ⟨h₄, tk₄, mC, rfl, hnC.keeps hk₄, fun b o hb e => hk₄ _ _ (hs₂.extBut b o hb e), one, f', of', kv', ⟨f, of, kv, rfl, hmf, hfs, hfd, hfr⟩, rfl, by simp [n1, n2, n3], ⟨n4, notIn_of (fun b o e => F9.keep _ _ e) hf', hne _ _ (N9 (_, cRib) (.tail _ (.tail _ (.tail _ (.tail _ (.tail _ (.tail _ (.tail _ (.head _))))))))).1, hne _ _ (N9 (_, oLet2) (.tail _ (.tail _ (.tail _ (.tail _ (.tail _ (.tail _ (.head _)))))))).1, hne _ _ (N9 (_, oRow2) (.tail _ (.tail _ (.tail _ (.tail _ (.tail _ (.head _))))))).1, hne _ _ (N9 (_, oI) (.tail _ (.tail _ (.head _)))).1⟩, hof', hdsf, hdf', hri⟩
          case done5 =>
            intro X D4 ys k' h'' tk4 hD4 hys hPG hk4
            have F9 := F3.keeps hk4
            have N9 := News.addNew F3 hD4 hys (N3.grown hk4)
            have hS : Paired (fun (q : List (Nat × Int)) y => EvS PySem.Challenge.rw_pm0057_01.row.toRowW.prog w s.heap Lf H1.objs.size h'' ((rowTo hs c ls).foldl addP (cpR q)) y) (sumsTo hs ls (ls.take i)) ys.toList :=
              Paired.conv hP (fun v q y _ hr hg => by
                obtain ⟨one, f, of, kv, e1, e2, e3, e4, e5, e6, e7, e8⟩ := hg
                have := OneAt.inj hFl e1 hr
                subst this
                exact ⟨f, of, kv, e2, e4, e5, e6, e7, e8⟩) hPG
            have hS2 := Paired.symmF hS
            obtain ⟨NEW, hNEW, hNew⟩ := collect (P := fun y p => y = Value.ref p.1) (R := fun (p : Addr × Obj) => h''.get? p.1 = some p.2 ∧ Far s.heap Lf H1.objs.size p.1) ys.toList (fun y hy => by
              obtain ⟨q, _, f, of, kv, e1, e2, e3, _, _, _⟩ := Paired.memL hS2 y hy
              exact ⟨(f, of), e1, e3, e2⟩)
            have N10 : News s.heap Lf h'' ((D4, listOf ys k') :: (dr, oR) :: (D3, listOf #[Value.str (T1 q0.1) ts0, Value.str (T1 q1.1) ts1] k3) :: (H1.objs.size, oI) :: (sl, listOf vals kk) :: (D, oD) :: (Lf + 1 + 1 + 1, oRow2) :: (Lf + 1 + 1, oLet2) :: (Lf + 1, cRib) :: (NEW ++ FN)) := by
              intro p hp
              by_cases hn : p ∈ NEW
              · have := hNEW p hn
                exact ⟨this.1, this.2.a, this.2.b⟩
              · refine N9 p ?_
                simp only [List.mem_cons, List.mem_append, hn, false_or] at hp ⊢
                exact hp
            have hPn : Paired (OneAt PySem.Challenge.rw_pm0057_01.row.toRowW.prog w (NEW ++ FN)) (vals.toList ++ ys.toList) (sumsTo hs ls (ls.take (i + 1))) := by
              unfold sumsTo
              rw [foldl_take hc]
              refine Paired.app2 (Paired.imp hP fun v q _ _ ⟨f, of, kv, e1, e2, e3, e4, e5⟩ => ⟨f, of, kv, e1, List.mem_append_right _ e2, e3, e4, e5⟩) (Paired.mapR (Paired.imp hS2 fun y q hy _ ⟨f, of, kv, e1, e2, e3, e4, e5, e6⟩ => ?_))
              obtain ⟨p, hp, e⟩ := hNew y hy
              rw [e1] at e
              have ef := Value.ref.inj e
              have ho := (hNEW p hp).1
              rw [← ef, e3] at ho
              exact ⟨f, of, kv, e1, List.mem_append_left _ (by rw [ef, Option.some.inj ho]; exact hp), e4, e5, e6⟩
            clear F3 N3 N9
            refine kmk_add_lit F9 N10 (isL_N N10 (.tail _ (.tail _ (.tail _ (.tail _ (.head _)))))) (isL_N N10 (.head _)) rfl (fun D5 h5 F11 N11 l5 => ?_) (Nat.le_trans (show vals.toList.length + ys.toList.length ≤ 1000 by
              have := hS2.length; rw [this]; have := hP.length; omega) (small_line (Nat.le_refl _)))
            clear F9 N10
            k_steps
            (with_reducible rename Fr s.heap _ _ _ => F12)
            (with_reducible rename News s.heap _ _ _ => N12)
            refine hQQ _ _ ⟨_, _, rfl, ⟨_, oRow2, oLet2, _, _, D5, (vals.toList ++ ys.toList).toArray, 0, NEW ++ FN, F12, ?nz, dRow2, dLet2, ?namesz, if_pos rfl, ?g1, ?g2, ?g3, ?g4, ?hE, ?s1, ?s2, ?s3, hPn⟩, fun b hb o e => ?keepz⟩
            case nz =>
              intro p hp
              refine N12 p ?_
              simp only [List.mem_cons] at hp ⊢
              rcases hp with h | h | h | h | h | h <;> simp [h]
            case namesz =>
              intro y hy
              simp only [List.mem_cons, List.not_mem_nil, or_false, not_or] at hy
              obtain ⟨y1, y2, y3, y4, y5, y6⟩ := hy
              simp [y1, y2, y3, y4, y5, y6, hm0]
            case g1 => exact fun p hp => (List.mem_append.mp hp).elim (fun h => (hNEW p h).2.c) (g1 p)
            case g2 => exact fun p hp => (List.mem_append.mp hp).elim (fun h => (hNEW p h).2.d) (g2 p)
            case g3 => exact fun p hp => (List.mem_append.mp hp).elim (fun h => (hNEW p h).2.e) (g3 p)
            case g4 => exact fun p hp => (List.mem_append.mp hp).elim (fun h => (hNEW p h).2.i) (g4 p)
            case hE => exact fun c hc => by obtain ⟨p, hp, e⟩ := hE c hc; exact ⟨p, List.mem_append_right _ hp, e⟩
            case s1 => exact Nat.ne_of_gt (l5 (_, oLet2) (by repeat (first | exact List.Mem.head _ | refine List.Mem.tail _ ?_)))
            case s2 => exact Nat.ne_of_gt (l5 (_, oRow2) (by repeat (first | exact List.Mem.head _ | refine List.Mem.tail _ ?_)))
            case s3 => exact Nat.ne_of_gt (l5 (_, oI) (by repeat (first | exact List.Mem.head _ | refine List.Mem.tail _ ?_)))
            case keepz =>
              rw [List.mem_singleton.mp hb] at e ⊢
              rw [eI] at e
              cases e
              exact (N12 (H1.objs.size, oI) (by repeat (first | exact List.Mem.head _ | refine List.Mem.tail _ ?_))).1
    case done2 =>
      rintro h h' tk2 ⟨m, oRow, oLet, rv, lv, sl, vals, kk, FN, Fh, Nh, dR, dL, hm, hms, g1, g2, g3, g4, hE, s1, s2, s3, hP⟩ hk1
      have F3 := Fr.keptBut Fh hk1 iG (by simpa using iL)
      have N3 := News.keptBut (X := [H1.objs.size]) Nh hk1 (by
        simp only [List.forall_mem_cons, List.mem_singleton]
        exact ⟨s3, iD, iN1, iN2, iN3, g4⟩)
      rw [mapL _ hm, hm0] at F3
      dsimp only [List.foldr] at F3
      rw [hms] at F3
      have e : ls.take ls.length = ls := List.take_length
      rw [e] at hP
      clear Fh Nh hk1 hm
      generalize m (Str.ofString "first") = y1 at F3
      generalize m (Str.ofString "second") = y2 at F3
      generalize m (Str.ofString "signs") = y3 at F3
      generalize m (Str.ofString "other") = y4 at F3
      generalize m (Str.ofString "until") = y5 at F3
      clear hms
      (try dsimp only)
      k_steps
      refine' lcL ?hh ?hclos ?hcell ?hkind ?hnames ?hx ?hs ?h
      case hh => exact rfl
      case hclos => with_unfolding_all rfl
      case hcell => decide
      case hkind => with_unfolding_all rfl
      case hnames => decide
      case hx => with_unfolding_all rfl
      case hs => intro _; with_unfolding_all rfl
      k_steps
      have hsl := sumsTo_len hs ls ls [[]] 0 (by simp)
      have hp2 : (2 : Nat) ^ ls.length ≤ 32 := Nat.le_trans (Nat.pow_le_pow_right (by decide) hl5) (by decide)
      have hmul : ls.length * ls.length ≤ 25 := Nat.mul_le_mul hl5 hl5
      have hvl : vals.toList.length ≤ 32 := by
        have h1 := hsl.1
        rw [show ([[]] : List (List (Nat × Int))).length = 1 from rfl, Nat.mul_one] at h1
        rw [hP.length]
        show (List.foldl (stepS hs ls) [[]] ls).length ≤ 32
        rw [h1]; exact hp2
      have hFl : ∀ p ∈ FN, h'.get? p.1 = some p.2 := fun p hp => (N3 p (by simp [hp])).1
      refine ⟨sl, vals.toList, fun v => @decide (∃ one, OneAt PySem.Challenge.rw_pm0057_01.row.toRowW.prog w FN v one ∧ evenRow one = true) (Classical.propDecidable _), fun v y => y = v, rfl, ?isl6, ?sz6, ?tests6, ?elts6, ?done6⟩
      case isl6 => rw [Array.toArray_toList]; exact isL_N N3 (.head _)
      case sz6 => exact small_line (by omega)
      case tests6 =>
        intro C v s₂ m₂ E' hv hn hm hk2
        obtain ⟨one, hone, f, of, kv, rfl, hmf, hfs, hfd, hfr⟩ := Paired.memL hP v hv
        have hql : one.length ≤ 100 := by have := hsl.2 one hone; omega
        have F9 := F3.keeps hk2
        have N9 := N3.grown hk2
        k_steps
        refine' lcW ?hclos ?hcell ?hkind ?hnames ?hx ?hs ?h
        case hclos => with_unfolding_all rfl
        case hcell => decide
        case hkind => with_unfolding_all rfl
        case hnames => decide
        case hx => with_unfolding_all rfl
        case hs => intro _; with_unfolding_all rfl
        obtain ⟨ep, hdA⟩ := Heap.DictOf.dictAt (Heap.dictOf_iff.mpr ⟨of, (N9 (f, of) (by simp [hmf])).1, hfd⟩)
        refine wpAny_Call_values hfs (PySem.Heap.DictAt.dictOf hdA) rfl rfl (fun Q' hq => ?_) ?_
        · k_steps
          exact hq
        refine wpAny_pyIter_values (ep := ep) (kvs := kv) (knd := strKind PySem.Challenge.rw_pm0057_01.row.toRowW.prog w) (d := f) ⟨_, Heap.get?_push_size _ rfl, rfl, rfl⟩ (hdA.push _) ?_
        generalize hHH : s₂.heap.push { cls := .type "dict_values", data := .fields #[.ref f] } = H7
        have hk7 : ∀ b o, s₂.heap.get? b = some o → H7.get? b = some o := fun b o e => by rw [← hHH]; exact Heap.get?_push_of_some _ e
        have F10 := F9.keeps hk7
        have N10 := N9.grown hk7
        have hdA7 : H7.DictAt (strKind PySem.Challenge.rw_pm0057_01.row.toRowW.prog w) f kv ep := hdA.at fun o e => hk7 _ o e
        have hfI : f ≠ H7.objs.size := Nat.ne_of_lt (hdA7.lt_size)
        refine ⟨H7.objs.size, [H7.objs.size, f], [H7.objs.size], kv.length, _, _, fun v => match v with | .int x _ => x.fmod 2 == 1 | _ => false, fun v y => y = v, rfl, Walks.dictValues (knd := strKind PySem.Challenge.rw_pm0057_01.row.toRowW.prog w) rfl _ f hfI kv ep, small_line (by have := hfr.length; omega), ?st9, ?fp9, ?tests9, ?elts9, ?done9⟩
        case st9 => exact ⟨⟨_, Heap.get?_push_size _ rfl, rfl, rfl⟩, hdA7.push _⟩
        case fp9 =>
          intro b hb
          show b < (H7.push _).objs.size
          rw [Heap.size_push]
          simp only [List.mem_cons, List.not_mem_nil, or_false] at hb
          rcases hb with rfl | rfl
          · exact Nat.lt_succ_self _
          · exact Nat.lt_succ_of_lt hdA7.lt_size
        case tests9 =>
          rintro C2 j v s₃ m₂ E' ⟨k, hkj⟩ hn hm2 hk3
          obtain ⟨q, hqj, e1, t, e2⟩ := Paired.get (Paired.symmF hfr) j (k, v) hkj
          dsimp only at e2
          subst e2
          have F11 := F10.keeps (upPush hk3)
          have N11 := N10.grown (upPush hk3)
          (try dsimp only)
          k_steps
          exact Fin1.of (fun _ _ e => e) rfl
        case elts9 =>
          rintro C2 j v s₃ m₂ E' ⟨k, hkj⟩ hpv hn hm2 hk3
          have F11 := F10.keeps (upPush hk3)
          have N11 := N10.grown (upPush hk3)
          k_steps
          exact Fin1.of (fun _ _ e => e) rfl
        case done9 =>
          intro D2 ys2 k5 h5 tk5 vs5 hD2 hys5 hvs5 hP5 hF5 hk5
          have F11 := F10.keeps (upPush hk5)
          have N11 := News.addNew F10 (notIn_of (fun b o e => Heap.get?_push_of_some _ e) hD2) hys5 (N10.grown (upPush hk5))
          have hv5 : Paired (fun v (q : Nat × Int) => ∃ t, v = Value.int q.2 t) vs5 one := Paired.ofGet (by rw [hvs5, hfr.length]) (fun i v q h1 h2 => by
            obtain ⟨k, hk⟩ := hP5 i v h1
            obtain ⟨e, he, _, t, e2⟩ := Paired.get hfr i q h2
            rw [hk] at he
            cases he
            exact ⟨t, e2⟩)
          have hI5 : IntsAre ys2.toList ((one.filter fun q => q.2.fmod 2 == 1).map (·.2)) := rowVals (Paired.conv (Paired.filter2 hv5 (pz := fun q => q.2.fmod 2 == 1) (fun v q _ ⟨t, e⟩ => by rw [e])) (fun v q y _ hr hf => by rw [hf]; exact hr) hF5)
          clear F9 N9 F10 N10
          k_steps
          rename_i cE l9 h9 F12 N12 k9 lt9
          have hone2 : OneAt PySem.Challenge.rw_pm0057_01.row.toRowW.prog w FN (Value.ref f) one := ⟨f, of, kv, rfl, hmf, hfs, hfd, hfr⟩
          exact Fin1.of (fun b o e => k9 _ _ (upPush hk5 _ _ (hk7 _ _ e))) (by
            rw [evenRow_iff, Bool.eq_iff_iff]
            refine Iff.symm ((@decide_eq_true_iff _ (Classical.propDecidable _)).trans ⟨fun ⟨o1, h1, h2⟩ => ?_, fun h => ⟨one, hone2, h⟩⟩)
            rw [OneAt.inj hFl hone2 h1]; exact h2)
      case elts6 =>
        intro C v s₂ m₂ E' hv hpv hn hm hk2
        have F9 := F3.keeps hk2
        have N9 := N3.grown hk2
        k_steps
        exact Fin1.of (fun _ _ e => e) rfl
      case done6 =>
        intro D6 ys k' h'' tk hD hys hPF hk6
        have F10 := F3.keeps hk6
        have N10 := News.addNew F3 hD hys (N3.grown hk6)
        have hFp : Paired (OneAt PySem.Challenge.rw_pm0057_01.row.toRowW.prog w FN) (vals.toList.filter _) ((sumsTo hs ls ls).filter evenRow) := Paired.filter2 hP (p := fun v => @decide (∃ one, OneAt PySem.Challenge.rw_pm0057_01.row.toRowW.prog w FN v one ∧ evenRow one = true) (Classical.propDecidable _)) (fun v q _ hr => by
          rw [Bool.eq_iff_iff]
          refine (@decide_eq_true_iff _ (Classical.propDecidable _)).trans ?_
          exact ⟨fun ⟨one, h1, h2⟩ => by rw [OneAt.inj hFl hr h1]; exact h2, fun h => ⟨q, hr, h⟩⟩)
        have hys6 : ys.size = evenCount hs ls := by
          have e1 := hPF.length
          have e2 := hFp.length
          have e3 : ys.toList.length = ys.size := by simp
          unfold evenCount
          omega
        have hys7 : ys.size ≤ 32 := by
          have e1 := hPF.length
          have e2 := List.length_filter_le (fun v => @decide (∃ one, OneAt PySem.Challenge.rw_pm0057_01.row.toRowW.prog w FN v one ∧ evenRow one = true) (Classical.propDecidable _)) vals.toList
          have e3 : ys.toList.length = ys.size := by simp
          omega
        clear F3 N3
        (try dsimp only)
        k_steps
        exact Fin1.of (fun b o e => F10.keep _ _ e) ⟨_, by rw [hys6]⟩
end Mine
end

section
open PySem PySem.W PySem.Calls PyProof.Rows Mine
set_option maxRecDepth 100000
set_option maxHeartbeats 1000000
namespace Mine
local macro_rules | `(tactic| walk_at "none at all") => `(tactic| fail)
local macro_rules | `(tactic| walk_at "none at all") => `(tactic| fail)
local macro_rules | `(tactic| walk_at "none at all") => `(tactic| fail)
local macro_rules | `(tactic| walk_at "none at all") => `(tactic| fail)
local macro_rules | `(tactic| walk_at "none at all") => `(tactic| fail)




theorem ints_get : ∀ {ws : List Value} {ns : List Int}, IntsAre ws ns → ∀ k, k < ns.length → ∃ t, ws.toArray[((k : Nat) : Int).toNat]? = some (Value.int (ns.getD k 0) t)
  | _, _, .nil, k, h => absurd h (Nat.not_lt_zero _)
  | _, _, .cons n t r, 0, _ => ⟨t, by simp⟩
  | _, _, .cons n t r, k + 1, h => by
    obtain ⟨t', e⟩ := ints_get r k (Nat.lt_of_succ_lt_succ h)
    exact ⟨t', by simpa using e⟩
theorem insAt_len {α : Type} (l : List α) (i : Nat) (a : α) : (insAt l i a).length = l.length + 1 := by
  unfold insAt
  rw [List.length_append, List.length_cons, List.length_take, List.length_drop]; omega
theorem News.one {g h : Heap} {L : Addr} {l : List (Addr × Obj)} {p : Addr × Obj} (N : News g L h l) (m : p ∈ l) : News g L h [p] := fun q hq => by rw [List.mem_singleton.mp hq]; exact N p m
theorem wordTo_succ (ns : List Int) (k : Nat) : wordTo ns (k + 1) = wordStep ns (wordTo ns k) k := by
  unfold wordTo
  rw [List.range_succ, List.foldl_append]; rfl
theorem ins_nat {l : List Value} {x : Int} {y : Value} (h0 : 0 ≤ x) (h1 : x.toNat ≤ l.length) : kl_ins l x y = insAt l x.toNat y := by
  unfold kl_ins insAt
  rw [if_neg (by omega), Nat.min_eq_left h1]
theorem Signs_ins : ∀ {vs : List Value} {cs : List Nat} (i : Nat) {c : Nat} {t : Tok}, Paired (fun v c => ∃ t, v = Value.str (T1 c) t) vs cs → Paired (fun v c => ∃ t, v = Value.str (T1 c) t) (insAt vs i (Value.str (T1 c) t)) (insAt cs i c)
  | _, _, 0, c, t, h => .cons ⟨t, rfl⟩ h
  | _, _, i + 1, c, t, .nil => .cons ⟨t, rfl⟩ .nil
  | _, _, i + 1, c, t, .cons x h => .cons x (Signs_ins i h)
theorem insV {prog : Program} {w : World} {A : Around} {E : Value → Shared → Prop} {s : Shared} {h₀ : Heap} {L D : Addr} {m : Str → Option Value} {news news' : List (Addr × Obj)} {its : Array Value} {n : Nat} {x : Int} {u : Tok} {y : Value} {Q : Value → Shared → Prop} (F : Fr h₀ L s.heap m) (N : News h₀ L s.heap news)
    (U : Upd D (listOf its n) (listOf (insAt its.toList x.toNat y).toArray (n + 1)) news news') (h0 : 0 ≤ x) (h1 : x ≤ (its.size : Int)) (hz : its.size ≤ 100) (h : ∀ h', Fr h₀ L h' m → News h₀ L h' news' → Q .none { s with heap := h' }) :
    wpAny (model prog w) A (call (.builtin "list.insert") [.ref D, .int x u, y]) Q E s := by
  have e : its.toList.length = its.size := by simp
  refine kl_insert F N ?_ (ins_nat h0 (by omega)) U (Nat.le_trans (by omega) (small_line (Nat.le_refl _))) h
  have : its.size < 2 ^ 62 := by have : (100 : Nat) < 2 ^ 62 := by decide
                                 omega
  unfold Builtin.List.listFitsIndex
  simp
  omega
local macro_rules | `(tactic| walk_at "call builtin:list.insert") => `(tactic| (k_here; k_dflt (refine' insV ?F ?N ?U ?f ?e ?z ?_; (case F | N => k_asm); (case U => k_upd); (case f => assumption); (case e | z => first | assumption | (simp only [List.size_toArray, insAt_len, Array.length_toList]; omega))); kl_rest))

inductive WdJ (g : Heap) (L al : Addr) (ns : List Int) (m0 : Str → Option Value) (i : Nat) (h : Heap) : Prop
  | mk (m : Str → Option Value) (vals : Array Value) (k2 : Nat) (z1 : Fr g L h m) (z2 : News g L h [(al, listOf vals k2)]) (z3 : ∀ y, y ∉ [Str.ofString "k", Str.ofString "first", Str.ofString "rest", Str.ofString "second"] → m y = m0 y) (z4 : vals.size = 2 * i) (z5 : Signs vals.toList (wordTo ns i)) : WdJ g L al ns m0 i h
inductive WdR (g : Heap) (ns : List Int) (v : Value) (h : Heap) : Prop
  | mk (D : Addr) (vs : Array Value) (k : Nat) (z1 : v = .ref D) (z2 : g.get? D = none) (z3 : h.get? D = some (listOf vs k)) (z4 : Signs vs.toList (wordTo ns 5)) : WdR g ns v h
theorem wordT {w : World} {A : Around} {s : Shared} {E : Value → Shared → Prop} {nl : Addr} {ws : List Value} {ns : List Int}
    (cx : Cx w A s.heap) (hd : A.depth + 20 < recursionLimit) (hu : A.units + 200 < cLine) 
    (hl : s.heap.IsList nl ws.toArray) (hi : IntsAre ws ns) (h5 : ns.length = 5) :
    wpAny (model PySem.Challenge.rw_pm0057_01.row.toRowW.prog w) A (call (.ref 218) [.ref nl])
      (Fin1 (WdR s.heap ns) s) E s := by
  obtain ⟨dp, un, gd, cn, cs', L, a, ccd, cl, outer, A₀, base, h₀, m, mean, mg, mb, rfl, B, F, X, T, hk⟩ := cx.is
  clear cx
  revert X; k_fill; intro X
  have hw5 : ws.length = 5 := by have := hi.length; omega
  refine wpAny_call ?_
  k_dflt (ktr_call ([(Str.ofString "numbers", Value.ref nl)]) Lf)
  k_steps
  refine' forW ?hs ?h
  case hs => intro _; with_unfolding_all rfl
  k_steps
  (with_reducible rename Fr s.heap _ _ _ => F2)
  (with_reducible rename News s.heap _ _ _ => N2)
  (with_reducible rename IsRange _ _ _ _ _ _ _ _ => hr)
  (with_reducible rename IntsAre _ _ => hi2)
  rename_i h1a B1 X1 T1' al h1b l1 h1c Fz Nz ez H6 tk5 t1 u1 v1 a1
  obtain ⟨m0, hm0⟩ := Fr.named F2
  refine pyIter_r (n := 5) hr (by simp; omega) (by omega) ?_
  have i0 : ∀ b o, H6.get? b = some o → b ≠ H6.objs.size := fun b o e => Nat.ne_of_lt (Heap.lt_size e)
  have iL : Lf ≠ H6.objs.size := by obtain ⟨o, _, _, e, _⟩ := F2.ns; exact i0 _ _ e
  have iG : ∀ b ∈ [H6.objs.size], s.heap.get? b = none := fun b hb => by
    cases q : s.heap.get? b with
    | none => rfl
    | some o => exact absurd (List.mem_singleton.mp hb) (i0 _ _ (F2.keep _ _ q))
  have iN : @Ne Nat al H6.objs.size := i0 _ _ (N2 (al, _) (.head _)).1
  refine ⟨H6.objs.size, [H6.objs.size], [H6.objs.size], 5, _, _, fun i h => WdJ s.heap Lf al ns m0 i h, rfl, walksR rfl _ _, fun v => rfl, ?st0, ?j0, ?turn, ?done⟩
  case st0 => simpa using Heap.get?_push_size H6 (o := rIt 0 _) rfl
  case j0 => exact ⟨_, #[], 0, F2.push _, N2.grown fun b o e => Heap.get?_push_of_some _ e, fun y _ => by rw [hm0], rfl, .nil⟩
  case turn =>
    intro k v h h₁ tk hk5 hPv hJ hk1 hst1
    refine turn_gen fun QQ hQQ => ?_
    obtain ⟨t, rfl⟩ := hPv
    obtain ⟨m, vals, k2, Fh, Nh, hm, hsz, hv⟩ := hJ
    have F3 := Fr.keptBut Fh hk1 iG (by simpa using iL)
    have N3 := News.keptBut (X := [H6.objs.size]) Nh hk1 (by simpa using iN)
    have NI : News s.heap Lf h₁ ((H6.objs.size, _) :: _) := List.forall_mem_cons.mpr ⟨⟨hst1, fun e => iL e.symm, iG _ (by simp)⟩, N3⟩
    rw [mapL _ hm, hm0] at F3
    dsimp only [List.foldr] at F3
    obtain ⟨tx, hx⟩ := ints_get hi2 k (by omega)
    generalize hX : ns.getD k 0 = x at hx
    have f0 : 0 ≤ x.fmod (2 * (k : Int) + 1) := Int.fmod_nonneg_of_pos _ (by omega)
    have f1 : x.fmod (2 * (k : Int) + 1) < 2 * (k : Int) + 1 := Int.fmod_lt_of_pos _ (by omega)
    have g0 : 0 ≤ (x.fdiv (2 * (k : Int) + 1)).fmod (2 * (k : Int) + 2) := Int.fmod_nonneg_of_pos _ (by omega)
    have g1 : (x.fdiv (2 * (k : Int) + 1)).fmod (2 * (k : Int) + 2) < 2 * (k : Int) + 2 := Int.fmod_lt_of_pos _ (by omega)
    have f2 : x.fmod (2 * (k : Int) + 1) ≤ (vals.size : Int) := by omega
    have hz : vals.size ≤ 100 := by omega
    clear Fh Nh N3 hk1
    k_steps
    (with_reducible rename Fr s.heap _ _ _ => F7)
    (with_reducible rename News s.heap _ _ _ => N7)
    refine hQQ _ _ ⟨_, _, rfl, ⟨_, _, _, F7, News.one N7 (.tail _ (.tail _ (.tail _ (.head _)))), fun y hy => ?_, ?_, ?_⟩, fun b hb o e => ?_⟩
    · simp only [List.mem_cons, List.not_mem_nil, or_false, not_or] at hy
      simp [hy.1, hy.2.1, hy.2.2.1, hy.2.2.2, hm0]
    · simp only [List.size_toArray, insAt_len, Array.length_toList]; omega
    · rw [wordTo_succ]
      unfold wordStep
      rw [hX]
      exact Signs_ins _ (Signs_ins _ hv)
    · rw [List.mem_singleton.mp hb] at e ⊢
      rw [hst1] at e
      cases e
      exact (N7 _ (.tail _ (.tail _ (.head _)))).1
  case done =>
    rintro h h' tk ⟨m, vals, k2, Fh, Nh, hm, hsz, hv⟩ hk1
    have F3 := Fr.keptBut Fh hk1 iG (by simpa using iL)
    have N3 := News.keptBut (X := [H6.objs.size]) Nh hk1 (by simpa using iN)
    rw [mapL _ hm, hm0] at F3
    dsimp only [List.foldr] at F3
    generalize m (Str.ofString "k") = y1 at F3
    generalize m (Str.ofString "first") = y2 at F3
    generalize m (Str.ofString "rest") = y3 at F3
    generalize m (Str.ofString "second") = y4 at F3
    clear Fh Nh hm hk1
    (try dsimp only)
    k_steps
    exact Fin1.of (fun b o e => F3.keep _ _ e) ⟨al, vals, k2, rfl, (N3 _ (.head _)).2.2, (N3 _ (.head _)).1, hv⟩
end Mine
end

section
open PySem PySem.W PySem.Calls PyProof.Rows Mine
set_option maxRecDepth 100000
set_option maxHeartbeats 1000000
namespace Mine
local macro_rules | `(tactic| walk_at "none at all") => `(tactic| fail)
local macro_rules | `(tactic| walk_at "none at all") => `(tactic| fail)
local macro_rules | `(tactic| walk_at "none at all") => `(tactic| fail)
local macro_rules | `(tactic| walk_at "none at all") => `(tactic| fail)
local macro_rules | `(tactic| walk_at "none at all") => `(tactic| fail)
local macro_rules | `(tactic| walk_at "none at all") => `(tactic| fail)




local macro_rules | `(tactic| walk_at "subscriptTail Name Slice ref ref") => `(tactic| (k_here; k_dflt (refine' kmk_slice_lit (zs := []) ?F ?N ?l ?p ?q ?e ?_ ?s ?t ?z; (case F | N => k_asm); (case l => exact isL_F (by k_asm) (by assumption)); (case p | q => kmk_part); (case e => rfl); (case s => with_unfolding_all rfl); (case t => kmk_pure); (case z => exact Nat.le_of_ble_eq_true rfl)); intro D' h' F' N' l1))

theorem itemsE {w : World} {A : Around} {s : Shared} {E : Value → Shared → Prop} {x dx hl n : Nat}
    (cx : Cx w A s.heap) (hd : A.depth + 20 < recursionLimit) (hu : A.units + 200 < cLine) 
    (H : Hdr s.heap x dx hl [] n) :
    wpAny (model PySem.Challenge.rw_pm0057_01.row.toRowW.prog w) A (call (.ref 146) [.ref x])
      (Fin1 (fun v h => ∃ D k, v = .ref D ∧ s.heap.get? D = none ∧ h.get? D = some (listOf #[] k)) s) E s := by
  obtain ⟨dp, un, gd, cn, cs', L, a, ccd, cl, outer, A₀, base, h₀, m, mean, mg, mb, rfl, B, F, X, T, hk⟩ := cx.is
  clear cx
  obtain ⟨hsh, tki, k, I⟩ := H.inst
  have hIL : s.heap.IsList hl #[] := ⟨_, H.list, rfl, _, rfl⟩
  revert X; k_fill; intro X
  refine wpAny_call ?_
  k_dflt (ktr_call ([(Str.ofString "self", Value.ref x)]) Lf)
  k_steps
  (with_reducible rename Fr s.heap _ _ _ => F7)
  (with_reducible rename News s.heap _ _ _ => N7)
  exact Fin1.of (fun b o e => F7.keep _ _ e) ⟨_, 0, rfl, (N7 _ (.head _)).2.2, (N7 _ (.head _)).1⟩
end Mine
end

section
open PySem PySem.W PySem.Calls PyProof.Rows Mine
set_option maxRecDepth 100000
set_option maxHeartbeats 1000000
namespace Mine
local macro_rules | `(tactic| walk_at "none at all") => `(tactic| fail)



local macro_rules | `(tactic| wtm_at "halt") => `(tactic| (with_reducible (first | show wpAny _ _ (exec (Stmt.Assign _ (Expr.ListComp _ _ _ _) _) _) _ _ _)))

local macro_rules | `(tactic| ktr_call $b:term $c:term) => `(tactic| first
  | (refine' enterM (binds := $b) ?k1 ?k2 ?k3 ?k4 ?kN ?kA ?kF ?kK ?k6 ?k7 ?k8 ?k9 ?kB ?_ ?c2 ?c3 ?c4 ?c5; (case kA | kF => exact rfl); (case kK => assumption); (case k1 | k2 | k3 | k4 | kN => k_asm); (case k6 | k7 => k_is); (case k8 => ktr_room); (case k9 => exact fun _ => rfl); (case c5 => decide); (case kB => exact locs rfl); (case c2 | c3 | c4 => exact rfl); k_whole; intro L' h' F' N' B' X' T' l1; (try dsimp only); (try k_fold))
  | (refine' enterMC (binds := $b) ?k1 ?k2 ?k3 ?k4 ?kN ?kA ?kF ?kK ?k6 ?k7 ?k8 ?k9 ?kB ?kD ?_ ?c2 ?c3 ?c4; (case kA | kF => exact rfl); (case kK => assumption); (case k1 | k2 | k3 | k4 | kN => k_asm); (case k6 | k7 => k_is); (case k8 => ktr_room); (case k9 => exact fun _ => rfl); (case kB => exact rfl); (case kD => decide +kernel); (case c2 | c3 | c4 => exact rfl); k_whole; intro L' h' tk' cells' F' N' Y' B' X' T' l1; k_cells Y'; (try simp only [List.cons_append, List.nil_append] at N'); (try dsimp only); (try k_fold)))

theorem neA {a b : Nat} (h : a ≠ b) : @Ne Addr a b := h
theorem hdrN {g h : Heap} {L : Addr} {m : Str → Option Value} {news : List (Addr × Obj)} {x dx hl n : Nat} {its : List Value} {hsh : Int} {tk : Tok} {k : Nat} (I : InstAt g x (instObj 182 dx) 182 (some (dictOf [⟨hsh, .str (Str.ofString "_headers") tk, .ref hl⟩] k)))
    (F : Fr g L h m) (N : News g L h news) (hm : (hl, listOf its.toArray n) ∈ news) : Hdr h x dx hl its n := ⟨⟨_, _, _, Mine.InstAt.mono I F.keep⟩, (N _ hm).1⟩
local macro_rules | `(tactic| walk_at "compareOp Eq ref ref") => `(tactic| (k_here; k_dflt (refine' eqE ?N ?a ?b ?i ?u ?_; (case N => k_asm); (case a | b => k_mem); (case i => assumption); (case u => ktr_units); k_whole)))
local macro_rules | `(tactic| walk_at "newList") => `(tactic| (k_here; k_dflt (refine' newList_P ?k1 ?k2 ?k3 ?_; (case k1 | k2 => k_asm); (case k3 => exact Nat.le_of_ble_eq_true rfl); k_whole); intro l' h' F' N' l1 k'; (try k_lt l1); (try k_sweep)))
theorem delItem_K {K : Frag} {M : Model} {A : Around} {E : Value → Shared → Prop} {s : Shared} {h₀ : Heap} {L x C f : Addr} {m : Str → Option Value} {ox : Obj} {od : Option Obj} {v : Value} {Q : Unit → Shared → Prop} (F : Fr h₀ L s.heap m) (X₀ : K.In h₀) (I : InstAt s.heap x ox C od) (hq : noSeq K C = true) (hs : findIn K (.ref C) "__delitem__" = some (some (.ref f))) (hf : isFn K (.ref f) = true)
    (h : wpAny M A (call (.ref f) [.ref x, v]) (fun _ s' => Q () s') E s) : wpAny M A (PySem.delItem (.ref x) v) Q E s := by
  have X := X₀.keeps F.keep
  unfold PySem.delItem sequenceKey
  refine wpAny_holding (wpAny_bind (wpAny_bind (I.type.here ?_)))
  refine wpAny_bind ((anyM_none X hq).here ?_)
  rw [if_pos (show (!false) = true from rfl)]
  exact wpAny_pure (wpAny_bind (special_fn X I hs (beq_iff_eq.mp hf) (wpAny_mono h (fun _ _ z => wpAny_pure z) fun _ _ z => z)))
local macro_rules | `(tactic| walk_at "delItem ref str") => `(tactic| (k_here; k_dflt (refine' delItem_K ?k1 ?k2 ?k3 ?k4 ?k5 ?k6 ?_; (case k1 | k2 => k_asm); (case k3 => k_inst); (case k4 | k5 | k6 => k_is); k_whole)))
local macro_rules | `(tactic| walk_at "binaryOp Pow int int") => `(tactic| (k_here; (with_reducible refine pow_int_small ?kb1 ?kb2 ?kb3 ?_); (case kb1 | kb2 => omega); (case kb3 => decide)))
theorem item0 (c : Nat) {ls : List Nat} (h : ls.length ≤ 4) : Txt.item ⟨(c :: ls).toArray⟩ 0 = T1 c := by
  rcases ls with _ | ⟨a, _ | ⟨b, _ | ⟨d, _ | ⟨e, _ | ⟨f, l⟩⟩⟩⟩⟩
  · kernel_rfl
  · kernel_rfl
  · kernel_rfl
  · kernel_rfl
  · kernel_rfl
  · simp at h
theorem slice0 (c : Nat) {ls : List Nat} (h : ls.length ≤ 4) : Txt.slice ⟨(c :: ls).toArray⟩ (some 1) none = ⟨ls.toArray⟩ := by
  rcases ls with _ | ⟨a, _ | ⟨b, _ | ⟨d, _ | ⟨e, _ | ⟨f, l⟩⟩⟩⟩⟩
  · kernel_rfl
  · kernel_rfl
  · kernel_rfl
  · kernel_rfl
  · kernel_rfl
  · simp at h
theorem str0 {prog : Program} {w : World} {A : Around} {E : Value → Shared → Prop} {s : Shared} {value slice : Expr} {c : Nat} {ls : List Nat} {t u : Tok} {Q : Value → Shared → Prop} (hl : ls.length ≤ 4) (h : Q (.str (T1 c) s.toks) { s with toks := s.toks + 1 })
    (hs : subscripted slice false (.str ⟨(c :: ls).toArray⟩ t) (.int 0 u) = operate [.str ⟨(c :: ls).toArray⟩ t, .int 0 u] (getItem (.str ⟨(c :: ls).toArray⟩ t) (.int 0 u)) := by with_unfolding_all rfl)
    (ht : ∀ r, letTemporaryGo value (.str ⟨(c :: ls).toArray⟩ t) r = pure () := by intro _; with_unfolding_all rfl) :
    wpAny (model prog w) A (subscriptTail value slice (.str ⟨(c :: ls).toArray⟩ t) (.int 0 u)) Q E s := by
  refine item_str (by decide) (by show -(((c :: ls).toArray.size : Nat) : Int) ≤ 0; omega) (by show (0 : Int) < (((c :: ls).toArray.size : Nat) : Int); simp) (fun _ => ?_) hs ht
  rw [item0 c hl]; exact h
theorem slice1 {prog : Program} {w : World} {A : Around} {E : Value → Shared → Prop} {s : Shared} {h₀ : Heap} {L : Addr} {m : Str → Option Value} {news : List (Addr × Obj)} {value slice : Expr} {c : Nat} {ls : List Nat} {t ui : Tok} {Q : Value → Shared → Prop} (hl : ls.length ≤ 4) (F : Fr h₀ L s.heap m) (N : News h₀ L s.heap news)
    (h : ∀ h' t' k, Fr h₀ L h' m → News h₀ L h' news → (∀ b o, s.heap.get? b = some o → h'.get? b = some o) → Q (.str ⟨ls.toArray⟩ t') { s with heap := h', toks := k })
    (hs : subscripted slice false (.str ⟨(c :: ls).toArray⟩ t) (.ref s.heap.objs.size) = operate [.ref s.heap.objs.size, .str ⟨(c :: ls).toArray⟩ t] (getItem (.str ⟨(c :: ls).toArray⟩ t) (.ref s.heap.objs.size)) := by with_unfolding_all rfl)
    (ht : ∀ r, letTemporaryGo value (.str ⟨(c :: ls).toArray⟩ t) r = pure () := by intro _; with_unfolding_all rfl) :
    wpAny (model prog w) A (subscriptTail value slice (.str ⟨(c :: ls).toArray⟩ t) (.ref s.heap.objs.size)) Q E { s with heap := s.heap.push { cls := .type "slice", data := .fields #[.int 1 ui, .none, .none] } } := by
  refine tail_of_ItemOn (SBH.sliceItem_sn (P := fun h' => ∀ b o, s.heap.get? b = some o → h'.get? b = some o) (fun h ob k b o e => Heap.get?_push_of_some _ (k b o e)) (fun _ _ e => e) (fun h' t' k a => ?_) (Nat.le_trans (show (c :: ls).toArray.size ≤ 1000 by simp; omega) (small_line (Nat.le_refl _)))) hs ht
  rw [slice0 c hl]
  exact h h' t' k (F.keeps a) (N.grown a) a
local macro_rules | `(tactic| walk_at "subscriptTail Name Constant str int") => `(tactic| (k_here; k_dflt (refine' str0 ?k1 ?_; (case k1 => assumption); k_whole)))
local macro_rules | `(tactic| walk_at "subscriptTail Name Slice str ref") => `(tactic| (k_here; k_dflt (refine' slice1 (s := ⟨_, _, _, _, _⟩) ?k1 ?k2 ?k3 ?_; (case k1 => assumption); (case k2 | k3 => k_asm); k_whole); intro h' t' k' F' N' K'))
local macro_rules | `(tactic| walk_at "call ref") => `(tactic| (k_here; k_dflt (first
  | (refine' Fin1.use (itemsE (Cx.of ?k1 ?k2 ?k3 ?k4 ?k5) ?kd ?ku ?kH) ?kF ?kN ?kE ?_; (case k1 | k2 | k3 | k4 => k_asm); (case k5 => first | exact rfl | assumption); (case kd => ktr_room); (case ku => ktr_units);(case kH => exact hdrN (by assumption) (by k_asm) (by k_asm) (by k_mem));(case kF | kN => k_asm); (case kE => exact fun _ _ h => h); k_whole; intro v9 h9 tk9 R9 F9 N9 K9; obtain ⟨D9, k9, e9, hD9, hys9⟩ := R9; subst e9; (try dsimp only at hD9); (have N10 := News.addNew (by k_asm) hD9 hys9 N9); clear N9; (try dsimp only); (try k_fold))
  | (refine' Fin1.use (evenT (Cx.of ?k1 ?k2 ?k3 ?k4 ?k5) ?kd ?ku ?kH ?kp ?ka ?kb ?kc ?kg ?kh) ?kF ?kN ?kE ?_; (case k1 | k2 | k3 | k4 => k_asm); (case k5 => first | exact rfl | assumption); (case kd => ktr_room); (case ku => ktr_units);(case kH => exact hdrN (by assumption) (by k_asm) (by k_asm) (by k_mem));(case kp => exact Paired.imp (by assumption) fun v q _ _ p => PairAt.keeps p (Fr.keep (by k_asm))); (case ka => assumption); (case kb => omega); (case kc | kg | kh => assumption); (case kF | kN => k_asm); (case kE => exact fun _ _ h => h); k_whole; intro v9 h9 tk9 R9 F9 N9 K9; obtain ⟨t9, e9⟩ := R9; subst e9; (try dsimp only); (try k_fold))
  | (refine' Fin1.use (rimsT (Cx.of ?k1 ?k2 ?k3 ?k4 ?k5) ?kd ?ku ?kw ?kp ?ka ?kb ?kc) ?kF ?kN ?kE ?_; (case k1 | k2 | k3 | k4 => k_asm); (case k5 => first | exact rfl | assumption); (case kd => ktr_room); (case ku => ktr_units); (case kw => exact isL_F (by k_asm) (by assumption)); (case kp | ka => assumption); (case kb => omega); (case kc => assumption); (case kF | kN => k_asm); (case kE => exact fun _ _ h => h); k_whole; intro v9 h9 tk9 R9 F9 N9 K9; obtain ⟨t9, e9⟩ := R9; subst e9; (try dsimp only); (try k_fold))
)))

theorem stT0 {w : World} {A : Around} {s : Shared} {E : Value → Shared → Prop} {wl x dx hl n : Nat} {tl : Tok}
    (cx : CxM w A s.heap hl) (hd : A.depth + 50 < recursionLimit) (hu : A.units + 500 < cLine) 
    (H : Hdr s.heap x dx hl [] n) :
    wpAny (model PySem.Challenge.rw_pm0057_01.row.toRowW.prog w) A (call (.ref 233) [.ref x, .ref wl, .str ⟨([] : List Nat).toArray⟩ tl])
      (Fin2 hl (fun v _ _ => v = .bool true) s) E s := by
  obtain ⟨dp, un, gd, cn, cs', L, a, ccd, cl, outer, A₀, base, h₀, m, mean, mg, mb, rfl, B, F, X, T, hk, hq, hL⟩ := cx.is
  clear cx
  obtain ⟨hsh, tki, k, I⟩ := H.apart
  have N : News h₀ L s.heap [(hl, listOf ([] : List Value).toArray n)] := fun p hp => by
    rw [List.mem_singleton.mp hp]
    exact ⟨H.list, hL, hq⟩
  revert X; k_fill; intro X
  refine wpAny_call ?_
  k_dflt (ktr_call ([(Str.ofString "ribbons", Value.ref x), (Str.ofString "word", Value.ref wl), (Str.ofString "left", Value.str ⟨([] : List Nat).toArray⟩ tl)]) ())
  have hI0 : IntsAre (#[] : Array Value).toList [] := .nil
  k_steps
  (with_reducible rename Fr (hideAll s.heap [hl]) _ _ _ => F8)
  (with_reducible rename News (hideAll s.heap [hl]) _ _ _ => N8)
  exact Fin2.mk F8 N8 (.tail _ (.tail _ (.tail _ (.head _)))) rfl

def StC (w : World) (ls : List Nat) : Prop := ∀ {A : Around} {s : Shared} {E : Value → Shared → Prop} {wl x dx hl n : Nat} {its vs : List Value} {hs : List (Nat × Nat)} {tl : Tok},
  CxM w A s.heap hl → A.depth + 50 + 2 * ls.length < recursionLimit → A.units + 500 + 100 * ls.length < cLine → Hdr s.heap x dx hl its n → Paired (PairAt s.heap) its hs → (∀ q ∈ hs, okCode q.1 = true ∧ q.2 < 10) → its.length ≤ 20 →
  s.heap.IsList wl vs.toArray → wl ≠ hl → Signs vs (hs.map (·.1)) → (∀ c ∈ ls, okCode c = true) → ls.length ≤ 5 → Stays ls hs →
    wpAny (model PySem.Challenge.rw_pm0057_01.row.toRowW.prog w) A (call (.ref 233) [.ref x, .ref wl, .str ⟨ls.toArray⟩ tl])
      (Fin2 hl (fun v _ _ => v = .bool true) s) E s
theorem stT1 {w : World} {c : Nat} {ls : List Nat} (ih : StC w ls) : StC w (c :: ls) := by
  intro A s E wl x dx hl n its vs hs tl cx hd hu H hp hok hlen hw hwl hsg hls hl5 hst
  obtain ⟨hgood, hoth, hlaw, hrim, hst2⟩ := hst
  obtain ⟨dp, un, gd, cn, cs', L, a, ccd, cl, outer, A₀, base, h₀, m, mean, mg, mb, rfl, B, F, X, T, hk, hq, hL⟩ := cx.is
  clear cx
  obtain ⟨hsh, tki, k, I⟩ := H.apart
  have N : News h₀ L s.heap [(hl, listOf its.toArray n)] := fun p hp => by
    rw [List.mem_singleton.mp hp]
    exact ⟨H.list, hL, hq⟩
  have hp' : Paired (PairAt (hideAll s.heap [hl])) its hs := Paired.imp hp fun v q _ _ p => p.apart H.list
  have hw' : (hideAll s.heap [hl]).IsList wl vs.toArray := by obtain ⟨o, e, r⟩ := hw; exact ⟨o, hide1_get e hwl, r⟩
  have hcs : ∀ d ∈ hs.map (·.1), okCode d = true := fun d hd => by obtain ⟨q, hq, rfl⟩ := List.mem_map.mp hd; exact (hok q hq).1
  have hvl : vs.length = its.length := by rw [hsg.length, List.length_map, hp.length]
  have hcok : okCode c = true := hls c List.mem_cons_self
  revert X; k_fill; intro X
  refine wpAny_call ?_
  k_dflt (ktr_call ([(Str.ofString "ribbons", Value.ref x), (Str.ofString "word", Value.ref wl), (Str.ofString "left", Value.str ⟨(c :: ls).toArray⟩ tl)]) ())
  simp only [List.length_cons] at hd hu hl5
  have hl4 : ls.length ≤ 4 := by omega
  have hrl := rims_le (hs.map (·.1))
  have hcl : (hs.map (·.1)).length = its.length := by rw [List.length_map, hp.length]
  (with_reducible rename hl < _ => lhl)
  have lhn : @LT.lt Nat _ hl _ := lhl
  clear hp hw N H
  k_steps
  · (with_reducible rename (_ == _) = _ => ha)
    exact absurd ha (by simp; exact fun h => by have := congrArg (fun s : Str => s.cps.size) h; rw [show (Str.ofString "").cps.size = 0 from by decide +kernel] at this; simp at this)
  · (with_reducible rename ¬ _ => ha)
    exact absurd (by rw [hlaw]; simp) ha
  k_steps
  k_dflt (refine' Fin2.use (Mine.delItem (CxM.of ?k1 ?k2 ?k3 ?k4 ?k5 hide1_none ?k6) ?kd ?ku ?kc ?kH ?kp ?ka ?kb) ?kF ?kN ?kU ?kE ?_)
  case k1 => k_asm
  case k2 => k_asm
  case k3 => k_asm
  case k4 => k_asm
  case k5 => first | exact rfl | assumption
  case k6 => exact Nat.ne_of_lt (by assumption)
  case kd => ktr_room
  case ku => ktr_units
  case kc => assumption
  case kH => exact hdrN (by assumption) (by k_asm) (by k_asm) (by k_mem)
  case kp => exact Paired.imp (by assumption) fun v q _ _ p => PairAt.keeps p (Fr.keep (by k_asm))
  case ka => assumption
  case kb => exact Nat.le_trans hlen (by decide)
  case kF => k_asm
  case kN => k_asm
  case kU => k_updF
  case kE => exact fun _ _ h => h
  intro v9 o9 h9 tk9 R9 F9 N9 K9
  obtain ⟨its9, n9, e9, hp9⟩ := R9
  subst e9
  k_steps
  refine' lcL ?hh ?hclos ?hcell ?hkind ?hnames ?hx ?hs ?h
  case hh => exact rfl
  case hclos => with_unfolding_all rfl
  case hcell => decide
  case hkind => with_unfolding_all rfl
  case hnames => decide
  case hx => with_unfolding_all rfl
  case hs => intro _; with_unfolding_all rfl
  k_steps
  (with_reducible rename Fr (hideAll s.heap [hl]) _ h9 _ => F8)
  (with_reducible rename News (hideAll s.heap [hl]) _ h9 _ => N8)
  refine ⟨wl, vs, fun v => match v with | .str x _ => lowc (x.cps.getD 0 0) != lowc c | _ => false, fun v y => y = v, rfl, ?isl, ?sz, ?tests, ?elts, ?done⟩
  case isl => exact isL_F F8 hw'
  case sz => exact small_line (by omega)
  case tests =>
    intro C v s₂ m₂ E' hv hn hm hk2
    obtain ⟨d, hd, t, rfl⟩ := Paired.memL hsg v hv
    have hdok := hcs d hd
    have F9 := F8.keeps hk2
    have N9 := N8.grown hk2
    k_steps
    exact Fin1.of (fun _ _ e => e) (by
      have e : (T1 (lowc d) == T1 (lowc c)) = (lowc d == lowc c) := by rw [Bool.eq_iff_iff, beq_iff_eq, beq_iff_eq, T1_inj]
      show (!(T1 (lowc d) == T1 (lowc c))) = _
      rw [e]; rfl)
  case elts =>
    intro C v s₂ m₂ E' hv hpv hn hm hk2
    have F9 := F8.keeps hk2
    have N9 := N8.grown hk2
    k_steps
    exact Fin1.of (fun _ _ e => e) rfl
  case done =>
    intro D ys k' h' tk hD hys hP hk3
    have F9 := F8.keeps hk3
    have N9 := News.addNew F8 hD hys (N8.grown hk3)
    have hDhl : D ≠ hl := fun e => by
      have := (N8 (hl, listOf its9.toArray n9) (.tail _ (.head _))).1
      rw [← e, hD] at this; cases this
    clear F8 N8
    k_steps
    rename_i h8 t8 k8 F10 N10 K8
    k_dflt (refine' Fin2.use (ih (CxM.of ?k1 ?k2 ?k3 ?k4 ?k5 hide1_none ?k6) ?kd ?ku ?kH ?kp ?ka ?kb ?kw ?kwl ?ksg ?kls ?kl5 ?kst) ?kF ?kN ?kU ?kE ?_)
    case k1 => k_asm
    case k2 => k_asm
    case k3 => k_asm
    case k4 => k_asm
    case k5 => first | exact rfl | assumption
    case k6 => exact Nat.ne_of_lt (by assumption)
    case kH => exact hdrN (by assumption) (by k_asm) (by k_asm) (by k_mem)
    case kp => exact Paired.imp hp9 fun v q _ _ p => PairAt.keeps (PairAt.keeps p hk3) K8
    case ka => exact fun q hq => hok q (List.mem_filter.mp hq).1
    case kb =>
      have e1 := hp9.length
      have e2 := List.length_filter_le (fun q : Nat × Nat => lowc q.1 != lowc c) hs
      rw [List.length_map] at hcl
      omega
    case kw => 
      show Heap.IsList _ D ys.toList.toArray
      rw [Array.toArray_toList]; exact isL_N N10 (.head _)
    case kwl => exact hDhl
    case ksg =>
      have e : (hs.filter fun q => lowc q.1 != lowc c).map (·.1) = (hs.map (·.1)).filter fun d => lowc d != lowc c := by
        rw [List.filter_map]; rfl
      rw [e]
      exact Paired.symmF (Paired.conv (Paired.filter2 hsg (pz := fun d => lowc d != lowc c) (fun v q _ ⟨t, e⟩ => by rw [e]; rfl)) (fun v q y _ hr hf => by rw [hf]; exact hr) hP)
    case kls => exact fun d hd => hls d (List.mem_cons_of_mem _ hd)
    case kl5 => omega
    case kst => exact hst2
    case kd => ktr_room
    case ku => ktr_units
    case kF => k_asm
    case kN => k_asm
    case kU => k_updF
    case kE => exact fun _ _ h => h
    intro v9 o9 h9 tk9 R9 F11 N11 K9
    subst R9
    exact Fin2.mk F11 N11 (.tail _ (.tail _ (.head _))) rfl
theorem stT {w : World} (ls : List Nat) : StC w ls := by
  induction ls with
  | nil =>
    intro A s E wl x dx hl n its vs hs tl cx hd hu H hp hok hlen hw hwl hsg hls hl5 hst
    have e : hs = [] := hst
    subst e
    cases hp
    exact stT0 cx (by simp at hd; omega) (by simp at hu; omega) H
  | cons c ls ih => exact stT1 ih
end Mine
end

section
open PySem PySem.W PySem.Calls PyProof.Rows Mine
set_option maxRecDepth 100000
set_option maxHeartbeats 2000000
namespace Mine
local macro_rules | `(tactic| walk_at "none at all") => `(tactic| fail)
local macro_rules | `(tactic| walk_at "none at all") => `(tactic| fail)
local macro_rules | `(tactic| walk_at "none at all") => `(tactic| fail)
local macro_rules | `(tactic| walk_at "none at all") => `(tactic| fail)
local macro_rules | `(tactic| walk_at "none at all") => `(tactic| fail)
local macro_rules | `(tactic| walk_at "none at all") => `(tactic| fail)
local macro_rules | `(tactic| walk_at "none at all") => `(tactic| fail)

local macro_rules | `(tactic| wtm_at "halt") => `(tactic| (with_reducible (first | show wpAny _ _ (subscriptTail (Expr.List _ _) _ _ _) _ _ _ | show wpAny _ _ (call (Value.ref 179) _) _ _ _ | show wpAny _ _ (call (Value.ref 233) _) _ _ _)))



theorem News.pick6 {g h : Heap} {L : Addr} {a b c d : Addr × Obj} {r : List (Addr × Obj)} (N : News g L h (a :: b :: c :: d :: r)) : News g L h [a, b, c, d] := fun p hp => N p (by
  simp only [List.mem_cons, List.not_mem_nil, or_false] at hp ⊢
  rcases hp with h | h | h | h <;> simp [h])
theorem wordTo_len (ns : List Int) : ∀ i, (wordTo ns i).length = 2 * i
  | 0 => rfl
  | i + 1 => by
    rw [wordTo_succ]
    unfold wordStep
    rw [insAt_len, insAt_len, wordTo_len ns i]; omega
theorem law_named {g h : Heap} {L hl x d D : Addr} {a b d4 : Obj} {hsh : Int} {tk : Tok} {k : Nat} (N : News g L h [(hl, a), (x, b), (d, dictOf [⟨hsh, .str (Str.ofString "_headers") tk, .ref hl⟩] k), (D, d4)]) :
    ∃ hsh tk k, News g L h [(hl, a), (x, b), (d, dictOf [⟨hsh, .str (Str.ofString "_headers") tk, .ref hl⟩] k), (D, d4)] := ⟨_, _, _, N⟩
theorem pairAt_but {h h' : Heap} {I : Addr} {v : Value} {q : Nat × Nat} (p : PairAt h v q) (k : KeptBut [I] h h') (hv : v ≠ .ref I) : PairAt h' v q := by
  obtain ⟨t, a, b, rfl, o, ho, r⟩ := p
  exact ⟨t, a, b, rfl, o, k _ _ (by simpa using fun e => hv (by rw [e])) ho, r⟩
theorem pairAt_ne {h : Heap} {I : Addr} {v : Value} {q : Nat × Nat} {x y : Int} (p : PairAt h v q) (e : h.get? I = some (rIt x y)) : v ≠ .ref I := by
  obtain ⟨t, a, b, rfl, o, ho, hc, r⟩ := p
  intro e2
  cases e2
  rw [e] at ho
  cases ho
  simp [rIt] at hc
theorem signs_get {vs : Array Value} {cs : List Nat} (h : Signs vs.toList cs) (i : Nat) (hi : i < cs.length) : ∃ t, vs[((i : Nat) : Int).toNat]? = some (Value.str (T1 (cs.getD i 0)) t) := by
  obtain ⟨v, hv, t, rfl⟩ := Paired.get h i (cs.getD i 0) (by simp [hi])
  exact ⟨t, by simpa using hv⟩
theorem getD_mem {cs : List Nat} {i : Nat} (h : i < cs.length) : cs.getD i 0 ∈ cs := by
  rw [List.getD_eq_getElem?_getD, List.getElem?_eq_getElem h]; exact List.getElem_mem h
theorem mem_insAt {α : Type} {l : List α} {i : Nat} {a c : α} (h : c ∈ insAt l i a) : c = a ∨ c ∈ l := by
  unfold insAt at h
  rcases List.mem_append.mp h with h | h
  · exact .inr (List.mem_of_mem_take h)
  · rcases List.mem_cons.mp h with h | h
    · exact .inl h
    · exact .inr (List.mem_of_mem_drop h)
theorem code_ok {k : Nat} (hk : k < 5) (x : Int) : okCode (97 + (k : Int) - 32 * x.fmod 2).toNat = true := by
  have h0 : 0 ≤ x.fmod 2 := Int.fmod_nonneg_of_pos _ (by decide)
  have h1 : x.fmod 2 < 2 := Int.fmod_lt_of_pos _ (by decide)
  generalize x.fmod 2 = y at h0 h1
  unfold okCode
  have : y = 0 ∨ y = 1 := by omega
  rcases this with rfl | rfl <;> simp <;> omega
theorem wordTo_ok (ns : List Int) : ∀ i, i ≤ 5 → ∀ c ∈ wordTo ns i, okCode c = true
  | 0, _, c, h => by cases h
  | i + 1, hi, c, h => by
    rw [wordTo_succ] at h
    unfold wordStep at h
    rcases mem_insAt h with rfl | h
    · exact code_ok (by omega) _
    · rcases mem_insAt h with rfl | h
      · exact code_ok (by omega) _
      · exact wordTo_ok ns i (by omega) c h
theorem hdrL {g h : Heap} {L x d hl : Addr} {n : Nat} {its : List Value} {news : List (Addr × Obj)} {hsh : Int} {tk : Tok} {k : Nat} (N : News g L h news) (m1 : (x, instObj 182 d) ∈ news) (m2 : (d, dictOf [⟨hsh, .str (Str.ofString "_headers") tk, .ref hl⟩] k) ∈ news) (m3 : (hl, listOf its.toArray n) ∈ news) : Hdr h x d hl its n :=
  ⟨⟨hsh, tk, k, (N _ m1).1, rfl, rfl, (N _ m2).1⟩, (N _ m3).1⟩
theorem newsNone {g h : Heap} {L a : Addr} {o : Obj} {news : List (Addr × Obj)} (N : News g L h news) (m : (a, o) ∈ news) : g.get? a = none := (N _ m).2.2
theorem newsNe {g h : Heap} {L a : Addr} {o : Obj} {news : List (Addr × Obj)} (N : News g L h news) (m : (a, o) ∈ news) : a ≠ L := (N _ m).2.1
theorem storeFr {g h h2 : Heap} {L : Addr} {m m' : Str → Option Value} (F : Fr g L h m) (hn : h2.Ns L m') (hs : Heap.SameBut L h h2) : Fr g L h2 m' :=
  ⟨hn, fun b o e => hs.extBut b o (Nat.ne_of_lt (Nat.lt_of_lt_of_le (Heap.lt_size e) F.above)) (F.keep _ _ e), F.above⟩
theorem storeNews {g h h2 : Heap} {L : Addr} {news : List (Addr × Obj)} (N : News g L h news) (hs : Heap.SameBut L h h2) : News g L h2 news := fun p hp => ⟨hs.extBut _ _ (N p hp).2.1 (N p hp).1, (N p hp).2⟩
theorem pairAt_neL {h : Heap} {L : Addr} {m : Str → Option Value} {v : Value} {q : Nat × Nat} (p : PairAt h v q) (n : h.Ns L m) : v ≠ .ref L := by
  obtain ⟨t, a, b, rfl, o, ho, hc, k, hd⟩ := p
  intro e2
  cases e2
  obtain ⟨o', es, ep, ho', r⟩ := n
  rw [ho] at ho'
  cases ho'
  simp_all
theorem str_T1 {p : Nat} (hp : p < 10) : (Str.ofString (toString (p : Int))) = T1 (48 + p) := by
  rcases p with _|_|_|_|_|_|_|_|_|_|p
  all_goals first | (exfalso; omega) | decide +kernel
theorem strP {prog : Program} {w : World} {A : Around} {E : Value → Shared → Prop} {s : Shared} {p : Nat} {t : Tok} {Q : Value → Shared → Prop} (hp : p < 10) (h : Q (.str (T1 (48 + p)) s.toks) { s with toks := s.toks + 1 }) : wpAny (model prog w) A (call (.type "str") [.int (p : Int) t]) Q E s := by
  refine PySem.P.str_of_int ?_ ?_
  · rcases p with _|_|_|_|_|_|_|_|_|_|p
    all_goals first | (exfalso; omega) | decide +kernel
  · show Q (.str (Str.ofString (toString (p : Int))) s.toks) _
    rw [str_T1 hp]; exact h
local macro_rules | `(tactic| k_qdec) => `(tactic| decide +kernel)
local macro_rules | `(tactic| walk_at "call type:str") => `(tactic| (k_here; k_dflt (refine' strP ?k1 ?_; (case k1 => assumption); k_whole)))
local macro_rules | `(tactic| walk_at "call ref") => `(tactic| (k_here; k_dflt (first
  | (refine' Fin1.use (wordT (Cx.of ?k1 ?k2 ?k3 ?k4 ?kk) ?kd ?ku ?kl ?ki ?k5) ?kF ?kN ?kE ?_; (case k1 | k2 | k3 | k4 => k_asm); (case kk => first | exact rfl | assumption); (case kd => ktr_room); (case ku => ktr_units); (case kl => exact isL_N (by k_asm) (by k_mem)); (case ki | k5 => assumption); (case kF | kN => k_asm); (case kE => exact fun _ _ h => h); k_whole; intro v9 h9 tk9 R9 F9 N9 K9; obtain ⟨D9, ys9, k9, e9, hD9, hys9, hP9⟩ := R9; subst e9; (try dsimp only at hD9); (have N10 := News.addNew (by k_asm) hD9 hys9 N9); clear N9; (try dsimp only); (try k_fold))
)))

inductive TopJ (g : Heap) (L hl it : Addr) (rest : List (Addr × Obj)) (cs : List Nat) (m0 : Str → Option Value) (i : Nat) (h : Heap) : Prop
  | mk (m : Str → Option Value) (its : List Value) (k2 : Nat) (z1 : Fr g L h m) (z2 : News g L h ((hl, listOf its.toArray k2) :: rest)) (z3 : ∀ y, y ∉ [Str.ofString "place"] → m y = m0 y) (z4 : its.length = i) (z5 : ∀ v ∈ its, v ≠ Value.ref it ∧ v ≠ Value.ref L) (z6 : Paired (PairAt h) its (hsTo cs i)) : TopJ g L hl it rest cs m0 i h
theorem top : PySem.Challenge.rw_pm0057_01.Holds := Mine.hd (by
  k_go0
  (all_goals try k_fold)
  (with_reducible rename Shared => s)
  (with_reducible rename Top _ _ _ _ _ _ => TT)
  (with_reducible rename IntsAre _ _ => hI0)
  (with_reducible rename List Int => ns)
  (try dsimp only)
  k_steps
  (with_reducible rename Fr _ _ _ _ => F2)
  (with_reducible rename News _ _ _ _ => N2)
  rename_i D1 ws1 h1 hI1 hC1 hL1 l1 l2 h2 l3 D3 ws3 h3 hI3 hC3 hL3 l4
  have hlit : ∀ a b c d e, IntsAre [Value.int 5 a, Value.int 46 b, Value.int 27 c, Value.int 220 d, Value.int 175 e] [5, 46, 27, 220, 175] := fun _ _ _ _ _ => .cons _ _ (.cons _ _ (.cons _ _ (.cons _ _ (.cons _ _ .nil))))
  k_dflt (refine kba_turn (value' := PySem.Expr.Name (PySem.Str.ofString "_") ⟨0, 0, 0, 0⟩) (fun _ => rfl) ?_)
  k_dflt (refine' kmk_slice_ints (s := ⟨_, _, _, _, _⟩) (ns := [5, 46, 27, 220, 175]) (ms := [5, 46, 27, 220, 175].drop ((ns.take 5).length)) ?zF ?zN ?zl ?zp ?zq ?zi ?zm rfl ?_ ?zs ?zt ?zz)
  case zF => k_asm
  case zN => k_asm
  case zl => exact isL_N N2 (.tail _ (.head _))
  case zp => kmk_part
  case zq => kmk_part
  case zi => exact hlit _ _ _ _ _
  case zm => simpa using kmk_from (hlit _ _ _ _ _) (Int.natCast_nonneg (ns.take 5).length)
  case zs => with_unfolding_all rfl
  case zt => exact fun _ => rfl
  case zz => exact Nat.le_of_ble_eq_true rfl
  intro D4 ws4 h4 F4 N4 l5 hI4 hC4 hL4
  clear F2 N2
  have h5 : (ns.take 5 ++ [5, 46, 27, 220, 175].drop (ns.take 5).length).length = 5 := by
    rw [List.length_append, List.length_drop, List.length_take]
    simp only [List.length_cons, List.length_nil]
    omega
  k_steps
  walk1
  k_steps
  (with_reducible rename Fr _ _ _ _ => F6)
  (with_reducible rename News _ _ _ _ => N6)
  (with_reducible rename Signs _ _ => hsg)
  (with_reducible rename Array Value => ys9)
  rename_i D9 k9 hD9 hys9 h0z tkz x1 d1 hA FA NA lA lB gA LA hB BA XA TA GA2 MA2 LA2 tk2 hl1 hC lC hD_ tk3 hE_ NB tk4 iA lD hF tkA FB NB2 Gc kX hG
  obtain ⟨hshD, tkD, kD, N7⟩ := law_named (News.pick6 N6)
  have kE : hG.get? hl1 = some (listOf #[] 0) := (N7 _ (.head _)).1
  have o1 : @LT.lt Nat _ x1 hl1 := lC.1
  have o2 : @LT.lt Nat _ d1 hl1 := lC.2.1
  have o3 : @LT.lt Nat _ D9 hl1 := lC.2.2.1
  clear N6 FA NA BA XA TA NB FB NB2 lA lB lC lD hys9 hD9
  have hw10 : (wordTo (ns.take 5 ++ [5, 46, 27, 220, 175].drop (ns.take 5).length) 5).length = 10 := wordTo_len _ 5
  have hy10 : ys9.size = 10 := by have := hsg.length; rw [hw10] at this; simpa using this
  have hcok : ∀ c ∈ wordTo (ns.take 5 ++ [5, 46, 27, 220, 175].drop (ns.take 5).length) 5, okCode c = true := wordTo_ok _ 5 (Nat.le_refl _)
  generalize hcs : wordTo (ns.take 5 ++ [5, 46, 27, 220, 175].drop (ns.take 5).length) 5 = cs at hsg hw10 hcok
  refine' forW ?hs8 ?h8
  case hs8 => intro _; with_unfolding_all rfl
  k_steps
  (with_reducible rename Fr _ _ _ _ => F8)
  (with_reducible rename News _ _ _ _ => N8)
  (with_reducible rename IsRange _ _ _ _ _ _ _ _ => hr)
  rename_i h11 tk11 tt1 uu1 vv1 kk1
  obtain ⟨m0, hm0⟩ := Fr.named F8
  refine pyIter_r (n := 10) hr (by omega) (by omega) ?_
  have i0 : ∀ b o, h11.get? b = some o → b ≠ h11.objs.size := fun b o e => Nat.ne_of_lt (Heap.lt_size e)
  have iL : s.heap.objs.size ≠ h11.objs.size := by obtain ⟨o, _, _, e, _⟩ := F8.ns; exact i0 _ _ e
  have iG : ∀ b ∈ [h11.objs.size], TT.heap.get? b = none := fun b hb => by
    cases q : TT.heap.get? b with
    | none => rfl
    | some o => exact absurd (List.mem_singleton.mp hb) (i0 _ _ (F8.keep _ _ q))
  have iN : ∀ p ∈ [(hl1, listOf #[] 0), (x1, instObj 182 d1), (d1, dictOf [⟨hshD, .str (Str.ofString "_headers") tkD, .ref hl1⟩] kD), (D9, listOf ys9 k9)], p.1 ∉ [h11.objs.size] := fun p hp => by simpa using i0 _ _ (N8 p hp).1
  have i1 : @Ne Nat hl1 h11.objs.size := by simpa using iN _ (.head _)
  refine ⟨h11.objs.size, [h11.objs.size], [h11.objs.size], 10, _, _, fun i h => TopJ TT.heap s.heap.objs.size hl1 h11.objs.size [(x1, instObj 182 d1), (d1, dictOf [⟨hshD, .str (Str.ofString "_headers") tkD, .ref hl1⟩] kD), (D9, listOf ys9 k9)] cs m0 i h, rfl, walksR rfl _ _, fun v => rfl, ?st0, ?j0, ?turn, ?done⟩
  case st0 => simpa using Heap.get?_push_size h11 (o := rIt 0 _) rfl
  case j0 => exact ⟨_, [], 0, F8.push _, N8.grown fun b o e => Heap.get?_push_of_some _ e, fun y _ => by rw [hm0], rfl, by simp, .nil⟩
  case turn =>
    intro i v h h₁ tk hi hPv hJ hk1 hst1
    refine turn_gen fun QQ hQQ => ?_
    obtain ⟨t, rfl⟩ := hPv
    obtain ⟨m, its, k2, Fh, Nh, hm, hlen, hne, hP⟩ := hJ
    have F3 := Fr.keptBut Fh hk1 iG (by simpa using iL)
    have N3 := News.keptBut (X := [h11.objs.size]) Nh hk1 (fun p hp => by
      rcases List.mem_cons.mp hp with e | hp
      · rw [e]; simpa using i1
      · exact iN _ (.tail _ hp))
    have NI : News TT.heap s.heap.objs.size h₁ ((h11.objs.size, _) :: _) := List.forall_mem_cons.mpr ⟨⟨hst1, fun e => iL e.symm, iG _ (.head _)⟩, N3⟩
    have hP3 : Paired (PairAt h₁) its (hsTo cs i) := Paired.imp hP fun v q hv _ p => pairAt_but p hk1 (hne v hv).1
    rw [mapL _ hm, hm0] at F3
    dsimp only [List.foldr] at F3
    obtain ⟨tw, hx⟩ := signs_get hsg i (by omega)
    have hci : okCode (cs.getD i 0) = true := hcok _ (getD_mem (by omega))
    have hpi : okCode (48 + i) = true := by unfold okCode; simp; omega
    have hl1000 : its.length ≤ 1000 := by omega
    clear Fh Nh hk1 hP
    refine wpAny_assign_Name (wpAny_storeName_local rfl F3.ns (fun h₂ hn₂ hs₂ => ?_) rfl)
    have F4 := storeFr F3 hn₂ hs₂
    have N4 := storeNews NI hs₂
    have hP4 : Paired (PairAt h₂) its (hsTo cs i) := Paired.imp hP3 fun v q hv _ p => pairAt_but p (fun b o hb e => hs₂.extBut b o (show b ≠ s.heap.objs.size by simpa using hb) e) (hne v hv).2
    clear F3 N3 NI hP3 hn₂ hs₂
    k_steps
    k_dflt (refine' Fin2.use (addHdr (CxM.of ?k1 ?k2 ?k3 ?k4 ?kk ?kq ?kL) ?kd ?ku ?kc ?kp ?kH ?kP ?kl) ?kF ?kN ?kU ?kE ?_)
    case kH => exact hdrL (by k_asm) (by k_mem) (by k_mem) (by k_mem)
    case k1 => k_asm
    case k2 => k_asm
    case k3 => k_asm
    case k4 => k_asm
    case kk => first | exact rfl | assumption
    case kq => exact newsNone (by k_asm) (by k_mem)
    case kL => exact newsNe (by k_asm) (by k_mem)
    case kd => ktr_room
    case ku => ktr_units
    case kc => assumption
    case kp => assumption
    case kP => assumption
    case kl => assumption
    case kF => k_asm
    case kN => k_asm
    case kU => k_updF
    case kE => exact fun _ _ h => h
    intro v9 o9 h9 tk9 R9 F9 N9 K9
    obtain ⟨its9, n9, e9, hl9, hp9⟩ := R9
    subst e9
    k_steps
    refine hQQ _ _ ⟨_, _, rfl, ⟨_, its9, n9, F9, fun p hp => N9 p (.tail _ hp), fun y hy => ?_, by omega, fun v hv => ?_, by rw [hsTo_succ]; exact hp9⟩, fun b hb o e => ?_⟩
    · simp at hy; simp [hy, hm0]
    · obtain ⟨q, _, p⟩ := Paired.memL hp9 v hv
      exact ⟨pairAt_ne p (N9 _ (.head _)).1, pairAt_neL p F9.ns⟩
    · rw [List.mem_singleton.mp hb] at e ⊢
      rw [hst1] at e
      cases e
      exact (N9 _ (.head _)).1
  case done =>
    rintro h h' tk ⟨m, its, k2, Fh, Nh, hm, hlen, hne, hP⟩ hk1
    have F3 := Fr.keptBut Fh hk1 iG (by simpa using iL)
    have N3 := News.keptBut (X := [h11.objs.size]) Nh hk1 (fun p hp => by
      rcases List.mem_cons.mp hp with e | hp
      · rw [e]; simpa using i1
      · exact iN _ (.tail _ hp))
    have hP3 : Paired (PairAt h') its (hsTo cs 10) := Paired.imp hP fun v q hv _ p => pairAt_but p hk1 (hne v hv).1
    rw [mapL _ hm, hm0] at F3
    dsimp only [List.foldr] at F3
    generalize m (Str.ofString "place") = y1 at F3
    clear Fh Nh hk1 hP hm
    (try dsimp only)
    k_steps
    have eA : Str.ofString "aBcDe" = ⟨[97, 66, 99, 68, 101].toArray⟩ := by decide +kernel
    rw [eA]
    have hst : Stays [97, 66, 99, 68, 101] (hsTo cs 10) := by rw [← hcs]; exact Pl.plainLaw _
    k_dflt (refine' Fin2.use (stT [97, 66, 99, 68, 101] (CxM.of ?z1 ?z2 ?z3 ?z4 ?zkk ?zkq ?zkL) ?zd ?zu ?zH ?zP ?za ?zb ?zw ?zwl ?zsg ?zls ?zl5 ?zst) ?zF ?zN ?zU ?zE ?_)
    case zH => exact hdrL (by k_asm) (by k_mem) (by k_mem) (by k_mem)
    case z1 => k_asm
    case z2 => k_asm
    case z3 => k_asm
    case z4 => k_asm
    case zkk => first | exact rfl | assumption
    case zkq => exact newsNone (by k_asm) (by k_mem)
    case zkL => exact newsNe (by k_asm) (by k_mem)
    case zP => exact hP3
    case za =>
      intro q hq
      obtain ⟨j, hj, rfl⟩ := List.mem_map.mp hq
      have := List.mem_range.mp hj
      exact ⟨hcok _ (getD_mem (by omega)), this⟩
    case zb => omega
    case zw =>
      show Heap.IsList _ D9 ys9.toList.toArray
      rw [Array.toArray_toList]; exact isL_N N3 (.tail _ (.tail _ (.tail _ (.head _))))
    case zwl => exact Nat.ne_of_lt o3
    case zsg => rw [hsTo_codes hw10]; exact hsg
    case zls => decide
    case zl5 => decide
    case zst => exact hst
    case zd => (simp only [List.length_cons, List.length_nil]; ktr_room)
    case zu => (simp only [List.length_cons, List.length_nil]; ktr_units)
    case zF => k_asm
    case zN => k_asm
    case zU => k_updF
    case zE => exact fun _ _ h => h
    intro v9 o9 h9 tk9 R9 F9 N9 K9
    subst R9
    k_steps)
end Mine
end

end

theorem PySem.Challenge.cw_pm0057_01_holds : PySem.Challenge.rw_pm0057_01.Holds :=
  Mine.top
