import PyProof.Rows.All
import Wide.All
import OpenK.AllK
import Wide.FinOn
import PySem.Challenge.RW_xg0033_01
set_option Elab.async false
set_option maxRecDepth 100000
set_option linter.all false
set_option maxHeartbeats 8000000
set_option genInjectivity false
set_option genSizeOfSpec false
section
open PySem PySem.W PyProof.Rows
namespace Mine
noncomputable def vw : Program := { PySem.Challenge.pw_xg0033_01 with main := { PySem.Challenge.pw_xg0033_01.main with body := [0, 2, 3, 4, 6, 7, 8, 9, 11, 12, 14, 15, 16, 17, 18, 20, 21, 22, 23, 24, 25, 26, 27, 28, 29, 30].filterMap fun i => PySem.Challenge.pw_xg0033_01.main.body[i]? } }
theorem head_of (H : Hook) {d : DefRec} {kwd : List (PySem.Str × Expr)} (hl : LeftO (OpenRow.toRowW PySem.Challenge.rw_xg0033_01.row).prog vw [PySem.Str.ofString "ONE_SIXTH", PySem.Str.ofString "TWO_THIRD", PySem.Str.ofString "_Accumulator"] (fun s => xlAt vw [] s && recOk (RowW.records (OpenRow.toRowW PySem.Challenge.rw_xg0033_01.row)) s) (Hook.obs H) (Hook.val H) 2546)
    (hdef : defOf vw PySem.Challenge.rw_xg0033_01.row.name = some (d, kwd)) (hp : PySem.Challenge.rw_xg0033_01.row.prog.theDef PySem.Challenge.rw_xg0033_01.row.name = some (d.params, d.body, d.scope)) (hk : kwWritten? d.params.kwonlyargs d.params.kw_defaults = some kwd) (k1 : PySem.Challenge.rw_xg0033_01.row.wellSaid = true)
    (hw : (OpenRow.toRowW PySem.Challenge.rw_xg0033_01.row).promised) (hc : WalkO vw [PySem.Str.ofString "ONE_SIXTH", PySem.Str.ofString "TWO_THIRD", PySem.Str.ofString "_Accumulator"] (XL vw []) (Hook.says H) (OpenRow.toRowW PySem.Challenge.rw_xg0033_01.row) d kwd fun f vs => PySem.call f vs) : PySem.Challenge.rw_xg0033_01.row.Holds :=
  holds_open (q := vw) hl (Hook.of H) (Hook.keeps H) (fun s e => xl_of s (Bool.and_eq_true_iff.mp e).1) XL.keeps hdef hp hk (fun s e => recFacts_of (Bool.and_eq_true_iff.mp e).2) (by rfl) k1 (by decide +kernel) ⟨rfl, rfl, rfl, rfl, rfl, by decide +kernel⟩ hw hc
set_option hygiene false in
local macro_rules | `(tactic| o_head $H) => `(tactic| (refine head_of $H ?hl (by rfl) (by rfl) (by rfl) (by assumption) ?hw ?hc; (case hl => (intro w; kernel_rfl))))
local macro_rules | `(tactic| o_law) => `(tactic| (refine holds_law ?ok9 fun said => ?_; (case ok9 => kernel_rfl)))
open_top hd for PySem.Challenge.rw_xg0033_01
end Mine
end
section
open PySem PySem.W PyProof.Rows PySem.Spec PySem.Calls
namespace Mine
theorem byG {G : Prop} (h : ∀ P : Prop, (G → P) → P) : G := h G id
section
variable {prog : Program} {w : World} {A₀ A : Around} {s : Shared} {base h₀ : Heap} {outer : List Env} {L : Addr} {m : Str → Option Value} {env : Env} {pin news : List (Addr × Obj)} {K : Frag}
  {name qual : Str} {params : Arguments} {body : List Stmt} {scope : Scope} {dV kV doc pm cdv ct oc : Value} {an od : Option Addr} {osl : Array (Option Value)} {f : Addr} {vs : List Value} {binds : List (Str × Value)}
  {p : Program} {loose : List Str} {mean : ExcName → Option Value} {mg mb : Str → Option Value} {Q E : Value → Shared → Prop} {Post : Value → List (Addr × Obj) → Prop}
noncomputable def PinEnd (g : Heap) (L' : Addr) (s : Shared) (pin : List (Addr × Obj)) (Post : Value → List (Addr × Obj) → Prop) (v : Value) (s' : Shared) : Prop :=
  ∃ tl m' h' tk', s' = { s with heap := h', toks := tk' } ∧ Fr g L' h' m' ∧ News g L' h' (tl ++ pin) ∧ (∀ q ∈ pin, ∀ p ∈ tl, p.1 ≠ q.1) ∧ Post v tl
noncomputable def NeAll (tl news : List (Addr × Obj)) : Prop := ∀ q ∈ news, ∀ p ∈ tl, p.1 ≠ q.1
theorem NeAll.ne2 {tl news : List (Addr × Obj)} {D b : Addr} {o ob : Obj} (h : NeAll tl news) (hp : (D, o) ∈ tl) (hb : (b, ob) ∈ news) : @Ne Nat D b := h _ hb _ hp
noncomputable abbrev PinRet (h₀ : Heap) (L : Addr) (m : Str → Option Value) (news : List (Addr × Obj)) (s : Shared) (Post : Value → List (Addr × Obj) → Prop) (Q : Value → Shared → Prop) : Prop :=
  ∀ v tl h' tk', Fr h₀ L h' m → News h₀ L h' (tl ++ news) → NeAll tl news → Post v tl → Q v { s with heap := h', toks := tk' }
theorem pin_back {g : Heap} {L' : Addr} {v : Value} {s' : Shared} (F : Fr h₀ L s.heap m) (N : News h₀ L s.heap news) (hg : ∀ b o, s.heap.get? b = some o → b ∉ pin.map (·.1) → g.get? b = some o)
    (hp : ∀ p ∈ pin, p ∈ news) (k : PinRet h₀ L m news s Post Q) (e : PinEnd g L' s pin Post v s') : Q v s' := by
  obtain ⟨tl, m', h', tk', rfl, F', N', hne, hpost⟩ := e
  have base : ∀ b o, h₀.get? b = some o → h'.get? b = some o := fun b o e => by
    refine F'.keep b o (hg b o (F.keep b o e) fun q => ?_)
    obtain ⟨r, hr, rfl⟩ := List.mem_map.mp q
    rw [(N r (hp r hr)).2.2] at e; cases e
  obtain ⟨oL, es, ep, hL1, hLd, hLk, hLf⟩ := F.ns
  have nL : L ∉ pin.map (·.1) := fun q => by
    obtain ⟨r, hr, e⟩ := List.mem_map.mp q
    exact (N r (hp r hr)).2.1 e
  have hgL := hg L oL hL1 nL
  have old : ∀ q ∈ news, h'.get? q.1 = some q.2 := fun q hq => by
    by_cases hm : q.1 ∈ pin.map (·.1)
    · obtain ⟨r, hr, e⟩ := List.mem_map.mp hm
      have h1 := (N r (hp r hr)).1
      rw [e, (N q hq).1] at h1
      have h2 := (N' r (List.mem_append_right _ hr)).1
      rw [e, ← Option.some.inj h1] at h2
      exact h2
    · exact F'.keep _ _ (hg _ _ (N q hq).1 hm)
  have fresh : ∀ q ∈ news, ∀ p ∈ tl, p.1 ≠ q.1 := fun q hq p hpt => by
    by_cases hm : q.1 ∈ pin.map (·.1)
    · obtain ⟨r, hr, e⟩ := List.mem_map.mp hm
      rw [← e]; exact hne r hr p hpt
    · intro e
      have h1 := (N' p (List.mem_append_left _ hpt)).2.2
      rw [e, hg _ _ (N q hq).1 hm] at h1; cases h1
  refine k v tl h' tk' ⟨⟨oL, es, ep, F'.keep L oL hgL, hLd, hLk, hLf⟩, base, F.above⟩ (fun p hpn => ?_) fresh hpost
  rcases List.mem_append.mp hpn with hpt | hpt
  · refine ⟨(N' p (List.mem_append_left _ hpt)).1, fun q => ?_, ?_⟩
    · have := (N' p (List.mem_append_left _ hpt)).2.2; rw [q, hgL] at this; cases this
    · cases q : h₀.get? p.1 with
      | none => rfl
      | some o =>
        have h1 := (N' p (List.mem_append_left _ hpt)).2.2
        have h2 := F.keep _ _ q
        have h3 : p.1 ∉ pin.map (·.1) := fun hm => by
          obtain ⟨r, hr, e⟩ := List.mem_map.mp hm
          have := (N r (hp r hr)).2.2
          rw [e, q] at this; cases this
        rw [hg _ _ h2 h3] at h1; cases h1
  · exact ⟨old p hpt, (N p hpt).2.1, (N p hpt).2.2⟩
theorem pin_call (B : Below A₀ base outer h₀) (F : Fr h₀ L s.heap m) (X₀ : K.In h₀) (N : News h₀ L s.heap news) (T : Top p loose mean mg mb h₀) (hA : A.frames = some (env :: outer)) (hf : env.frame = some L) (hke : env.scope.kind = .function)
    (ho : K.lookup f = some ⟨oc, od, .func (fnOf name qual params body scope dV kV doc pm an cdv ct), osl⟩) (hcd : codeIn K cdv qual = true) (hroom : A.depth < recursionLimit)
    (hbind : BindsTo s (fnOf name qual params body scope dV kV doc pm an cdv ct) ⟨vs, []⟩ binds) (hloc : ∀ y ∈ binds, scope.names.lookup y.1 = some .local) (hp : ∀ p ∈ pin, p ∈ news) (k : PinRet h₀ L m news s Post Q)
    (h : ∀ g L' h₁, Fr h₀ L g m → Fr g L' h₁ (fun y => binds.reverse.lookup y) → News g L' h₁ pin → Below A base (env :: outer) g → K.In g → Top p loose mean mg mb g → (∀ p ∈ pin, p.1 < L') →
      wpAny (model prog w) (A.deeper (envOf qual scope L' f cdv)) (execs body (envOf qual scope L' f cdv))
        (fun fl s' => PinEnd g L' s pin Post (match fl with | .ret v => v | _ => .none) s')
        (fun _ _ => False)
        { s with heap := h₁, toks := s.toks + binds.length })
    (hco : scope.isCoroutine = false) (hgen : scope.isGenerator = false) (hk : scope.kind = .function)
    (hcell : ∀ x ∈ scope.names, x.2 ≠ .cell) : wpAny (model prog w) A (call (.ref f) vs) Q E s := by
  have Np : News h₀ L s.heap pin := fun q hq => N q (hp q hq)
  obtain ⟨FG, BG, st, _⟩ := groundX (R := fun _ _ => True) B F Np hA hf hke
  refine wpAny_call (codeAny_call_def (fd := fnX name qual params body scope [] dV kV doc pm an cdv ct) (body := body) (binds := binds) hroom ((X₀.keeps F.keep) _ _ ho) rfl (T.nolimit.keeps F.keep) (codeRec_of (X₀.keeps F.keep) hcd) rfl hbind hcell hloc (fun h₁ hns hk₁ => ?_) hco hgen hk)
  refine wpAny_mono (h _ s.heap.objs.size h₁ FG ⟨hns, fun b o e => hk₁ b o (of_hideAll _ e), Nat.le_of_eq (hideAll_size _ _)⟩
    (fun q hq => ⟨hk₁ _ _ (Np q hq).1, Nat.ne_of_lt (Heap.lt_size (Np q hq).1), hideAll_none _ (List.mem_map_of_mem hq)⟩) BG (X₀.keeps st) (T.keeps st) fun q hq => Heap.lt_size (Np q hq).1) (fun fl s' e => ?_) fun _ _ x => x.elim
  exact pin_back F N (fun b o e n => hideAll_get _ e n) hp k e
theorem pin_callC (B : Below A₀ base outer h₀) (F : Fr h₀ L s.heap m) (X₀ : K.In h₀) (N : News h₀ L s.heap news) (T : Top p loose mean mg mb h₀) (hA : A.frames = some (env :: outer)) (hf : env.frame = some L) (hke : env.scope.kind = .function)
    (ho : K.lookup f = some ⟨oc, od, .func (fnOf name qual params body scope dV kV doc pm an cdv ct), osl⟩) (hcd : codeIn K cdv qual = true) (hroom : A.depth < recursionLimit)
    (hbind : BindsTo s (fnOf name qual params body scope dV kV doc pm an cdv ct) ⟨vs, []⟩ binds) (hkind : (binds.all fun y => scope.names.lookup y.1 == some .local || scope.names.lookup y.1 == some .cell) = true)
    (hnd : ((cellsFrom 0 scope.names []).map (·.1)).Nodup) (hp : ∀ p ∈ pin, p ∈ news) (k : PinRet h₀ L m news s Post Q)
    (h : ∀ g L' h₁ tk cells, Fr h₀ L g m → Fr g L' h₁ (bindL (envOfC qual scope L' f cdv).kindOf binds fun _ => none) → News g L' h₁ (cells ++ pin) →
      CellsAre (bindC (envOfC qual scope L' f cdv).kindOf binds fun _ => none) (cellsFrom (L' + 1) scope.names []) cells → Below A base (env :: outer) g → K.In g → Top p loose mean mg mb g → (∀ p ∈ pin, p.1 < L') →
      wpAny (model prog w) (A.deeper (envOfC qual scope L' f cdv)) (execs body (envOfC qual scope L' f cdv))
        (fun fl s' => PinEnd g L' s pin Post (match fl with | .ret v => v | _ => .none) s')
        (fun _ _ => False)
        { s with heap := h₁, toks := tk })
    (hco : scope.isCoroutine = false) (hgen : scope.isGenerator = false) (hk : scope.kind = .function) : wpAny (model prog w) A (call (.ref f) vs) Q E s := by
  have Np : News h₀ L s.heap pin := fun q hq => N q (hp q hq)
  obtain ⟨FG, BG, st, _⟩ := groundX (R := fun _ _ => True) B F Np hA hf hke
  refine wpAny_call (codeAny_call_function hroom ((X₀.keeps F.keep) _ _ ho) rfl hco hgen rfl (codeRec_of (X₀.keeps F.keep) hcd) (hbind _ _ _ _ ?_))
  refine wpAny_newFunctionEnv_cells hk (kindsX hkind _) fun env' he s' x => ?_
  subst he
  refine ⟨(T.nolimit.keeps F.keep).keeps x.toInCall.keep, codeAny_func ?_⟩
  obtain ⟨h₁, tk, rfl, _⟩ := x.done
  have hk₁ := x.toInCall.keep
  obtain ⟨cells, NC, Y⟩ := Cl.news (h₀ := s.heap) (Nat.le_refl _) fun n c hm => ⟨x.cell n c (lookup_of_mem_nodup (cellsFrom_names scope.names 0 (s.heap.objs.size + 1) [] [] rfl ▸ hnd) hm), x.above n c hm⟩
  refine wpAny_mono (h _ s.heap.objs.size h₁ tk cells FG ⟨x.toInCall.ns, fun b o e => hk₁ b o (of_hideAll _ e), Nat.le_of_eq (hideAll_size _ _)⟩ (fun q hq => ?_) Y BG (X₀.keeps st) (T.keeps st) fun q hq => Heap.lt_size (Np q hq).1) (fun fl s' e => ?_) fun _ _ x => x.elim
  · rcases List.mem_append.mp hq with hq | hq
    · refine ⟨(NC q hq).1, (NC q hq).2.1, ?_⟩
      cases e : (hideAll s.heap (pin.map (·.1))).get? q.1 with
      | none => rfl
      | some o => have := of_hideAll _ e; rw [(NC q hq).2.2] at this; cases this
    · exact ⟨hk₁ _ _ (Np q hq).1, Nat.ne_of_lt (Heap.lt_size (Np q hq).1), hideAll_none _ (List.mem_map_of_mem hq)⟩
  · exact pin_back F N (fun b o e n => hideAll_get _ e n) hp k e
end
end Mine
end
section
open PySem PySem.W PyProof.Rows PySem.Spec PySem.Calls
namespace Mine
noncomputable abbrev Pure (w : World) (f : Addr) (d : Nat) (vs : List Value) (pin : List (Addr × Obj)) (Post : Value → List (Addr × Obj) → Prop) : Prop :=
  ∀ (loose : List Str) (mean : ExcName → Option Value) (mg mb : Str → Option Value) (dp un : Nat) (gd : Option (List Code)) (cn : Str) (cs : Scope) (a : Addr) (ccd : Value) (cl : List (Str × Addr)) (outer : List Env) (A₀ : Around) (base h₀ : Heap) (L : Addr) (m : Str → Option Value) (news : List (Addr × Obj)) (s : Shared) (Q E : Value → Shared → Prop),
    Below A₀ base outer h₀ → Fr h₀ L s.heap m → (hd.heap_1 w.params).In h₀ → News h₀ L s.heap news → Top vw loose mean mg mb h₀ → cs.kind = .function →
    (∀ p ∈ pin, p ∈ news) → dp + d < recursionLimit → un + 8 * d < cLine → PinRet h₀ L m news s Post Q →
    wpAny (model PySem.Challenge.pw_xg0033_01 w) (ktrTop dp un gd cn cs L a ccd cl outer) (call (.ref f) vs) Q E s
theorem pin_end {g : Heap} {L' : Addr} {s : Shared} {pin news' : List (Addr × Obj)} {Post : Value → List (Addr × Obj) → Prop} {v : Value} {h' : Heap} {tk' : Nat} {m' : Str → Option Value} (tl : List (Addr × Obj))
    (hP : Post v tl) (F' : Fr g L' h' m') (N' : News g L' h' news') (hs : ∀ p ∈ tl, p ∈ news') (hs' : ∀ p ∈ pin, p ∈ news') (hne : ∀ q ∈ pin, ∀ p ∈ tl, p.1 ≠ q.1) : PinEnd g L' s pin Post v { s with heap := h', toks := tk' } :=
  ⟨tl, m', h', tk', rfl, F', fun p hp => N' p ((List.mem_append.mp hp).elim (hs p) (hs' p)), hne, hP⟩
end Mine
namespace Mine
theorem Pure.use {w : World} {f : Addr} {d : Nat} {vs : List Value} {pin : List (Addr × Obj)} {Post : Value → List (Addr × Obj) → Prop} {loose : List Str} {mean : ExcName → Option Value} {mg mb : Str → Option Value} {dp un : Nat} {gd : Option (List Code)} {cn : Str} {cs : Scope} {a : Addr} {ccd : Value} {cl : List (Str × Addr)} {outer : List Env} {A₀ : Around} {base h₀ : Heap} {L : Addr} {m : Str → Option Value} {news : List (Addr × Obj)} {s : Shared} {Q E : Value → Shared → Prop}
    (P : Pure w f d vs pin Post) (B : Below A₀ base outer h₀) (F : Fr h₀ L s.heap m) (X : (hd.heap_1 w.params).In h₀) (N : News h₀ L s.heap news) (T : Top vw loose mean mg mb h₀) (hk : cs.kind = .function)
    (hp : ∀ p ∈ pin, p ∈ news) (hd' : dp + d < recursionLimit) (hu : un + 8 * d < cLine) (ret : PinRet h₀ L m news s Post Q) :
    wpAny (model PySem.Challenge.pw_xg0033_01 w) (ktrTop dp un gd cn cs L a ccd cl outer) (call (.ref f) vs) Q E s :=
  P _ _ _ _ _ _ _ _ _ _ _ _ _ _ _ _ _ _ _ _ _ _ B F X N T hk hp hd' hu ret
noncomputable abbrev tupO (l : List Value) : Obj := { cls := .type "tuple", data := .seq l.toArray }
noncomputable def mx3 (x y z : Int) : Int := if x ≤ y then (if y ≤ z then z else y) else (if x ≤ z then z else x)
noncomputable def mn3 (x y z : Int) : Int := if x ≤ y then (if x ≤ z then x else z) else (if y ≤ z then y else z)
theorem is_hi {x y z r m : Int} (h : r = x ∨ r = y ∨ r = z) (a : x ≤ m) (b : y ≤ m) (c : z ≤ m) (k : m ≤ r) : r = m := Int.le_antisymm (h.elim (fun e => e ▸ a) fun h => h.elim (fun e => e ▸ b) fun e => e ▸ c) k
theorem is_lo {x y z r m : Int} (h : r = x ∨ r = y ∨ r = z) (a : m ≤ x) (b : m ≤ y) (c : m ≤ z) (k : r ≤ m) : r = m := Int.le_antisymm k (h.elim (fun e => e ▸ a) fun h => h.elim (fun e => e ▸ b) fun e => e ▸ c)
theorem le_not {x y : Int} (h : ¬ x ≤ y) : y ≤ x := Int.le_of_lt (Int.not_le.mp h)
theorem mx3_is {x y z r : Int} (h1 : x ≤ r) (h2 : y ≤ r) (h3 : z ≤ r) (h : r = x ∨ r = y ∨ r = z) : r = mx3 x y z := by
  unfold mx3
  split
  · rename_i p
    split
    · rename_i q; exact is_hi h (Int.le_trans p q) q (Int.le_refl _) h3
    · rename_i q; exact is_hi h p (Int.le_refl _) (le_not q) h2
  · rename_i p
    split
    · rename_i q; exact is_hi h q (Int.le_trans (le_not p) q) (Int.le_refl _) h3
    · rename_i q; exact is_hi h (Int.le_refl _) (le_not p) (le_not q) h1
theorem mn3_is {x y z r : Int} (h1 : r ≤ x) (h2 : r ≤ y) (h3 : r ≤ z) (h : r = x ∨ r = y ∨ r = z) : r = mn3 x y z := by
  unfold mn3
  split
  · rename_i p
    split
    · rename_i q; exact is_lo h (Int.le_refl _) p q h1
    · rename_i q; exact is_lo h (le_not q) (Int.le_trans (le_not q) p) (Int.le_refl _) h3
  · rename_i p
    split
    · rename_i q; exact is_lo h (le_not p) (Int.le_refl _) q h2
    · rename_i q; exact is_lo h (Int.le_trans (le_not q) (le_not p)) (le_not q) (Int.le_refl _) h3
end Mine
end
section
open PySem PySem.W PyProof.Rows PySem.Spec PySem.Calls
namespace Mine
noncomputable def nF {α : Type} (n : Nat) (k : Nat → α) : α := Nat.rec (motive := fun _ => α) (k (nat_lit 0)) (fun m _ => k (Nat.succ m)) n
theorem nF_eq {α : Type} (n : Nat) (k : Nat → α) : nF n k = k n := by cases n <;> rfl
noncomputable def bF {α : Type} (b : Bool) (t e : α) : α := Bool.rec (motive := fun _ => α) e t b
theorem bF_eq {α : Type} (b : Bool) (t e : α) : bF b t e = if b then t else e := by cases b <;> rfl
theorem div_r (a b : Nat) : Nat.div a b = a / b := rfl
theorem mod_r (a b : Nat) : Nat.mod a b = a % b := rfl
noncomputable def lgS (j n a : Nat) (k : Nat → Nat) : Nat := nF (Nat.add a j) fun c => nF (bF (Nat.ble (Nat.pow (nat_lit 2) c) n) c a) k
noncomputable def lgLo (n a : Nat) : Nat := lgS (nat_lit 32) n a fun a => lgS (nat_lit 16) n a fun a => lgS (nat_lit 8) n a fun a => lgS (nat_lit 4) n a fun a => lgS (nat_lit 2) n a fun a => lgS (nat_lit 1) n a fun a => a
noncomputable def lgHi (n : Nat) : Nat := lgS (nat_lit 1024) n (nat_lit 0) fun a => lgS (nat_lit 512) n a fun a => lgS (nat_lit 256) n a fun a => lgS (nat_lit 128) n a fun a => lgS (nat_lit 64) n a fun a => lgLo n a
noncomputable def lgN (n : Nat) : Nat := nF (bF (Nat.ble n (nat_lit 1)) (nat_lit 0) (bF (Nat.ble (nat_lit 9007199254740992) n) (bF (Nat.ble n (nat_lit 18446744073709551615)) (lgLo n (nat_lit 0)) (lgHi n)) (bF (Nat.ble (nat_lit 4503599627370496) n) (nat_lit 52) (lgLo n (nat_lit 0))))) fun g => bF (Nat.ble (Nat.pow (nat_lit 2) g) n) (bF (Nat.ble (Nat.pow (nat_lit 2) (Nat.succ g)) n) (Nat.log2 n) g) (Nat.log2 n)
theorem lg_N (n : Nat) : lgN n = Nat.log2 n := by
  unfold lgN
  rw [nF_eq]
  generalize bF (Nat.ble n (nat_lit 1)) _ _ = g
  rw [bF_eq, bF_eq, show Nat.pow 2 g = 2 ^ g from rfl, show Nat.pow 2 g.succ = 2 ^ (g + 1) from rfl]
  by_cases h1 : 2 ^ g ≤ n
  · rw [if_pos (Nat.ble_eq.mpr h1)]
    by_cases h2 : 2 ^ (g + 1) ≤ n
    · rw [if_pos (Nat.ble_eq.mpr h2)]
    · rw [if_neg (fun e => h2 (Nat.ble_eq.mp e))]
      have h0 : n ≠ 0 := fun e => by rw [e] at h1; exact absurd (Nat.lt_of_lt_of_le (Nat.two_pow_pos g) h1) (Nat.lt_irrefl 0)
      exact ((Nat.log2_eq_iff h0).mpr ⟨h1, Nat.not_le.mp h2⟩).symm
  · rw [if_neg (fun e => h1 (Nat.ble_eq.mp e))]
noncomputable def roundN (n d : Nat) : Nat := bF (Nat.beq n (nat_lit 0)) (nat_lit 0) (nF (lgN n) fun ln => nF (lgN d) fun ld =>
  nF (bF (Nat.ble (Nat.mul d (Nat.pow (nat_lit 2) (Nat.sub ln ld))) (Nat.mul n (Nat.pow (nat_lit 2) (Nat.sub ld ln)))) (Nat.sub (Nat.add ln (nat_lit 1074)) (Nat.add ld (nat_lit 52))) (Nat.sub (Nat.add ln (nat_lit 1074)) (Nat.add ld (nat_lit 53)))) fun e =>
  nF (Nat.mul n (Nat.pow (nat_lit 2) (Nat.sub (nat_lit 1074) e))) fun a => nF (Nat.mul d (Nat.pow (nat_lit 2) (Nat.sub e (nat_lit 1074)))) fun b =>
  nF (Nat.div a b) fun q => nF (Nat.mul (nat_lit 2) (Nat.mod a b)) fun r =>
  nF (Nat.add (Nat.mul e (nat_lit 4503599627370496)) (bF (Nat.ble r b) (bF (Nat.beq r b) (bF (Nat.beq (Nat.mod q (nat_lit 2)) (nat_lit 1)) (Nat.succ q) q) q) (Nat.succ q))) fun m =>
  bF (Nat.ble (nat_lit 9218868437227405312) m) (nat_lit 9218868437227405312) m)
theorem half_N (a b : Nat) : Float64.halfEven a b = bF (Nat.ble (2 * (a % b)) b) (bF (Nat.beq (2 * (a % b)) b) (bF (Nat.beq (a / b % 2) 1) (a / b + 1) (a / b)) (a / b)) (a / b + 1) := by
  unfold Float64.halfEven
  simp only [bF_eq, Nat.ble_eq, Nat.beq_eq, Bool.or_eq_true, Bool.and_eq_true, beq_iff_eq, decide_eq_true_eq, gt_iff_lt]
  by_cases h1 : b < 2 * (a % b)
  · rw [if_pos (Or.inl h1), if_neg (Nat.not_le.mpr h1)]
  · rw [if_pos (Nat.not_lt.mp h1)]
    by_cases h2 : 2 * (a % b) = b
    · rw [if_pos h2]
      by_cases h3 : a / b % 2 = 1
      · rw [if_pos (Or.inr ⟨h2, h3⟩), if_pos h3]
      · rw [if_neg (fun h => h.elim h1 (fun h => h3 h.2)), if_neg h3]
    · rw [if_neg (fun h => h.elim h1 (fun h => h2 h.1)), if_neg h2]
theorem shift_N (n d E F : Nat) : Float64.shift n d ((E : Int) - (F : Int)) = (n * 2 ^ (E - F), d * 2 ^ (F - E)) := by
  unfold Float64.shift
  rw [Int.neg_sub, Int.toNat_sub, Int.toNat_sub]
  by_cases h : F ≤ E
  · rw [if_pos (Int.sub_nonneg.mpr (Int.ofNat_le.mpr h)), Nat.sub_eq_zero_of_le h, Nat.pow_zero, Nat.mul_one]
  · rw [if_neg (fun e => h (Int.ofNat_le.mp (Int.sub_nonneg.mp e))), Nat.sub_eq_zero_of_le (Nat.le_of_not_le h), Nat.pow_zero, Nat.mul_one]
theorem sub_1075 (a b : Int) : a - 1075 - (b - 1075) = a - b := by omega
theorem max_N (l d c : Nat) : max ((l : Int) - (d : Int) - ((c : Nat) : Int)) (-1074) = ((l + 1074 - (d + c) : Nat) : Int) - 1074 := by
  rw [Int.sub_sub, ← Int.natCast_add]
  by_cases h : d + c ≤ l + 1074
  · rw [Int.ofNat_sub h, Int.natCast_add l, Int.max_eq_left (by have := Int.ofNat_le.mpr h; rw [Int.natCast_add l] at this; omega)]; omega
  · rw [Nat.sub_eq_zero_of_le (Nat.le_of_not_le h), Int.max_eq_right (by have := Int.ofNat_le.mpr (Nat.le_of_not_le h); rw [Int.natCast_add l] at this; omega)]; rfl
theorem min_N (m : Nat) : min Float64.infMag m = bF (Nat.ble 9218868437227405312 m) 9218868437227405312 m := by
  rw [bF_eq, show Float64.infMag = 9218868437227405312 by decide]
  by_cases h : 9218868437227405312 ≤ m
  · rw [if_pos (Nat.ble_eq.mpr h), Nat.min_eq_left h]
  · rw [if_neg (fun e => h (Nat.ble_eq.mp e)), Nat.min_eq_right (Nat.le_of_not_le h)]
theorem exp_N (c : Prop) [Decidable c] (l d : Nat) : max (if c then (l : Int) - (d : Int) - 52 else (l : Int) - (d : Int) - 53) (-1074) = ((if c then l + 1074 - (d + 52) else l + 1074 - (d + 53) : Nat) : Int) - 1074 := by
  split
  · exact max_N l d 52
  · exact max_N l d 53
theorem round_N (n d : Nat) : Float64.roundMag n d = roundN n d := by
  unfold Float64.roundMag roundN
  simp only [nF_eq, bF_eq, lg_N]
  by_cases h0 : n = 0
  · rw [if_pos (beq_iff_eq.mpr h0), if_pos (Nat.beq_eq.mpr h0)]
  rw [if_neg (fun e => h0 (beq_iff_eq.mp e)), if_neg (fun e => h0 (Nat.eq_of_beq_eq_true e)), Int.neg_sub, shift_N]
  dsimp only
  rw [exp_N, show ∀ a b : Nat, Nat.ble (Nat.mul d a) (Nat.mul n b) = decide (n * b ≥ d * a) from fun a b => Bool.eq_iff_iff.mpr ((Iff.of_eq Nat.ble_eq).trans decide_eq_true_iff.symm)]
  simp only [decide_eq_true_eq, Nat.pow_eq, Nat.sub_eq, Nat.add_eq]
  generalize (if n * 2 ^ (d.log2 - n.log2) ≥ d * 2 ^ (n.log2 - d.log2) then n.log2 + 1074 - (d.log2 + 52) else n.log2 + 1074 - (d.log2 + 53)) = e
  rw [Int.neg_sub, show ((1074 : Int) - (e : Int)) = ((1074 : Nat) : Int) - (e : Int) from rfl, shift_N, Int.sub_add_cancel]
  dsimp only
  rw [half_N, min_N, show ((e : Int)).toNat = e from rfl]
  simp only [bF_eq, Nat.reducePow, Nat.mul_eq, Nat.add_eq, Nat.sub_eq, Nat.pow_eq, Nat.succ_eq_add_one, div_r, mod_r]
noncomputable abbrev UN (n : Nat) : UInt64 := UInt64.ofNat n
noncomputable def packN (neg : Bool) (m : Nat) : Nat := bF neg (Nat.add (nat_lit 9223372036854775808) m) m
theorem pack_N (neg : Bool) (m : Nat) : Float64.pack neg m = UN (packN neg m) := by
  cases neg
  · show UInt64.ofNat (0 + m) = UInt64.ofNat m
    rw [Nat.zero_add]
  · rfl
noncomputable def fracN (neg : Bool) (n d : Nat) : Nat := nF (roundN n d) fun r => packN neg r
theorem frac_N (neg : Bool) (n d : Nat) : Float64.ofFrac neg n d = UN (fracN neg n d) := by rw [fracN, nF_eq, ← pack_N, ← round_N]; with_unfolding_all rfl
noncomputable def binN (neg : Bool) (m G : Nat) : Nat := nF (Nat.mul m (Nat.pow (nat_lit 2) (Nat.sub G (nat_lit 1075)))) fun n => nF (Nat.pow (nat_lit 2) (Nat.sub (nat_lit 1075) G)) fun d => fracN neg n d
theorem bin_N (neg : Bool) (m G : Nat) : Float64.ofBin neg m ((G : Int) - 1075) = UN (binN neg m G) := by
  unfold Float64.ofBin
  rw [show (G : Int) - 1075 = (G : Int) - ((1075 : Nat) : Int) from rfl, shift_N]
  dsimp only
  rw [frac_N, Nat.one_mul]
  simp only [binN, nF_eq]; rfl
noncomputable def decN {α : Type} (x : Nat) (k : Bool → Nat → Nat → α) (z : α) : α := nF (Nat.mod x (nat_lit 18446744073709551616)) fun b => nF (Nat.mod (Nat.div b (nat_lit 4503599627370496)) (nat_lit 2048)) fun ex => nF (Nat.mod b (nat_lit 4503599627370496)) fun fr =>
  bF (Nat.beq ex (nat_lit 2047)) z (nF (bF (Nat.beq ex (nat_lit 0)) fr (Nat.add (nat_lit 4503599627370496) fr)) fun m => nF (bF (Nat.beq ex (nat_lit 0)) (nat_lit 1) ex) fun E =>
    bF (Nat.beq (Nat.div b (nat_lit 9223372036854775808)) (nat_lit 1)) (k true m E) (k false m E))
theorem beq_N (a b : Nat) : Nat.beq a b = (a == b) := by rw [Bool.eq_iff_iff, Nat.beq_eq, beq_iff_eq]
theorem dec_N {α : Type} (x : Nat) : (∃ neg m E, Float64.decode (UN x) = .fin neg m (((E : Nat) : Int) - 1075) ∧ ∀ (k : Bool → Nat → Nat → α) z, decN x k z = k neg m E) ∨ ∀ (k : Bool → Nat → Nat → α) z, decN x k z = z := by
  have hb : (UN x).toNat = x % 18446744073709551616 := by rw [UInt64.toNat_ofNat']
  generalize hx : x % 18446744073709551616 = b at hb
  have e : ∀ (k : Bool → Nat → Nat → α) z, decN x k z = if (b / 4503599627370496 % 2048 == 2047) = true then z else k (b / 9223372036854775808 == 1) (bF (b / 4503599627370496 % 2048 == 0) (b % 4503599627370496) (4503599627370496 + b % 4503599627370496)) (bF (b / 4503599627370496 % 2048 == 0) 1 (b / 4503599627370496 % 2048)) := by
    intro k z
    simp only [decN, nF_eq, mod_r, div_r, hx, beq_N, Nat.add_eq]
    rw [bF_eq]
    cases b / 9223372036854775808 == 1 <;> rfl
  by_cases h1 : (b / 4503599627370496 % 2048 == 2047) = true
  · exact Or.inr fun k z => (e k z).trans (if_pos h1)
  · refine Or.inl ⟨_, _, _, ?_, fun k z => (e k z).trans (if_neg h1)⟩
    unfold Float64.decode
    rw [hb]
    simp only [Nat.reducePow]
    rw [if_neg h1]
    cases b / 4503599627370496 % 2048 == 0 <;> rfl
noncomputable def addS (a b : Bool) (p q G : Nat) : Nat := nF (Nat.add p q) fun s => bF (Nat.beq s (nat_lit 0)) (packN (a && b) (nat_lit 0)) (binN a s G)
noncomputable def addD (p q G : Nat) : Nat := bF (Nat.ble q p) (nF (Nat.sub p q) fun s => bF (Nat.beq s (nat_lit 0)) (nat_lit 0) (binN false s G)) (nF (Nat.sub q p) fun s => binN true s G)
noncomputable def algN {α : Type} (m E k F : Nat) (f : Nat → Nat → Nat → α) : α := nF (bF (Nat.ble E F) E F) fun G => nF (Nat.mul m (Nat.pow (nat_lit 2) (Nat.sub E G))) fun p => nF (Nat.mul k (Nat.pow (nat_lit 2) (Nat.sub F G))) fun q => f p q G
theorem alg_N (a b : Bool) (m E k F : Nat) : ∃ p q G, (∀ {α : Type} (f : Nat → Nat → Nat → α), algN m E k F f = f p q G) ∧ Float64.align a m ((E : Int) - 1075) b k ((F : Int) - 1075) = (Float64.sgn a p, Float64.sgn b q, ((G : Nat) : Int) - 1075) := by
  refine ⟨_, _, bF (Nat.ble E F) E F, fun f => (nF_eq _ _).trans ((nF_eq _ _).trans (nF_eq _ _)), ?_⟩
  unfold Float64.align
  have e : min ((E : Int) - 1075) ((F : Int) - 1075) = ((bF (Nat.ble E F) E F : Nat) : Int) - 1075 := by
    rw [bF_eq]
    by_cases h : E ≤ F
    · rw [if_pos (Nat.ble_eq.mpr h), Int.min_eq_left (Int.sub_le_sub_right (Int.ofNat_le.mpr h) _)]
    · rw [if_neg (fun e => h (Nat.ble_eq.mp e)), Int.min_eq_right (Int.sub_le_sub_right (Int.ofNat_le.mpr (Nat.le_of_not_le h)) _)]
  rw [e]
  dsimp only
  rw [sub_1075, sub_1075, Int.toNat_sub, Int.toNat_sub]; rfl
noncomputable def addN (x y : Nat) : Nat := decN x (fun a m E => decN y (fun b k F => algN m E k F fun p q G => bF a (bF b (addS a b p q G) (addD q p G)) (bF b (addD p q G) (addS a b p q G))) (Float64.add (UN x) (UN y)).toNat) (Float64.add (UN x) (UN y)).toNat
theorem UN_toNat (x : UInt64) : UN x.toNat = x := UInt64.ofNat_toNat
theorem sgn_N (c : Bool) (s G : Nat) (z : UInt64) : (if (Float64.sgn c s == 0) = true then z else Float64.ofBin (decide (Float64.sgn c s < 0)) (Float64.sgn c s).natAbs ((G : Int) - 1075)) = if (Nat.beq s 0) = true then z else UN (binN c s G) := by
  rw [← bin_N]
  cases s with
  | zero => cases c <;> rfl
  | succ s =>
    cases c
    · rfl
    · show (if (Int.negSucc s == 0) = true then z else Float64.ofBin (decide (Int.negSucc s < 0)) (Int.negSucc s).natAbs ((G : Int) - 1075)) = _
      rw [decide_eq_true (Int.negSucc_lt_zero s)]; rfl
theorem add_D (p q G : Nat) : (if ((p : Int) + -(q : Int) == 0) = true then Float64.zero false else Float64.ofBin (decide ((p : Int) + -(q : Int) < 0)) ((p : Int) + -(q : Int)).natAbs ((G : Int) - 1075)) = UN (addD p q G) := by
  simp only [addD, nF_eq, bF_eq, Nat.ble_eq, Nat.sub_eq]
  by_cases h : q ≤ p
  · rw [if_pos h, show (p : Int) + -(q : Int) = Float64.sgn false (p - q) from (Int.ofNat_sub h).symm, sgn_N]
    split <;> rfl
  · have h' := Nat.le_of_not_le h
    rw [if_neg h, show (p : Int) + -(q : Int) = Float64.sgn true (q - p) from by rw [Float64.sgn, if_pos rfl, Int.ofNat_sub h', Int.neg_sub]; rfl, sgn_N, if_neg (fun e => Nat.ne_of_gt (Nat.sub_pos_of_lt (Nat.not_le.mp h)) (Nat.eq_of_beq_eq_true e))]
theorem add_S (a : Bool) (p q G : Nat) : (if (Float64.sgn a p + Float64.sgn a q == 0) = true then Float64.zero (a && a) else Float64.ofBin (decide (Float64.sgn a p + Float64.sgn a q < 0)) (Float64.sgn a p + Float64.sgn a q).natAbs ((G : Int) - 1075)) = UN (addS a a p q G) := by
  have e : Float64.sgn a p + Float64.sgn a q = Float64.sgn a (p + q) := by
    cases a
    · rfl
    · exact Int.neg_add.symm
  rw [e, sgn_N]
  simp only [addS, nF_eq, bF_eq, Nat.add_eq]
  split
  · with_unfolding_all exact pack_N _ 0
  · rfl
theorem add_N (x y : Nat) : Float64.add (UN x) (UN y) = UN (addN x y) := by
  unfold addN
  rcases dec_N (α := Nat) x with ⟨a, m, E, h1, g1⟩ | g1
  · rw [g1]
    rcases dec_N (α := Nat) y with ⟨b, k, F, h2, g2⟩ | g2
    · rw [g2]
      obtain ⟨p, q, G, e1, e2⟩ := alg_N a b m E k F
      rw [e1]
      unfold Float64.add
      rw [h1, h2]
      dsimp only
      rw [e2]
      dsimp only
      cases a <;> cases b
      · exact add_S false p q G
      · exact add_D p q G
      · have h := add_D q p G
        rw [Int.add_comm (q : Int) (-(p : Int))] at h
        exact h
      · exact add_S true p q G
    · rw [g2, UN_toNat]
  · rw [g1, UN_toNat]
noncomputable def divN (x y : Nat) : Nat := decN x (fun a m E => decN y (fun b k F => bF (Nat.beq k (nat_lit 0)) (Float64.div (UN x) (UN y)).toNat (nF (Nat.mul m (Nat.pow (nat_lit 2) (Nat.sub E F))) fun n => nF (Nat.mul k (Nat.pow (nat_lit 2) (Nat.sub F E))) fun d => fracN (a != b) n d)) (Float64.div (UN x) (UN y)).toNat) (Float64.div (UN x) (UN y)).toNat
theorem div_N (x y : Nat) : Float64.div (UN x) (UN y) = UN (divN x y) := by
  unfold divN
  rcases dec_N (α := Nat) x with ⟨a, m, E, h1, g1⟩ | g1
  · rw [g1]
    rcases dec_N (α := Nat) y with ⟨b, k, F, h2, g2⟩ | g2
    · rw [g2, bF_eq]
      by_cases h0 : k = 0
      · rw [if_pos (Nat.beq_eq.mpr h0), UN_toNat]
      · rw [if_neg (fun e => h0 (Nat.eq_of_beq_eq_true e))]
        unfold Float64.div
        rw [h1, h2]
        dsimp only
        rw [if_neg (fun e => h0 (beq_iff_eq.mp e)), sub_1075, shift_N]
        dsimp only
        rw [frac_N, nF_eq, nF_eq]; rfl
    · rw [g2, UN_toNat]
  · rw [g1, UN_toNat]
noncomputable def fmodN (x y : Nat) : Nat := decN x (fun a m E => decN y (fun _ k F => bF (Nat.beq k (nat_lit 0)) (Float64.fmod (UN x) (UN y)).toNat (algN m E k F fun p q G => nF (Nat.mod p q) fun r => binN a r G)) (Float64.fmod (UN x) (UN y)).toNat) (Float64.fmod (UN x) (UN y)).toNat
theorem fmod_N (x y : Nat) : Float64.fmod (UN x) (UN y) = UN (fmodN x y) := by
  unfold fmodN
  rcases dec_N (α := Nat) x with ⟨a, m, E, h1, g1⟩ | g1
  · rw [g1]
    rcases dec_N (α := Nat) y with ⟨b, k, F, h2, g2⟩ | g2
    · rw [g2, bF_eq]
      by_cases h0 : k = 0
      · rw [if_pos (Nat.beq_eq.mpr h0), UN_toNat]
      · rw [if_neg (fun e => h0 (Nat.eq_of_beq_eq_true e))]
        obtain ⟨p, q, G, e1, e2⟩ := alg_N false false m E k F
        rw [e1]
        unfold Float64.fmod
        rw [h1, h2]
        dsimp only
        rw [if_neg (fun e => h0 (beq_iff_eq.mp e)), e2]
        dsimp only
        rw [bin_N, nF_eq]; rfl
    · rw [g2, UN_toNat]
  · rw [g1, UN_toNat]
noncomputable def ltN (x y : Nat) : Bool := decN x (fun a m E => decN y (fun b k F => algN m E k F fun p q _ => bF a (bF b (Nat.blt q p) (bF (Nat.beq p (nat_lit 0)) (Nat.blt (nat_lit 0) q) true)) (bF b false (Nat.blt p q))) (Float64.lt (UN x) (UN y))) (Float64.lt (UN x) (UN y))
theorem lt_N (x y : Nat) : Float64.lt (UN x) (UN y) = ltN x y := by
  unfold ltN
  rcases dec_N (α := Bool) x with ⟨a, m, E, h1, g1⟩ | g1
  · rw [g1]
    rcases dec_N (α := Bool) y with ⟨b, k, F, h2, g2⟩ | g2
    · rw [g2]
      obtain ⟨p, q, G, e1, e2⟩ := alg_N a b m E k F
      rw [e1]
      unfold Float64.lt Float64.cmp
      rw [h1, h2]
      dsimp only
      rw [e2]
      dsimp only
      rw [Bool.eq_iff_iff, beq_iff_eq, Option.some.injEq, Int.compare_eq_lt]
      cases a <;> cases b
      · exact Int.ofNat_lt.trans (Iff.of_eq Nat.blt_eq.symm)
      · exact iff_of_false (Int.not_lt.mpr (Int.le_trans (Int.neg_nonpos_of_nonneg (Int.natCast_nonneg q)) (Int.natCast_nonneg p))) Bool.false_ne_true
      · cases p with
        | zero => exact (Int.ofNat_lt (n := 0)).trans (Iff.of_eq Nat.blt_eq.symm)
        | succ p => exact iff_of_true (Int.lt_of_lt_of_le (Int.negSucc_lt_zero p) (Int.natCast_nonneg q)) rfl
      · exact Int.neg_lt_neg_iff.trans (Int.ofNat_lt.trans (Iff.of_eq Nat.blt_eq.symm))
    · rw [g2]
  · rw [g1]
noncomputable def zeroN (x : Nat) : Bool := decN x (fun _ m _ => Nat.beq m (nat_lit 0)) (Float64.isZero (UN x))
theorem zero_N (x : Nat) : Float64.isZero (UN x) = zeroN x := by
  unfold zeroN
  rcases dec_N (α := Bool) x with ⟨a, m, E, h1, g1⟩ | g1
  · rw [g1]
    unfold Float64.isZero
    rw [h1]
    cases m <;> rfl
  · rw [g1]
noncomputable def geN (x y : Nat) : Bool := decN x (fun _ _ _ => decN y (fun _ _ _ => bF (ltN x y) false true) (Float64.cmp (UN x) (UN y) == some .gt || Float64.cmp (UN x) (UN y) == some .eq)) (Float64.cmp (UN x) (UN y) == some .gt || Float64.cmp (UN x) (UN y) == some .eq)
theorem ge_N (x y : Nat) : (Float64.cmp (UN x) (UN y) == some .gt || Float64.cmp (UN x) (UN y) == some .eq) = geN x y := by
  unfold geN
  rcases dec_N (α := Bool) x with ⟨a, m, E, h1, g1⟩ | g1
  · rw [g1]
    rcases dec_N (α := Bool) y with ⟨b, k, F, h2, g2⟩ | g2
    · rw [g2, ← lt_N, bF_eq]
      have e : ∃ o, Float64.cmp (UN x) (UN y) = some o := by
        unfold Float64.cmp
        rw [h1, h2]
        exact ⟨_, rfl⟩
      obtain ⟨o, e⟩ := e
      unfold Float64.lt
      rw [e]
      cases o <;> rfl
    · rw [g2]
  · rw [g1]
noncomputable def allN (n : Nat) (p : Nat → Bool) : Bool := Nat.rec (motive := fun _ => Bool) true (fun m ih => bF (p m) ih false) n
theorem allN_lt {p : Nat → Bool} : ∀ {n : Nat}, allN n p = true → ∀ {k : Nat}, k < n → p k = true
  | 0, _, _, hk => absurd hk (Nat.not_lt_zero _)
  | n + 1, h, k, hk => by
    have h' : bF (p n) (allN n p) false = true := h
    rw [bF_eq] at h'
    by_cases hp : p n = true
    · rw [if_pos hp] at h'
      rcases Nat.lt_succ_iff_lt_or_eq.mp hk with h1 | rfl
      · exact allN_lt h' h1
      · exact hp
    · rw [if_neg hp] at h'; cases h'
end Mine
end
section
open PySem PySem.W PyProof.Rows PySem.Spec PySem.Calls
namespace Mine
noncomputable def tabF : List UInt64 := [0, 4580160821035794432, 4584664420663164928, 4586916220476850176, 4589168020290535424, 4590293920197378048,
  4591419820104220672, 4592545720011063296, 4593671619917905920, 4594234569871327232, 4594797519824748544, 4595360469778169856,
  4595923419731591168, 4596486369685012480, 4597049319638433792, 4597612269591855104, 4598175219545276416, 4598456694521987072,
  4598738169498697728, 4599019644475408384, 4599301119452119040, 4599582594428829696, 4599864069405540352, 4600145544382251008,
  4600427019358961664, 4600708494335672320, 4600989969312382976, 4601271444289093632, 4601552919265804288, 4601834394242514944,
  4602115869219225600, 4602397344195936256, 4602678819172646912, 4602819556661002240, 4602960294149357568, 4603101031637712896,
  4603241769126068224, 4603382506614423552, 4603523244102778880, 4603663981591134208, 4603804719079489536, 4603945456567844864,
  4604086194056200192, 4604226931544555520, 4604367669032910848, 4604508406521266176, 4604649144009621504, 4604789881497976832,
  4604930618986332160, 4605071356474687488, 4605212093963042816, 4605352831451398144, 4605493568939753472, 4605634306428108800,
  4605775043916464128, 4605915781404819456, 4606056518893174784, 4606197256381530112, 4606337993869885440, 4606478731358240768,
  4606619468846596096, 4606760206334951424, 4606900943823306752, 4607041681311662080, 4607182418800017408, 4607252787544195072,
  4607323156288372736, 4607393525032550400, 4607463893776728064, 4607534262520905728, 4607604631265083392, 4607675000009261056]
noncomputable def F64 (n : Nat) : UInt64 := tabF.getD n 0
noncomputable def D64 (k n : Nat) : UInt64 := Float64.div (F64 k) (F64 n)
noncomputable def hueOf (h : UInt64) : UInt64 := (Float64.divmod (Float64.div h 4618441417868443648) 4607182418800017408).2
noncomputable def ltB (x y : UInt64) : Bool := Float64.cmp x y == some .lt
noncomputable def geB (x y : UInt64) : Bool := Float64.cmp x y == some .gt || Float64.cmp x y == some .eq
noncomputable def tagF (h : UInt64) : Nat := if ltB h 4595172819793696085 || geB h (Float64.add 4604180019048437077 4595172819793696085) then 0 else if ltB h 4602678819172646912 then 1 else 2
theorem all_lt {n : Nat} {p : Nat → Bool} (h : (List.range n).all p = true) {k : Nat} (hk : k < n) : p k = true := List.all_eq_true.mp h k (List.mem_range.mpr hk)
theorem all_lt2 {n m : Nat} {p : Nat → Nat → Bool} (h : ((List.range n).all fun a => (List.range m).all fun b => p a b) = true) {a b : Nat} (ha : a < n) (hb : b < m) : p a b = true := all_lt (p := p a) (all_lt h ha) hb
theorem tab_cmp : ((List.range 36).all fun a => (List.range 36).all fun b => Float64.cmp (F64 a) (F64 b) == some (compare a b)) = true := by decide +kernel
noncomputable def fN (k : Nat) : Nat := (F64 k).toNat
theorem U_f (k : Nat) : UN (fN k) = F64 k := UN_toNat _
noncomputable def gN (x : UInt64) : Nat := (Float64.neg x).toNat
theorem sub_N (x : Nat) (y : UInt64) : Float64.sub (UN x) y = UN (addN x (gN y)) := by rw [← add_N, gN, UN_toNat]; with_unfolding_all rfl
theorem tabN_sub : allN 36 (fun a => nF (fN a) fun x => allN (Nat.succ a) fun b => Nat.beq (addN x (gN (F64 b))) (fN (Nat.sub a b))) = true := by decide +kernel
theorem tabN_add : allN 36 (fun a => nF (fN a) fun x => allN 36 fun b => Nat.beq (addN x (fN b)) (fN (Nat.add a b))) = true := by decide +kernel
theorem sub_F {a b : Nat} (ha : a < 36) (hb : b ≤ a) : Float64.sub (F64 a) (F64 b) = F64 (a - b) := by
  have h : nF (fN a) (fun x => allN (Nat.succ a) fun b => Nat.beq (addN x (gN (F64 b))) (fN (Nat.sub a b))) = true := allN_lt tabN_sub ha
  rw [nF_eq] at h
  have h2 := Nat.eq_of_beq_eq_true (allN_lt h (Nat.lt_succ_of_le hb))
  rw [← U_f a, sub_N, h2, U_f]; rfl
theorem add_F {a b : Nat} (ha : a < 36) (hb : b < 36) : Float64.add (F64 a) (F64 b) = F64 (a + b) := by
  have h : nF (fN a) (fun x => allN 36 fun b => Nat.beq (addN x (fN b)) (fN (Nat.add a b))) = true := allN_lt tabN_add ha
  rw [nF_eq] at h
  have h2 := Nat.eq_of_beq_eq_true (allN_lt h hb)
  rw [← U_f a, ← U_f b, add_N, h2, U_f]; rfl
theorem tab_ofInt : ((List.range 36).all fun a => Float64.div (Float64.ofInt a) 4634204016564240384 == F64 a) = true := by decide +kernel
end Mine
end
section
open PySem PySem.W PyProof.Rows PySem.Spec PySem.Calls
namespace Mine
noncomputable def forced {α : Type} (x : UInt64) (k : UInt64 → α) : α := Nat.rec (motive := fun _ => α) (k (UInt64.ofNat 0)) (fun n _ => k (UInt64.ofNat (n + 1))) x.toNat
theorem forced_eq {α : Type} (x : UInt64) (k : UInt64 → α) : forced x k = k x := by
  have h : k x = k (UInt64.ofNat x.toNat) := by rw [UInt64.ofNat_toNat]
  rw [h]; unfold forced; cases x.toNat <;> rfl
theorem tab_one : ((List.range 36).all fun n => n == 0 || D64 n n == 4607182418800017408) = true := by decide +kernel
noncomputable def hueK (h : UInt64) (k : UInt64 → Bool) : Bool := forced h fun h => forced (Float64.div h 4618441417868443648) fun q => forced (Float64.fmod q 4607182418800017408) fun m =>
  forced (if Float64.isZero m then 0 else if Float64.lt m 0 then Float64.add m 4607182418800017408 else m) k
noncomputable def okHue (n x : Nat) : Bool := n == 0 || forced (D64 x n) fun d =>
  if x = 0 then
    (hueK (Float64.sub d 4607182418800017408) fun h => tagF h == 0 || tagF h == 2) && (hueK (Float64.sub 4607182418800017408 d) fun h => tagF h == 0 || tagF h == 1)
    && (hueK (Float64.sub 4613937818241073152 d) fun h => tagF h == 1 || tagF h == 2)
  else (hueK (Float64.sub d 4607182418800017408) fun h => tagF h == 0) && (hueK (Float64.sub 4607182418800017408 d) fun h => tagF h == 0)
    && (forced (Float64.add 4611686018427387904 d) fun d' => hueK (Float64.sub d' 4607182418800017408) fun h => tagF h == 1)
    && (hueK (Float64.sub 4613937818241073152 d) fun h => tagF h == 1)
    && (forced (Float64.add 4616189618054758400 d) fun d' => hueK (Float64.sub d' 4607182418800017408) fun h => tagF h == 2)
    && (hueK (Float64.sub 4617315517961601024 d) fun h => tagF h == 2)
noncomputable def tagN (n : Nat) : Nat := bF (ltN n (nat_lit 4595172819793696085)) (nat_lit 0) (bF (geN n (nat_lit 4605681218924227242)) (nat_lit 0) (bF (ltN n (nat_lit 4602678819172646912)) (nat_lit 1) (nat_lit 2)))
theorem tag_c : Float64.add 4604180019048437077 4595172819793696085 = UN 4605681218924227242 := by decide +kernel
theorem tag_N (n : Nat) : tagF (UN n) = tagN n := by
  unfold tagF tagN ltB geB
  rw [tag_c, ge_N, show (Float64.cmp (UN n) 4595172819793696085 == some .lt) = ltN n 4595172819793696085 from lt_N n 4595172819793696085, show (Float64.cmp (UN n) 4602678819172646912 == some .lt) = ltN n 4602678819172646912 from lt_N n 4602678819172646912]
  simp only [bF_eq]
  cases ltN n 4595172819793696085 <;> cases geN n 4605681218924227242 <;> cases ltN n 4602678819172646912 <;> rfl
noncomputable def hueN (h : Nat) (p : Nat → Bool) : Bool := nF (divN h (nat_lit 4618441417868443648)) fun q => nF (fmodN q (nat_lit 4607182418800017408)) fun m =>
  nF (bF (zeroN m) (nat_lit 0) (bF (ltN m (nat_lit 0)) (addN m (nat_lit 4607182418800017408)) m)) fun r => nF (tagN r) p
theorem hue_N (h : Nat) (p : Nat → Bool) : hueN h p = hueK (UN h) fun u => p (tagF u) := by
  unfold hueN hueK
  simp only [forced_eq, nF_eq]
  rw [show Float64.div (UN h) 4618441417868443648 = UN (divN h 4618441417868443648) from div_N h 4618441417868443648]
  generalize divN h 4618441417868443648 = q
  rw [show Float64.fmod (UN q) 4607182418800017408 = UN (fmodN q 4607182418800017408) from fmod_N q 4607182418800017408]
  generalize fmodN q 4607182418800017408 = m
  rw [zero_N, show Float64.lt (UN m) 0 = ltN m 0 from lt_N m 0, show Float64.add (UN m) 4607182418800017408 = UN (addN m 4607182418800017408) from add_N m 4607182418800017408, bF_eq, bF_eq]
  rw [← tag_N]
  split
  · rfl
  · split <;> rfl
noncomputable def okN (n x : Nat) : Bool := bF (Nat.beq n (nat_lit 0)) true (nF (fN x) fun fx => nF (fN n) fun fn => nF (divN fx fn) fun d => nF (gN (UN d)) fun e =>
  bF (Nat.beq x (nat_lit 0))
    (bF (hueN (addN d (nat_lit 13830554455654793216)) fun t => bF (Nat.beq t (nat_lit 0)) true (Nat.beq t (nat_lit 2))) (bF (hueN (addN (nat_lit 4607182418800017408) e) fun t => bF (Nat.beq t (nat_lit 0)) true (Nat.beq t (nat_lit 1)))
      (hueN (addN (nat_lit 4613937818241073152) e) fun t => bF (Nat.beq t (nat_lit 1)) true (Nat.beq t (nat_lit 2))) false) false)
    (bF (hueN (addN d (nat_lit 13830554455654793216)) fun t => Nat.beq t (nat_lit 0)) (bF (hueN (addN (nat_lit 4607182418800017408) e) fun t => Nat.beq t (nat_lit 0))
      (bF (hueN (addN (addN (nat_lit 4611686018427387904) d) (nat_lit 13830554455654793216)) fun t => Nat.beq t (nat_lit 1)) (bF (hueN (addN (nat_lit 4613937818241073152) e) fun t => Nat.beq t (nat_lit 1))
      (bF (hueN (addN (addN (nat_lit 4616189618054758400) d) (nat_lit 13830554455654793216)) fun t => Nat.beq t (nat_lit 2)) (hueN (addN (nat_lit 4617315517961601024) e) fun t => Nat.beq t (nat_lit 2)) false) false) false) false) false))
theorem and_bF (a b : Bool) : bF a b false = (a && b) := by cases a <;> rfl
theorem or_bF (a b : Bool) : bF a true b = (a || b) := by cases a <;> rfl
theorem neg_1 : gN 4607182418800017408 = 13830554455654793216 := by decide +kernel
theorem sub_1 (d : Nat) : Float64.sub (UN d) 4607182418800017408 = UN (addN d 13830554455654793216) := by rw [sub_N, neg_1]
theorem ok_N (n x : Nat) : okN n x = okHue n x := by
  unfold okN okHue
  simp only [nF_eq, forced_eq, and_bF, or_bF, hue_N, beq_N]
  rw [show D64 x n = UN (divN (fN x) (fN n)) from by rw [D64, ← U_f x, ← U_f n, div_N]]
  generalize divN (fN x) (fN n) = d
  rw [show Float64.add 4611686018427387904 (UN d) = UN (addN 4611686018427387904 d) from add_N 4611686018427387904 d, show Float64.add 4616189618054758400 (UN d) = UN (addN 4616189618054758400 d) from add_N 4616189618054758400 d]
  simp only [sub_1]
  rw [show Float64.sub 4607182418800017408 (UN d) = UN (addN 4607182418800017408 (gN (UN d))) from sub_N 4607182418800017408 (UN d), show Float64.sub 4613937818241073152 (UN d) = UN (addN 4613937818241073152 (gN (UN d))) from sub_N 4613937818241073152 (UN d), show Float64.sub 4617315517961601024 (UN d) = UN (addN 4617315517961601024 (gN (UN d))) from sub_N 4617315517961601024 (UN d)]
  by_cases h : x = 0
  · rw [if_pos h, bF_eq, if_pos (beq_iff_eq.mpr h)]
    simp only [Bool.and_assoc]
  · rw [if_neg h, bF_eq, if_neg (fun e => h (beq_iff_eq.mp e))]
    simp only [Bool.and_assoc]
noncomputable def okHue' (n x : Nat) : Bool := nF (Nat.gcd x n) fun g => bF (Nat.beq g (nat_lit 1)) (okN n x) (bF (Nat.beq n (nat_lit 0)) true (Nat.beq (divN (fN x) (fN n)) (divN (fN (Nat.div x g)) (fN (Nat.div n g)))))
noncomputable def rowsN (a c : Nat) : Bool := allN c fun i => nF (Nat.add a i) fun n => allN (Nat.succ n) fun x => okHue' n x
theorem rows_at {a c n x : Nat} (h : rowsN a c = true) (h1 : a ≤ n) (h2 : n < a + c) (hx : x ≤ n) : okHue' n x = true := by
  have h3 : nF (Nat.add a (n - a)) (fun n => allN (Nat.succ n) fun x => okHue' n x) = true := allN_lt h (Nat.sub_lt_left_of_lt_add h1 h2)
  rw [nF_eq, show Nat.add a (n - a) = n from Nat.add_sub_cancel' h1] at h3
  exact allN_lt h3 (Nat.lt_succ_of_le hx)
theorem hue_r0 : rowsN 0 15 = true := by decide +kernel
theorem hue_r1 : rowsN 15 6 = true := by decide +kernel
theorem hue_r2 : rowsN 21 5 = true := by decide +kernel
theorem hue_r3 : rowsN 26 4 = true := by decide +kernel
theorem hue_r4 : rowsN 30 3 = true := by decide +kernel
theorem hue_r5 : rowsN 33 3 = true := by decide +kernel
theorem hue_at {n x : Nat} (hn : n < 36) (hx : x ≤ n) : okHue' n x = true := by
  by_cases c0 : n < 15
  · exact rows_at hue_r0 (Nat.zero_le n) c0 hx
  by_cases c1 : n < 21
  · exact rows_at hue_r1 (Nat.not_lt.mp c0) c1 hx
  by_cases c2 : n < 26
  · exact rows_at hue_r2 (Nat.not_lt.mp c1) c2 hx
  by_cases c3 : n < 30
  · exact rows_at hue_r3 (Nat.not_lt.mp c2) c3 hx
  by_cases c4 : n < 33
  · exact rows_at hue_r4 (Nat.not_lt.mp c3) c4 hx
  exact rows_at hue_r5 (Nat.not_lt.mp c4) hn hx
theorem hue_1 {n x : Nat} (hn : n < 36) (h1 : 1 ≤ n) (hx : x ≤ n) : okHue n x = true := by
  have h := hue_at hn hx
  unfold okHue' at h
  rw [nF_eq, bF_eq] at h
  by_cases g : Nat.gcd x n = 1
  · rw [if_pos (Nat.beq_eq.mpr g), ok_N] at h; exact h
  · rw [if_neg (fun e => g (Nat.eq_of_beq_eq_true e)), or_bF, Bool.or_eq_true] at h
    have e := Nat.eq_of_beq_eq_true (h.resolve_left (fun e => Nat.ne_of_gt h1 (Nat.eq_of_beq_eq_true e)))
    have e : D64 x n = D64 (x / Nat.gcd x n) (n / Nat.gcd x n) := by
      show Float64.div (F64 x) (F64 n) = Float64.div (F64 (x / Nat.gcd x n)) (F64 (n / Nat.gcd x n))
      rw [← U_f x, ← U_f n, div_N, e, ← U_f (x / Nat.gcd x n), ← U_f (n / Nat.gcd x n), div_N]; rfl
    have gp : 0 < Nat.gcd x n := Nat.gcd_pos_of_pos_right _ h1
    have h2 := hue_at (Nat.lt_of_le_of_lt (Nat.div_le_self n (Nat.gcd x n)) hn) (Nat.div_le_div_right (c := Nat.gcd x n) hx)
    unfold okHue' at h2
    rw [nF_eq, bF_eq, if_pos (Nat.beq_eq.mpr ((Nat.gcd_div (Nat.gcd_dvd_left x n) (Nat.gcd_dvd_right x n)).trans (Nat.div_self gp))), ok_N] at h2
    have hn0 : (n / Nat.gcd x n == 0) = false := beq_eq_false_iff_ne.mpr (Nat.ne_of_gt (Nat.div_pos (Nat.gcd_le_right x h1) gp))
    unfold okHue at h2 ⊢
    rw [hn0, Bool.false_or, ← e, forced_eq] at h2
    rw [forced_eq, Bool.or_eq_true]
    right
    by_cases x0 : x = 0
    · rw [if_pos (by rw [x0, Nat.zero_div])] at h2
      rw [if_pos x0]; exact h2
    · rw [if_neg (Nat.ne_of_gt (Nat.div_pos (Nat.gcd_le_left n (Nat.pos_of_ne_zero x0)) gp))] at h2
      rw [if_neg x0]; exact h2
end Mine
end
section
open PySem PySem.W PyProof.Rows PySem.Spec PySem.Calls PySem.Flt
local macro_rules | `(tactic| omega) => `(tactic| first | lia | omega +splitDisjunctions)
namespace Mine
theorem cmp_F {a b : Nat} (ha : a < 36) (hb : b < 36) : Float64.cmp (F64 a) (F64 b) = some (compare a b) := by
  have h := all_lt2 tab_cmp ha hb
  exact beq_iff_eq.mp h
theorem cmp_lt {a b : Nat} (ha : a < 36) (hb : b < 36) : (Float64.cmp (F64 a) (F64 b) == some .lt) = decide (a < b) := by
  rw [cmp_F ha hb]
  rcases Nat.lt_trichotomy a b with h | h | h
  · simp [Nat.compare_eq_lt.mpr h, h]
  · subst h; simp
  · simp [Nat.compare_eq_gt.mpr h]; omega
theorem cmp_eq {a b : Nat} (ha : a < 36) (hb : b < 36) : (Float64.cmp (F64 a) (F64 b) == some .eq) = decide (a = b) := by
  rw [cmp_F ha hb]
  rcases Nat.lt_trichotomy a b with h | h | h
  · simp [Nat.compare_eq_lt.mpr h]; omega
  · subst h; simp
  · simp [Nat.compare_eq_gt.mpr h]; omega
theorem ofInt_F {i : Int} (h0 : 0 ≤ i) (h1 : i < 36) : Float64.div (Float64.ofInt i) 4634204016564240384 = F64 i.toNat := by
  obtain ⟨n, rfl⟩ := Int.eq_ofNat_of_zero_le h0
  exact beq_iff_eq.mp (all_lt tab_ofInt (k := n) (by omega))
theorem ltV_F {a b : Nat} (ha : a < 36) (hb : b < 36) (t u : Tok) : ltV (.float (F64 a) t) (.float (F64 b) u) = decide (a < b) := by
  show (Float64.cmp (F64 a) (F64 b) == some .lt) = _
  exact cmp_lt ha hb
section
variable {prog : Program} {w : World} {A : Around} {E : Value → Shared → Prop} {s : Shared} {Q : Value → Shared → Prop} {h₀ : Heap} {L : Addr} {m : Str → Option Value} {news : List (Addr × Obj)}
theorem max3_F {a b c : Nat} {t u v : Tok} (hh : A.handled = none) (F : Fr h₀ L s.heap m) (N : News h₀ L s.heap news) (ha : a < 36) (hb : b < 36) (hc : c < 36)
    (h : ∀ h' tk x, Fr h₀ L h' m → News h₀ L h' news → ∀ n, a ≤ n → b ≤ n → c ≤ n → (n = a ∨ n = b ∨ n = c) → n < 36 → Q (.float (F64 n) x) { s with heap := h', toks := tk }) :
    wpAny (model prog w) A (call (.builtin "max") [.float (F64 a) t, .float (F64 b) u, .float (F64 c) v]) Q E s := by
  have hT : (s.heap.push { cls := .type "tuple", data := .seq #[.float (F64 a) t, .float (F64 b) u, .float (F64 c) v] }).IsTuple s.heap.objs.size #[.float (F64 a) t, .float (F64 b) u, .float (F64 c) v] := ⟨_, Heap.get?_push_size _ rfl, rfl, 0, rfl⟩
  refine call_max_three (wpAny_pyIter_tuple hT ?_)
  have hsz : (s.heap.push { cls := .type "tuple", data := .seq #[.float (F64 a) t, .float (F64 b) u, .float (F64 c) v] }).objs.size = s.heap.objs.size + 1 := Heap.size_push ..
  refine ⟨_, [_, s.heap.objs.size], [_], _, _, _, _, rfl, Walks.tuple (A := A.in1) hh _ s.heap.objs.size (by rw [hsz]; exact Nat.ne_of_lt (Nat.lt_succ_self _)) #[.float (F64 a) t, .float (F64 b) u, .float (F64 c) v],
    ⟨⟨_, Heap.get?_push_size _ rfl, rfl, rfl⟩, hT.push _⟩, fun d hd => ?_, by simp, cmpOf_gt #[.float (F64 a) t, .float (F64 b) u, .float (F64 c) v] (fun x hx => ?_), fun x h' tk hP hk => ?_⟩
  · show d < ((s.heap.push _).push _).objs.size
    rw [Heap.size_push, hsz]
    rcases List.mem_cons.mp hd with rfl | hd
    · rw [hsz]; exact Nat.lt_succ_self _
    · rcases List.mem_cons.mp hd with rfl | hd
      · exact Nat.lt_succ_of_lt (Nat.lt_succ_self _)
      · cases hd
  · simp only [List.mem_toArray, List.mem_cons, List.not_mem_nil, or_false] at hx
    rcases hx with rfl | rfl | rfl <;> exact .float _ _
  · have hold : ∀ d o, s.heap.get? d = some o → h'.get? d = some o := fun d o e => by
      refine hk d o (fun hm => ?_) (Heap.get?_push_of_some _ (Heap.get?_push_of_some _ e))
      rcases List.mem_cons.mp hm with e1 | hm
      · have := Heap.lt_size e; rw [e1, hsz] at this; exact Nat.lt_irrefl _ (Nat.lt_of_succ_lt this)
      · cases hm
    have k := fun n x => h h' tk x (F.grownK hold) (N.grown hold) n
    simp only [List.size_toArray, List.length_cons, List.length_nil, Nat.zero_add, Nat.reduceAdd, Nat.add_one_sub_one] at hP
    by_cases hba : a < b
    · by_cases hcb : b < c
      · simp [argBest, ltV_F, ha, hb, hc, hba, hcb] at hP
        subst hP; exact k c v (by omega) (by omega) (by omega) (by omega) hc
      · simp [argBest, ltV_F, ha, hb, hc, hba, hcb] at hP
        subst hP; exact k b u (by omega) (by omega) (by omega) (by omega) hb
    · by_cases hcb : a < c
      · simp [argBest, ltV_F, ha, hb, hc, hba, hcb] at hP
        subst hP; exact k c v (by omega) (by omega) (by omega) (by omega) hc
      · simp [argBest, ltV_F, ha, hb, hc, hba, hcb] at hP
        subst hP; exact k a t (by omega) (by omega) (by omega) (by omega) ha
theorem min3_F {a b c : Nat} {t u v : Tok} (hh : A.handled = none) (F : Fr h₀ L s.heap m) (N : News h₀ L s.heap news) (ha : a < 36) (hb : b < 36) (hc : c < 36)
    (h : ∀ h' tk x, Fr h₀ L h' m → News h₀ L h' news → ∀ n, n ≤ a → n ≤ b → n ≤ c → (n = a ∨ n = b ∨ n = c) → n < 36 → Q (.float (F64 n) x) { s with heap := h', toks := tk }) :
    wpAny (model prog w) A (call (.builtin "min") [.float (F64 a) t, .float (F64 b) u, .float (F64 c) v]) Q E s := by
  have hT : (s.heap.push { cls := .type "tuple", data := .seq #[.float (F64 a) t, .float (F64 b) u, .float (F64 c) v] }).IsTuple s.heap.objs.size #[.float (F64 a) t, .float (F64 b) u, .float (F64 c) v] := ⟨_, Heap.get?_push_size _ rfl, rfl, 0, rfl⟩
  refine call_min_three (wpAny_pyIter_tuple hT ?_)
  have hsz : (s.heap.push { cls := .type "tuple", data := .seq #[.float (F64 a) t, .float (F64 b) u, .float (F64 c) v] }).objs.size = s.heap.objs.size + 1 := Heap.size_push ..
  refine ⟨_, [_, s.heap.objs.size], [_], _, _, _, _, rfl, Walks.tuple (A := A.in1) hh _ s.heap.objs.size (by rw [hsz]; exact Nat.ne_of_lt (Nat.lt_succ_self _)) #[.float (F64 a) t, .float (F64 b) u, .float (F64 c) v],
    ⟨⟨_, Heap.get?_push_size _ rfl, rfl, rfl⟩, hT.push _⟩, fun d hd => ?_, by simp, cmpOf_lt #[.float (F64 a) t, .float (F64 b) u, .float (F64 c) v] (fun x hx => ?_), fun x h' tk hP hk => ?_⟩
  · show d < ((s.heap.push _).push _).objs.size
    rw [Heap.size_push, hsz]
    rcases List.mem_cons.mp hd with rfl | hd
    · rw [hsz]; exact Nat.lt_succ_self _
    · rcases List.mem_cons.mp hd with rfl | hd
      · exact Nat.lt_succ_of_lt (Nat.lt_succ_self _)
      · cases hd
  · simp only [List.mem_toArray, List.mem_cons, List.not_mem_nil, or_false] at hx
    rcases hx with rfl | rfl | rfl <;> exact .float _ _
  · have hold : ∀ d o, s.heap.get? d = some o → h'.get? d = some o := fun d o e => by
      refine hk d o (fun hm => ?_) (Heap.get?_push_of_some _ (Heap.get?_push_of_some _ e))
      rcases List.mem_cons.mp hm with e1 | hm
      · have := Heap.lt_size e; rw [e1, hsz] at this; exact Nat.lt_irrefl _ (Nat.lt_of_succ_lt this)
      · cases hm
    have k := fun n x => h h' tk x (F.grownK hold) (N.grown hold) n
    simp only [List.size_toArray, List.length_cons, List.length_nil, Nat.zero_add, Nat.reduceAdd, Nat.add_one_sub_one] at hP
    by_cases hba : b < a
    · by_cases hcb : c < b
      · simp [argBest, ltV_F, ha, hb, hc, hba, hcb] at hP
        subst hP; exact k c v (by omega) (by omega) (by omega) (by omega) hc
      · simp [argBest, ltV_F, ha, hb, hc, hba, hcb] at hP
        subst hP; exact k b u (by omega) (by omega) (by omega) (by omega) hb
    · by_cases hcb : c < a
      · simp [argBest, ltV_F, ha, hb, hc, hba, hcb] at hP
        subst hP; exact k c v (by omega) (by omega) (by omega) (by omega) hc
      · simp [argBest, ltV_F, ha, hb, hc, hba, hcb] at hP
        subst hP; exact k a t (by omega) (by omega) (by omega) (by omega) ha
theorem sub_FF {a b : Nat} {t u : Tok} (ha : a < 36) (hb : b ≤ a) (h : ∀ x tk, Q (.float (F64 (a - b)) x) { s with toks := tk }) : wpAny (model prog w) A (binaryOp .Sub (.float (F64 a) t) (.float (F64 b) u)) Q E s := by
  refine sub_float ?_
  rw [sub_F ha hb]; exact h _ _
theorem add_FF {a b : Nat} {t u : Tok} (ha : a < 36) (hb : b < 36) (h : ∀ x tk, Q (.float (F64 (a + b)) x) { s with toks := tk }) : wpAny (model prog w) A (binaryOp .Add (.float (F64 a) t) (.float (F64 b) u)) Q E s := by
  refine add_float ?_
  rw [add_F ha hb]; exact h _ _
theorem eq_FF {a b : Nat} {t u : Tok} (ha : a < 36) (hb : b < 36) (h : Q (.bool (decide (a = b))) s) : wpAny (model prog w) A (compareOp .Eq (.float (F64 a) t) (.float (F64 b) u)) Q E s := by
  refine AutoFloatOps.eq_0 ?_
  rw [cmp_eq ha hb]; exact h
theorem div_c {x c : UInt64} {t u : Tok} (h0 : Float64.isZero c = false) (h : ∀ y tk, Q (.float (Float64.div x c) y) { s with toks := tk }) : wpAny (model prog w) A (binaryOp .Div (.float x t) (.float c u)) Q E s :=
  AutoFloatOps.truediv_1 (by rw [h0]; exact Bool.false_ne_true) (h _ _)
theorem mod_c {x c : UInt64} {t u : Tok} (h0 : Float64.isZero c = false) (h : ∀ y tk, Q (.float (Float64.divmod x c).2 y) { s with toks := tk }) : wpAny (model prog w) A (binaryOp .Mod (.float x t) (.float c u)) Q E s :=
  AutoFloatOps.mod_1 (by rw [h0]; exact Bool.false_ne_true) (h _ _)
end
end Mine
end
section
open PySem PySem.W PyProof.Rows PySem.Spec PySem.Calls PySem.Flt
namespace Mine
theorem mod_one (q : UInt64) : (Float64.divmod q 4607182418800017408).2 = (if Float64.isZero (Float64.fmod q 4607182418800017408) then 0 else if Float64.lt (Float64.fmod q 4607182418800017408) 0 then Float64.add (Float64.fmod q 4607182418800017408) 4607182418800017408 else Float64.fmod q 4607182418800017408) := by
  have e1 : Float64.copysign (Float64.zero false) 4607182418800017408 = 0 := by decide +kernel
  have e2 : Float64.lt 4607182418800017408 (Float64.zero false) = false := by decide +kernel
  have e3 : Float64.zero false = 0 := by decide +kernel
  unfold Float64.divmod
  dsimp only
  by_cases h : Float64.isZero (Float64.fmod q 4607182418800017408) = true
  · rw [if_pos h, if_pos h]; exact e1
  · rw [if_neg h, if_neg h, e2, e3]
    cases h2 : Float64.lt (Float64.fmod q 4607182418800017408) 0 <;> rfl
theorem hueK_eq (h : UInt64) (k : UInt64 → Bool) : hueK h k = k (hueOf h) := by
  unfold hueK hueOf
  simp only [forced_eq]
  rw [mod_one]
theorem one_F {n : Nat} (hn : n < 36) (h1 : 1 ≤ n) : D64 n n = 4607182418800017408 := by
  have h := all_lt tab_one hn
  rw [Bool.or_eq_true, beq_iff_eq, beq_iff_eq] at h
  exact h.resolve_left (Nat.ne_of_gt h1)
theorem hue_facts {n x : Nat} (hn : n < 36) (h1 : 1 ≤ n) (hx : x ≤ n) :
    (x = 0 → (tagF (hueOf (Float64.sub (D64 x n) (D64 n n))) = 0 ∨ tagF (hueOf (Float64.sub (D64 x n) (D64 n n))) = 2) ∧ (tagF (hueOf (Float64.sub (D64 n n) (D64 x n))) = 0 ∨ tagF (hueOf (Float64.sub (D64 n n) (D64 x n))) = 1)
      ∧ (tagF (hueOf (Float64.sub (Float64.add 4611686018427387904 (D64 n n)) (D64 x n))) = 1 ∨ tagF (hueOf (Float64.sub (Float64.add 4611686018427387904 (D64 n n)) (D64 x n))) = 2)) ∧
    (x ≠ 0 → tagF (hueOf (Float64.sub (D64 x n) (D64 n n))) = 0 ∧ tagF (hueOf (Float64.sub (D64 n n) (D64 x n))) = 0
      ∧ tagF (hueOf (Float64.sub (Float64.add 4611686018427387904 (D64 x n)) (D64 n n))) = 1 ∧ tagF (hueOf (Float64.sub (Float64.add 4611686018427387904 (D64 n n)) (D64 x n))) = 1
      ∧ tagF (hueOf (Float64.sub (Float64.add 4616189618054758400 (D64 x n)) (D64 n n))) = 2 ∧ tagF (hueOf (Float64.sub (Float64.add 4616189618054758400 (D64 n n)) (D64 x n))) = 2) := by
  have h := hue_1 hn h1 hx
  have e2 : Float64.add 4611686018427387904 4607182418800017408 = 4613937818241073152 := by decide +kernel
  have e4 : Float64.add 4616189618054758400 4607182418800017408 = 4617315517961601024 := by decide +kernel
  rw [one_F hn h1, e2, e4]
  unfold okHue at h
  simp only [hueK_eq, forced_eq, Bool.or_eq_true, beq_iff_eq] at h
  have h := h.resolve_left (Nat.ne_of_gt h1)
  refine ⟨fun h0 => ?_, fun h0 => ?_⟩
  · rw [if_pos h0] at h
    simp only [Bool.and_eq_true, Bool.or_eq_true, beq_iff_eq] at h
    exact ⟨h.1.1, h.1.2, h.2⟩
  · rw [if_neg h0] at h
    simp only [Bool.and_eq_true, beq_iff_eq] at h
    exact ⟨h.1.1.1.1.1, h.1.1.1.1.2, h.1.1.1.2, h.1.1.2, h.1.2, h.2⟩
noncomputable def HueOK (a b c : Nat) (H : UInt64) : Prop := (tagF H = 0 → b ≤ a ∧ c ≤ a) ∧ (tagF H = 1 → a ≤ b ∧ c ≤ b) ∧ (tagF H = 2 → a ≤ c ∧ b ≤ c)
theorem HueOK.c0 {a b c : Nat} {H : UInt64} (t : tagF H = 0) (p : b ≤ a) (q : c ≤ a) : HueOK a b c H := ⟨fun _ => ⟨p, q⟩, fun h => absurd (t.symm.trans h) (by decide), fun h => absurd (t.symm.trans h) (by decide)⟩
theorem HueOK.c1 {a b c : Nat} {H : UInt64} (t : tagF H = 1) (p : a ≤ b) (q : c ≤ b) : HueOK a b c H := ⟨fun h => absurd (t.symm.trans h) (by decide), fun _ => ⟨p, q⟩, fun h => absurd (t.symm.trans h) (by decide)⟩
theorem HueOK.c2 {a b c : Nat} {H : UInt64} (t : tagF H = 2) (p : a ≤ c) (q : b ≤ c) : HueOK a b c H := ⟨fun h => absurd (t.symm.trans h) (by decide), fun h => absurd (t.symm.trans h) (by decide), fun _ => ⟨p, q⟩⟩
theorem hue_zero {a b c n k : Nat} (h1 : a ≤ n) (h2 : b ≤ n) (h3 : c ≤ n) (k1 : k ≤ a) (k2 : k ≤ b) (k3 : k ≤ c) (e : k = n) : HueOK a b c 0 := by
  subst e
  exact ⟨fun _ => ⟨Nat.le_trans h2 k1, Nat.le_trans h3 k1⟩, fun _ => ⟨Nat.le_trans h1 k2, Nat.le_trans h3 k2⟩, fun _ => ⟨Nat.le_trans h1 k3, Nat.le_trans h2 k3⟩⟩
theorem hue36 {n k : Nat} (hn : n < 36) : n - k < 36 := Nat.lt_of_le_of_lt (Nat.sub_le _ _) hn
theorem hue1 {n k a : Nat} (h1 : a ≤ n) (k1 : k ≤ a) (e : ¬ k = n) : 1 ≤ n - k := Nat.sub_pos_of_lt (Nat.lt_of_le_of_ne (Nat.le_trans k1 h1) e)
theorem hue_r {a b c n k : Nat} (hn : n < 36) (h1 : a ≤ n) (h2 : b ≤ n) (h3 : c ≤ n) (k1 : k ≤ a) (k2 : k ≤ b) (k3 : k ≤ c) (hk : k = a ∨ k = b ∨ k = c) (e : ¬ k = n) (ha : a = n) :
    HueOK a b c (hueOf (Float64.sub (D64 (n - c) (n - k)) (D64 (n - b) (n - k)))) := by
  obtain rfl := ha
  rcases hk.resolve_left e with q | q
  · rw [← q]
    obtain ⟨f1, f2⟩ := hue_facts  (hue36 hn) (hue1 h3 k3 e) (Nat.sub_le_sub_left k3 _)
    by_cases h0 : a - c = 0
    · have hc := Nat.le_of_sub_eq_zero h0
      exact (f1 h0).1.elim (fun t => .c0 t (q ▸ h2) h3) (fun t => .c2 t hc (Nat.le_trans (q ▸ h2) hc))
    · exact .c0 (f2 h0).1 (q ▸ h2) h3
  · rw [← q]
    obtain ⟨f1, f2⟩ := hue_facts  (hue36 hn) (hue1 h2 k2 e) (Nat.sub_le_sub_left k2 _)
    by_cases h0 : a - b = 0
    · have hc := Nat.le_of_sub_eq_zero h0
      exact (f1 h0).2.1.elim (fun t => .c0 t h2 (q ▸ h3)) (fun t => .c1 t hc (Nat.le_trans (q ▸ h3) hc))
    · exact .c0 (f2 h0).2.1 h2 (q ▸ h3)
theorem hue_g {a b c n k : Nat} (hn : n < 36) (h1 : a ≤ n) (h2 : b ≤ n) (h3 : c ≤ n) (k1 : k ≤ a) (k2 : k ≤ b) (k3 : k ≤ c) (hk : k = a ∨ k = b ∨ k = c) (e : ¬ k = n) (ha : ¬ a = n) (hb : b = n) :
    HueOK a b c (hueOf (Float64.sub (Float64.add 4611686018427387904 (D64 (n - a) (n - k))) (D64 (n - c) (n - k)))) := by
  obtain rfl := hb
  rcases hk with q | q | q
  · rw [← q]
    obtain ⟨f1, f2⟩ := hue_facts  (hue36 hn) (hue1 h3 k3 e) (Nat.sub_le_sub_left k3 _)
    by_cases h0 : b - c = 0
    · have hc := Nat.le_of_sub_eq_zero h0
      exact (f1 h0).2.2.elim (fun t => .c1 t (q ▸ h1) h3) (fun t => .c2 t (Nat.le_trans (q ▸ h1) hc) hc)
    · exact .c1 (f2 h0).2.2.2.1 (q ▸ h1) h3
  · exact absurd q e
  · rw [← q]
    exact .c1 ((hue_facts  (hue36 hn) (hue1 h1 k1 e) (Nat.sub_le_sub_left k1 _)).2 (Nat.sub_ne_zero_of_lt (Nat.lt_of_le_of_ne h1 ha))).2.2.1 h1 (q ▸ h3)
theorem hue_b {a b c n k : Nat} (hn : n < 36) (h1 : a ≤ n) (h2 : b ≤ n) (h3 : c ≤ n) (hm : n = a ∨ n = b ∨ n = c) (k1 : k ≤ a) (k2 : k ≤ b) (k3 : k ≤ c) (hk : k = a ∨ k = b ∨ k = c) (e : ¬ k = n) (ha : ¬ a = n) (hb : ¬ b = n) :
    HueOK a b c (hueOf (Float64.sub (Float64.add 4616189618054758400 (D64 (n - b) (n - k))) (D64 (n - a) (n - k)))) := by
  obtain rfl := (hm.resolve_left (Ne.symm ha)).resolve_left (Ne.symm hb)
  rcases hk with q | q | q
  · rw [← q]
    exact .c2 ((hue_facts (n := n - k) (x := n - b) (hue36 hn) (hue1 h2 k2 e) (Nat.sub_le_sub_left k2 n)).2 (Nat.sub_ne_zero_of_lt (Nat.lt_of_le_of_ne h2 hb))).2.2.2.2.1 (q ▸ h1) h2
  · rw [← q]
    exact .c2 ((hue_facts (n := n - k) (x := n - a) (hue36 hn) (hue1 h1 k1 e) (Nat.sub_le_sub_left k1 n)).2 (Nat.sub_ne_zero_of_lt (Nat.lt_of_le_of_ne h1 ha))).2.2.2.2.2 h1 (q ▸ h2)
  · exact absurd q e
end Mine
end
section
open PySem PySem.W PyProof.Rows PySem.Spec PySem.Calls PySem.Flt
namespace Mine
noncomputable def isIntF (x : UInt64) (n : Nat) : Bool := match Float64.decode x with | .fin sg m e => Float64.truncOf sg m e == (n : Int) | _ => false
noncomputable def M64 (n : Nat) : UInt64 := Float64.mul (F64 n) 4634204016564240384
noncomputable def L64 (n : Nat) : UInt64 := Float64.div (F64 n) 4611686018427387904
noncomputable def H64 (n : Nat) : UInt64 := Float64.mul (L64 n) 4638707616191610880
theorem tab_int : ((List.range 36).all fun n => isIntF (M64 n) n) = true := by decide +kernel
theorem tab_intL : ((List.range 72).all fun n => isIntF (H64 n) n) = true := by decide +kernel
theorem tab_zero2 : ((List.range 72).all fun a => Float64.isZero (F64 a) == decide (a = 0)) = true := by decide +kernel
theorem tab_twoN : allN 36 (fun a => nF (addN (nat_lit 4611686018427387904) (gN (F64 a))) fun d => allN 36 fun b => bF (zeroN (addN d (gN (F64 b)))) false true) = true := by decide +kernel
theorem tab_two {a b : Nat} (ha : a < 36) (hb : b < 36) : (Float64.isZero (Float64.sub (Float64.sub 4611686018427387904 (F64 a)) (F64 b)) == false) = true := by
  have h : nF (addN 4611686018427387904 (gN (F64 a))) (fun d => allN 36 fun b => bF (zeroN (addN d (gN (F64 b)))) false true) = true := allN_lt tab_twoN ha
  rw [nF_eq] at h
  have h2 : bF (zeroN (addN (addN 4611686018427387904 (gN (F64 a))) (gN (F64 b)))) false true = true := allN_lt h hb
  rw [show Float64.sub 4611686018427387904 (F64 a) = UN (addN 4611686018427387904 (gN (F64 a))) from sub_N 4611686018427387904 (F64 a), sub_N, zero_N]
  generalize zeroN (addN (addN 4611686018427387904 (gN (F64 a))) (gN (F64 b))) = z at h2
  cases z
  · rfl
  · cases h2
theorem zero_F2 {a : Nat} (ha : a < 72) (h : a ≠ 0) : ¬ Float64.isZero (F64 a) = true := by
  have e := beq_iff_eq.mp (all_lt tab_zero2 ha)
  rw [e]; simpa using h
section
variable {prog : Program} {w : World} {A : Around} {E : Value → Shared → Prop} {s : Shared} {Q : Value → Shared → Prop}
theorem int_isF {x : UInt64} {n : Nat} {t : Tok} (e : isIntF x n = true) (h : ∀ y tk, Q (.int n y) { s with toks := tk }) : wpAny (model prog w) A (call (.type "int") [.float x t]) Q E s := by
  unfold isIntF at e
  split at e
  · rename_i sg m k hd
    refine call_int_float hd ?_
    rw [beq_iff_eq.mp e]; exact h _ _
  · cases e
theorem int_M {n : Nat} {t : Tok} (hn : n < 36) (h : ∀ y tk, Q (.int n y) { s with toks := tk }) : wpAny (model prog w) A (call (.type "int") [.float (M64 n) t]) Q E s := int_isF (all_lt tab_int hn) h
theorem int_H {n : Nat} {t : Tok} (hn : n < 72) (h : ∀ y tk, Q (.int n y) { s with toks := tk }) : wpAny (model prog w) A (call (.type "int") [.float (H64 n) t]) Q E s := int_isF (all_lt tab_intL hn) h
theorem mul_M {n : Nat} {t u : Tok} (h : ∀ y tk, Q (.float (M64 n) y) { s with toks := tk }) : wpAny (model prog w) A (binaryOp .Mult (.float (F64 n) t) (.float 4634204016564240384 u)) Q E s := mul_float (h _ _)
theorem mul_H {n : Nat} {t u : Tok} (h : ∀ y tk, Q (.float (H64 n) y) { s with toks := tk }) : wpAny (model prog w) A (binaryOp .Mult (.float (L64 n) t) (.float 4638707616191610880 u)) Q E s := mul_float (h _ _)
theorem div_L {n : Nat} {t u : Tok} (h : ∀ y tk, Q (.float (L64 n) y) { s with toks := tk }) : wpAny (model prog w) A (binaryOp .Div (.float (F64 n) t) (.float 4611686018427387904 u)) Q E s := div_c (by decide +kernel) h
theorem div_64 {i : Int} {t u : Tok} (h0 : 0 ≤ i) (h1 : i < 36) (h : ∀ y tk, Q (.float (F64 i.toNat) y) { s with toks := tk }) : wpAny (model prog w) A (binaryOp .Div (.int i t) (.float 4634204016564240384 u)) Q E s := by
  have ho : ¬ Over i := by unfold Over; omega
  refine AutoFloatOps.truediv_if_2 (fin_of_fits ho) (by decide +kernel) ?_
  rw [ofInt_F h0 h1]; exact h _ _
theorem div_FG {a b : Nat} {t u : Tok} (hb : b < 72) (h0 : b ≠ 0) (h : ∀ x tk, Q (.float (D64 a b) x) { s with toks := tk }) : wpAny (model prog w) A (binaryOp .Div (.float (F64 a) t) (.float (F64 b) u)) Q E s :=
  AutoFloatOps.truediv_1 (zero_F2 hb h0) (h _ _)
theorem div_two {x : UInt64} {a b : Nat} {t u : Tok} (ha : a < 36) (hb : b < 36) (h : ∀ y z tk, Q (.float z y) { s with toks := tk }) : wpAny (model prog w) A (binaryOp .Div (.float x t) (.float (Float64.sub (Float64.sub 4611686018427387904 (F64 a)) (F64 b)) u)) Q E s :=
  AutoFloatOps.truediv_1 (by rw [beq_iff_eq.mp (tab_two ha hb)]; exact Bool.false_ne_true) (h _ _ _)
end
end Mine
end
section
open PySem PySem.W PyProof.Rows PySem.Spec PySem.Calls PyProof.V
local macro_rules | `(tactic| omega) => `(tactic| first | lia | omega +splitDisjunctions)
namespace Mine
section
variable {prog : Program} {w : World} {A : Around} {E : Value → Shared → Prop} {s : Shared} {Q : Value → Shared → Prop} {h₀ : Heap} {L : Addr} {news : List (Addr × Obj)}
theorem item_here {value slice : Expr} {l : Addr} {vs : List Value} {n : Nat} {k : Int} {u : Tok} {x : Value} (N : News h₀ L s.heap news) (hm : (l, listOf vs.toArray n) ∈ news) (hk : decide (0 ≤ k ∧ k < 2 ^ 63) = true) (hx : vs[k.toNat]? = some x) (h : Q x s)
    (hs : subscripted slice false (.ref l) (.int k u) = operate [.ref l, .int k u] (getItem (.ref l) (.int k u)) := by with_unfolding_all rfl) :
    wpAny (model prog w) A (subscriptTail value slice (.ref l) (.int k u)) Q E s := by
  have hl : s.heap.IsList l vs.toArray := N.isList hm
  obtain ⟨h0, h1⟩ := of_decide_eq_true hk
  exact tail_any hl.typeIs slot_list_getitem.lookup (wpAny_getItem_list hl h0 h1 (by simpa using hx) h) hs
end
end Mine
end
section
open PySem PySem.W PyProof.Rows PySem.Spec PySem.Calls PyProof.V
namespace Mine
noncomputable abbrev prg : Program := PySem.Challenge.pw_xg0033_01
noncomputable def pd (D : List (Str × Int)) : List (PyData × PyData) := D.map fun p => (PyData.str p.1, PyData.int p.2)
noncomputable def addC (D : List (Str × Int)) (k : Str) (n : Int) : List (Str × Int) := if D.any (fun p => decide (p.1 = k)) then D.map (fun p => if p.1 = k then (p.1, p.2 + n) else p) else D ++ [(k, n)]
structure DictIs (w : World) (a : Addr) (o : Obj) (D : List (Str × Int)) : Prop where
  lo : (a == sysModules) = false
  tab : ∃ kvs, o.IsDictOf (strKind prg w) kvs ∧ FlatPairs PyData.str kvs (pd D)
  nodup : (D.map (·.1)).Nodup
theorem cast_flat {kvs : List (Str × Value)} {D D' : List (PyData × PyData)} (h : FlatPairs PyData.str kvs D) (e : D = D') : FlatPairs PyData.str kvs D' := e ▸ h
theorem addC_mem {D : List (Str × Int)} {k : Str} {n : Int} (h : D.any (fun p => decide (p.1 = k)) = true) : (addC D k n).map (·.1) = D.map (·.1) := by
  unfold addC; rw [if_pos h, List.map_map]
  refine List.map_congr_left fun p _ => ?_
  dsimp only [Function.comp]; split <;> rfl
theorem addC_new {D : List (Str × Int)} {k : Str} {n : Int} (h : D.any (fun p => decide (p.1 = k)) = false) : addC D k n = D ++ [(k, n)] := by
  unfold addC; rw [h]; rfl
theorem addC_nodup {D : List (Str × Int)} {k : Str} {n : Int} (h : (D.map (·.1)).Nodup) : ((addC D k n).map (·.1)).Nodup := by
  cases e : D.any (fun p => decide (p.1 = k)) with
  | true => rw [addC_mem e]; exact h
  | false =>
    rw [addC_new e, List.map_append, List.nodup_append]
    refine ⟨h, by simp, fun a ha b hb => ?_⟩
    simp only [List.map_cons, List.map_nil, List.mem_singleton] at hb
    subst hb
    obtain ⟨p, hp, rfl⟩ := List.mem_map.mp ha
    have := List.any_eq_false.mp e p hp
    simpa using this
theorem addC_length (D : List (Str × Int)) (k : Str) (n : Int) : (addC D k n).length ≤ D.length + 1 := by
  unfold addC; split <;> simp
noncomputable def mergeC (D1 D2 : List (Str × Int)) : List (Str × Int) := D2.foldl (fun d p => addC d p.1 p.2) D1
end Mine
end
section
open PySem PySem.W PyProof.Rows PySem.Spec PySem.Calls PyProof.V
local macro_rules | `(tactic| omega) => `(tactic| first | lia | omega +splitDisjunctions)
namespace Mine
noncomputable def COff (I C c D : Addr) (l : List (Addr × Obj)) : Prop := ∀ p ∈ l, p.1 ≠ I ∧ p.1 ≠ C ∧ p.1 ≠ c ∧ p.1 ≠ D
theorem COff.cons {I C c D : Addr} {p : Addr × Obj} {l : List (Addr × Obj)} (h : p.1 ≠ I ∧ p.1 ≠ C ∧ p.1 ≠ c ∧ p.1 ≠ D) (r : COff I C c D l) : COff I C c D (p :: l) := fun q hq => by
  rcases List.mem_cons.mp hq with rfl | hq
  · exact h
  · exact r q hq
noncomputable def CEnd (h₀ : Heap) (L : Addr) (m : Str → Option Value) (s₁ : Shared) (I : Addr) (oI : Obj) (C : Addr) (oC : Obj) (c : Addr) (oc : Obj) (D : Addr) (oD : Obj) (S : List (Addr × Obj) → Prop) (rest : Value → List (Addr × Obj) → Prop) (y : Value) (s₂ : Shared) : Prop :=
  ∃ h' tk news', s₂ = { s₁ with heap := h', toks := tk } ∧ Fr h₀ L h' m ∧ News h₀ L h' ((I, oI) :: (C, oC) :: (c, oc) :: (D, oD) :: news') ∧ COff I C c D news' ∧ S news' ∧ rest y news'
noncomputable def CRest (prog : Program) (w : World) (A : Around) (h₀ : Heap) (L : Addr) (m : Str → Option Value) (env : Env) (elt : Expr) (x : Str) (scope : Scope) (cl : List (Str × Addr)) (s : Shared) (S : List (Addr × Obj) → Prop) (P : Nat → Value → Prop)
    (Fin : List Value → List (Addr × Obj) → Prop) : Nat → Nat → List Value → List (Addr × Obj) → Prop
  | 0, _, ys, news => Fin ys news
  | k + 1, i, ys, news => ∀ v I oI C oC c oc D h tk (E' : Value → Shared → Prop), P i v → oc.data = .cell (some v) → Fr h₀ L h m → News h₀ L h ((I, oI) :: (C, oC) :: (c, oc) :: (D, LCg.lst ys) :: news) → COff I C c D news → ((@Ne Nat I C) ∧ (@Ne Nat I c) ∧ (@Ne Nat I D) ∧ (@Ne Nat C c) ∧ (@Ne Nat C D) ∧ (@Ne Nat c D)) →
      wpAny (model prog w) A (eval elt (compEnvC scope ((x, c) :: cl) C env)) (CEnd h₀ L m { s with heap := h, toks := tk } I oI C oC c oc D (LCg.lst ys) S (fun y news' => CRest prog w A h₀ L m env elt x scope cl s S P Fin k (i + 1) (ys ++ [y]) news')) E' { s with heap := h, toks := tk }
section
variable {prog : Program} {w : World} {A : Around} {E : Value → Shared → Prop} {s : Shared} {h₀ : Heap} {L : Addr} {m : Str → Option Value} {env : Env}
theorem lookup_relabel_cell {env : Env} : ∀ {names : List (Str × NameKind)} {x : Str}, names.lookup x = some .cell →
    (names.map fun (n, k) => if (k == NameKind.free && env.scope.kind == .function && env.kindOf n == some .cell) then (n, NameKind.cell) else (n, k)).lookup x = some .cell
  | [], _, h => by simp at h
  | (n, k) :: r, x, h => by
    show List.lookup x ((if (k == NameKind.free && env.scope.kind == .function && env.kindOf n == some .cell) = true then (n, NameKind.cell) else (n, k)) :: _) = _
    cases hx : x == n with
    | true =>
      simp only [List.lookup_cons, hx] at h
      cases h
      simp [List.lookup_cons, hx]
    | false =>
      simp only [List.lookup_cons, hx] at h
      have ih := lookup_relabel_cell (env := env) h
      by_cases hc : (k == NameKind.free && env.scope.kind == .function && env.kindOf n == some .cell) = true
      · rw [if_pos hc]; simp only [List.lookup_cons, hx]; exact ih
      · rw [if_neg hc]; simp only [List.lookup_cons, hx]; exact ih
theorem block_C {elt iter : Expr} {x : Str} {px : Pos} {scope : Scope} {cl : List (Str × Addr)} {pos : Pos} {s₂ : Shared} {I : Addr} {fp : List Addr} {n : Nat} {P : Nat → Value → Prop} {St : Nat → Heap → Prop} {S : List (Addr × Obj) → Prop} {news : List (Addr × Obj)}
    {Fin : List Value → List (Addr × Obj) → Prop} {RR : Value → Addr → Result → Shared → Prop}
    (W : Walks prog w A I fp [I] n P St) (hsz : n ≤ sizeLine) (hIo : ∀ i h, St i h → ∃ o, h.get? I = some o)
    (hSt : ∀ i h h' o nw, St i h → h.get? I = some o → h'.get? I = some o → (∀ b o, h₀.get? b = some o → h'.get? b = some o) → News h₀ L h' nw → S nw → St i h')
    (hcells : ∀ k, cellsFrom k scope.names cl = (x, k) :: cl) (hpush : ∀ h, pushCells h scope.names = h.push { cls := .type "cell", data := .cell none }) (hkind : scope.kind = .function) (hx : scope.names.lookup x = some .cell)
    (hst : St 0 s₂.heap) (hfp : ∀ b ∈ fp, b < s₂.heap.objs.size)
    (F : Fr h₀ L s₂.heap m) (N : News h₀ L s₂.heap news) (hIL : L ≠ I) (hI₀ : h₀.get? I = none) (off : ∀ p ∈ news, p.1 ≠ I) (hS : S news)
    (R : CRest prog w A h₀ L m env elt x scope cl s₂ S P Fin n 0 [] news)
    (hRR : ∀ D C h tk m' ys news', Fr h₀ L h m → News h₀ L h ((D, LCg.lst ys) :: news') → (∀ p ∈ news', p.1 ≠ D) → h.Ns C m' → h₀.get? C = none → h₀.get? D = none → C ≠ L → D ≠ L → C ≠ D → (∀ p ∈ news', p.1 ≠ C) → Fin ys news' → RR (.ref D) C (.ok .next) { s₂ with heap := h, toks := tk }) :
    wpAny (model prog w) A (newList []) (fun acc s₃ => wpAny (model prog w) A (newFunctionEnv scope env.globals cl [] env.qual none .none (some env)) (fun cenv s₄ =>
      codeAny (model prog w) A (.compStart (.ListComp elt [⟨.Name x px, iter, [], 0⟩] scope pos) 0 (.ref I) acc { cenv with scope := relabel scope env }) (RR acc cenv.locals) s₄) E s₃) E s₂ := by
  refine wpAny_newObj_type ?_
  unfold newFunctionEnv
  refine wpAny_bind (wpAny_alloc ?_)
  refine wpAny_bind (wpAny_layCells _ (fun name kind cells => by cases hkc : kind == NameKind.cell <;> simp [hkc]) _ _ _ _ ?_)
  dsimp only
  rw [hcells, hpush]
  rw [List.forIn_nil]
  refine wpAny_bind (wpAny_pure (wpAny_pure ?_))
  dsimp only
  have sz1 : ∀ (h : Heap) (o : Obj), (h.push o).objs.size = h.objs.size + 1 := fun h o => Heap.size_push h o
  simp only [sz1]
  generalize hD : s₂.heap.objs.size = D
  generalize hH : ((s₂.heap.push { cls := .type "list", dict := none, data := .seq ([] : List Value).toArray }).push { cls := .type (if (some env).isSome = true then "dict" else "frame"), data := .dict #[] }).push { cls := .type "cell", data := .cell none } = H
  have old : ∀ b o, s₂.heap.get? b = some o → H.get? b = some o := fun b o e => hH ▸ Heap.get?_push_of_some _ (Heap.get?_push_of_some _ (Heap.get?_push_of_some _ e))
  have eD : H.get? D = some (LCg.lst []) := by rw [← hH, ← hD]; exact Heap.get?_push_of_some _ (Heap.get?_push_of_some _ (Heap.get?_push_size _ rfl))
  have eC : H.Ns (D + 1) (fun _ => none) := by
    have h1 : H.get? (D + 1) = some { cls := .type (if (some env).isSome = true then "dict" else "frame"), data := .dict #[] } := by
      rw [← hH, ← hD, ← sz1 s₂.heap { cls := .type "list", dict := none, data := .seq ([] : List Value).toArray }]
      exact Heap.get?_push_of_some _ (Heap.get?_push_size _ rfl)
    exact ⟨_, #[], 0, h1, rfl, ⟨fun e he => by simp at he, fun _ => rfl⟩⟩
  have ec : H.IsCell (D + 1 + 1) none := by
    have h1 : H.get? (D + 1 + 1) = some { cls := .type "cell", data := .cell none } := by
      rw [← hH, ← hD, ← sz1 s₂.heap { cls := .type "list", dict := none, data := .seq ([] : List Value).toArray }, ← sz1 _ { cls := .type (if (some env).isSome = true then "dict" else "frame"), data := .dict #[] }]
      exact Heap.get?_push_size _ rfl
    exact ⟨_, h1, rfl⟩
  have lt : ∀ {b o}, s₂.heap.get? b = some o → @LT.lt Nat _ b D := fun e => hD ▸ Heap.lt_size e
  have fresh₀ : ∀ a, @LE.le Nat _ D a → h₀.get? a = none := fun a ha => by
    cases e : h₀.get? a with
    | none => rfl
    | some o' => exact absurd (lt (F.keep a o' e)) (Nat.not_lt.mpr ha)
  have hLlt : @LT.lt Nat _ L D := hD ▸ F.ns.lt
  have hfp' : ∀ b ∈ fp, @LT.lt Nat _ b D := fun b hb => hD ▸ hfp b hb
  have hIlt : @LT.lt Nat _ I D := hfp' I (W.sub I (List.mem_singleton.mpr rfl))
  have hst₁ : St 0 H := W.frame _ _ _ hst fun b _ o e => old b o e
  generalize hc : D + 1 + 1 = c at ec ⊢
  generalize hC : D + 1 = C at eC ⊢
  have hCe : C = D + 1 := hC.symm
  have hce : c = D + 2 := hc.symm
  have hC' : D + 1 + 1 = c := hc
  have off₀ : COff I C c D news := fun p hp => ⟨off p hp, by have := lt (N p hp).1; first | omega | k_ne, by have := lt (N p hp).1; first | omega | k_ne, by have := lt (N p hp).1; first | omega | k_ne⟩
  have loop : ∀ s₃ : Shared, s₃ = { s₂ with heap := H } →
      codeAny (model prog w) A (.compLoop (.ListComp elt [⟨.Name x px, iter, [], 0⟩] scope pos) 0 (.ref I) (.ref D) (compEnvC scope ((x, c) :: cl) C env)) (RR (.ref D) C) s₃ := by
    rintro s₃ rfl
    refine codeAny_compLoop_tests
      (fun k s' => ∃ h' tk i ys v₀ news', s' = { s₂ with heap := h', toks := tk } ∧ i ≤ n ∧ k = n + 1 - i ∧ ys.length = i ∧ St i h' ∧ Fr h₀ L h' m ∧ h'.Ns C (fun _ => none) ∧ h'.IsCell c v₀ ∧ News h₀ L h' ((D, LCg.lst ys) :: news') ∧
        COff I C c D news' ∧ S news' ∧ CRest prog w A h₀ L m env elt x scope cl s₂ S P Fin (n - i) i ys news') ?_ (n + 1)
      ⟨H, _, 0, [], none, news, rfl, Nat.zero_le _, rfl, rfl, hst₁, F.keeps old, eC, ec, fun p hp => ?_, off₀, hS, R⟩
    · intro k s' h92
      refine byG (fun P9 hP9 => ?_)
      obtain ⟨h', tk, i, ys, v₀, news', rfl, hi, rfl, hyl, hst', F', hn', hcl', N', off', hS', R'⟩ := h92
      refine hP9 ?_
      clear hP9 P9
      have keepI : ∀ {h₂ : Heap} {b : Addr}, (∀ b o, b ∉ [I] → h'.get? b = some o → h₂.get? b = some o) → b ≠ I → ∀ o, h'.get? b = some o → h₂.get? b = some o := fun hk hb o e => hk _ o (by simpa using hb) e
      by_cases hlt : i < n
      · obtain ⟨j, hj⟩ : ∃ j, n - i = j + 1 := ⟨n - i - 1, by first | omega | k_ne⟩
        rw [hj] at R'
        refine W.item i _ _ _ hlt hst' fun v h₂ tk₂ hPv hst₂ hk₂ => ?_
        refine byG (fun P9 hP9 => ?_)
        obtain ⟨oc₀, ec₀, ed₀⟩ := hcl'
        refine hP9 ?_
        clear hP9 P9
        refine wpAny_assign_Name (wpAny_storeName_cell (by show (relabel scope env).kind = _; exact hkind) (lookup_relabel_cell hx) (by show List.lookup x ((x, c) :: cl) = _; simp) ⟨oc₀, keepI hk₂ (by first | omega | k_ne) _ ec₀, ed₀⟩ fun h₃ hv₃ hs₃ => ?_)
        refine wpAny_tests_nil ?_
        simp only [if_true]
        have hst₃ : St (i + 1) h₃ := W.frame _ _ _ hst₂ fun b hb o e => hs₃.extBut b o (by have := hfp' b hb; first | omega | k_ne) e
        obtain ⟨oI, heI⟩ := hIo _ _ hst₃
        refine byG (fun P9 hP9 => ?_)
        obtain ⟨oc, hec, hdc⟩ := hv₃
        obtain ⟨oC, esC, epC, heC', hrC⟩ := hn'
        refine hP9 ?_
        clear hP9 P9
        have heC : h₃.get? C = some oC := hs₃.extBut _ _ (by first | omega | k_ne) (keepI hk₂ (by first | omega | k_ne) _ heC')
        have F₃ : Fr h₀ L h₃ m := (LCg.fr_but F' hk₂ hIL hI₀).change hs₃ (by first | omega | k_ne) (fresh₀ _ (by first | omega | k_ne))
        have N₂ : News h₀ L h₂ ((D, LCg.lst ys) :: news') := LCg.news_but N' hk₂ fun p hp => by
          rcases List.mem_cons.mp hp with rfl | hp
          · show D ≠ I; first | omega | k_ne
          · exact (off' p hp).1
        have N₃ : News h₀ L h₃ ((I, oI) :: (C, oC) :: (c, oc) :: (D, LCg.lst ys) :: news') := fun p hp => by
          rcases List.mem_cons.mp hp with rfl | hp
          · exact ⟨heI, Ne.symm hIL, hI₀⟩
          · rcases List.mem_cons.mp hp with rfl | hp
            · exact ⟨heC, by show C ≠ L; first | omega | k_ne, fresh₀ _ (by first | omega | k_ne)⟩
            · rcases List.mem_cons.mp hp with rfl | hp
              · exact ⟨hec, by show c ≠ L; first | omega | k_ne, fresh₀ _ (by first | omega | k_ne)⟩
              · have z := N₂ p hp
                refine ⟨hs₃.extBut _ _ ?_ z.1, z.2⟩
                rcases List.mem_cons.mp hp with rfl | hp
                · show D ≠ c; first | omega | k_ne
                · exact (off' p hp).2.2.1
        refine wpAny_mono (R' v I oI C oC c oc D h₃ _ _ hPv hdc F₃ N₃ off' ⟨by first | omega | k_ne, by first | omega | k_ne, by first | omega | k_ne, by first | omega | k_ne, by first | omega | k_ne, by first | omega | k_ne⟩) (fun y s₄ h₄ => ?_) fun _ _ e => e
        refine byG (fun P9 hP9 => ?_)
        obtain ⟨h₄, tk₄, news₄, rfl, F₄, N₄, off₄, hS₄, R₄⟩ := h₄
        refine hP9 ?_
        clear hP9 P9
        have zI := (N₄ (I, oI) (by simp)).1
        have zC := (N₄ (C, oC) (by simp)).1
        have zc := (N₄ (c, oc) (by simp)).1
        have zD := (N₄ (D, LCg.lst ys) (by simp)).1
        have N₄' : News h₀ L h₄ news₄ := fun p hp => N₄ p (List.mem_cons_of_mem _ (List.mem_cons_of_mem _ (List.mem_cons_of_mem _ (List.mem_cons_of_mem _ hp))))
        have hst₄ : St (i + 1) h₄ := hSt _ _ _ _ _ hst₃ heI zI F₄.keep N₄' hS₄
        refine append_at (hsz := by show ys.toArray.size ≤ sizeLine; rw [List.size_toArray, hyl]; exact Nat.le_trans hi hsz) zD fun h₅ hs₅ hD₅ => ?_
        refine ⟨n + 1 - (i + 1), by first | omega | k_ne, h₅, tk₄, i + 1, ys ++ [y], some v, news₄, rfl, hlt, rfl, by rw [List.length_append, List.length_singleton, hyl], W.frame _ _ _ hst₄ fun b hb o e => hs₅.extBut b o (by have := hfp' b hb; first | omega | k_ne) e,
          F₄.change hs₅ (by first | omega | k_ne) (fresh₀ _ (by first | omega | k_ne)), ⟨oC, esC, epC, hs₅.extBut _ _ (by first | omega | k_ne) zC, hrC⟩, ⟨oc, hs₅.extBut _ _ (by first | omega | k_ne) zc, hdc⟩, fun p hp => ?_, off₄, hS₄, ?_⟩
        · rcases List.mem_cons.mp hp with rfl | hp
          · exact ⟨hD₅.trans (congrArg some (LCg.lst_snoc ys y)), by show D ≠ L; first | omega | k_ne, fresh₀ _ (Nat.le_refl _)⟩
          · exact ⟨hs₅.extBut _ _ (off₄ p hp).2.2.2 (N₄' p hp).1, (N₄' p hp).2⟩
        · rw [show n - (i + 1) = j by first | omega | k_ne]
          exact R₄
      · obtain rfl : i = n := Nat.le_antisymm hi (Nat.not_lt.mp hlt)
        rw [Nat.sub_self] at R'
        refine W.done _ _ _ hst' fun h₂ tk₂ hk₂ => ?_
        refine hRR D C h₂ tk₂ _ ys news' (LCg.fr_but F' hk₂ hIL hI₀) (LCg.news_but N' hk₂ fun p hp => ?_) (fun p hp => (off' p hp).2.2.2) (hn'.at' fun o e => keepI hk₂ (by first | omega | k_ne) o e) (fresh₀ _ (by first | omega | k_ne)) (fresh₀ _ (Nat.le_refl _)) (by first | omega | k_ne) (by first | omega | k_ne) (by first | omega | k_ne) (fun p hp => (off' p hp).2.1) R'
        rcases List.mem_cons.mp hp with rfl | hp
        · show D ≠ I; first | omega | k_ne
        · exact (off' p hp).1
    · rcases List.mem_cons.mp hp with rfl | hp
      · exact ⟨eD, by show D ≠ L; first | omega | k_ne, fresh₀ _ (Nat.le_refl _)⟩
      · exact ⟨old _ _ (N p hp).1, (N p hp).2⟩
  exact codeAny_compStart_list (loop _ rfl) (W.self 0 _ _ _ hst₁ (loop _ rfl))
theorem off1_of {D : Addr} : ∀ {l : List (Addr × Obj)}, (∀ p ∈ l, p.1 ≠ D) → LCg.Off1 D l
  | [], _ => trivial
  | p :: r, h => ⟨h p List.mem_cons_self, off1_of fun q hq => h q (List.mem_cons_of_mem _ hq)⟩
noncomputable def CSrc (prog : Program) (w : World) (A : Around) (h₀ : Heap) (L : Addr) (m : Str → Option Value) (env : Env) (elt : Expr) (x : Str) (scope : Scope) (cl : List (Str × Addr)) (Fin : Shared → List Value → List (Addr × Obj) → Prop) (xv : Value) (s₁ : Shared) : Prop :=
  (∃ ax its news, xv = .ref ax ∧ A.handled = none ∧ Fr h₀ L s₁.heap m ∧ News h₀ L s₁.heap news ∧ LCg.SrcAt h₀ ax its news ∧ its.size ≤ sizeLine ∧
    ∀ g, CRest prog w A h₀ L m env elt x scope cl { s₁ with heap := g } (LCg.SrcAt h₀ ax its) (fun i v => its[i]? = some v) (Fin { s₁ with heap := g }) its.size 0 [] news) ∨
  (∃ r a b t u v n news, xv = .ref r ∧ A.handled = none ∧ Fr h₀ L s₁.heap m ∧ News h₀ L s₁.heap news ∧ IsRange s₁.heap r a b 1 t u v ∧ Builtin.Range.small a b 1 = true ∧ Builtin.Range.rangeSize a b 1 = ((n : Nat) : Int) ∧ n ≤ sizeLine ∧
    ∀ g, CRest prog w A h₀ L m env elt x scope cl { s₁ with heap := g } (fun _ => True) (fun i v => ∃ t, v = .int (a + (i : Int)) t) (Fin { s₁ with heap := g }) n 0 [] news)
theorem CSrc.ledger {elt : Expr} {x : Str} {scope : Scope} {cl : List (Str × Addr)} {Fin : Shared → List Value → List (Addr × Obj) → Prop} {ax : Addr} {its : Array Value} {k : Nat} {news : List (Addr × Obj)} {s₁ : Shared}
    (hh : A.handled = none) (F : Fr h₀ L s₁.heap m) (N : News h₀ L s₁.heap news) (hm : (ax, ({ cls := .type "list", data := .seq its k } : Obj)) ∈ news) (hsz : its.size ≤ sizeLine)
    (h : ∀ g, CRest prog w A h₀ L m env elt x scope cl { s₁ with heap := g } (LCg.SrcAt h₀ ax its) (fun i v => its[i]? = some v) (Fin { s₁ with heap := g }) its.size 0 [] news) :
    CSrc prog w A h₀ L m env elt x scope cl Fin (.ref ax) s₁ := .inl ⟨ax, its, news, rfl, hh, F, N, .inr ⟨_, hm, rfl, _, rfl⟩, hsz, h⟩
theorem CSrc.range {elt : Expr} {x : Str} {scope : Scope} {cl : List (Str × Addr)} {Fin : Shared → List Value → List (Addr × Obj) → Prop} {r : Addr} {a b : Int} {t u v : Tok} {n : Nat} {news : List (Addr × Obj)} {s₁ : Shared}
    (hh : A.handled = none) (F : Fr h₀ L s₁.heap m) (N : News h₀ L s₁.heap news) (hr : IsRange s₁.heap r a b 1 t u v) (hsm : Builtin.Range.small a b 1 = true) (hn : Builtin.Range.rangeSize a b 1 = ((n : Nat) : Int)) (hsz : n ≤ sizeLine)
    (h : ∀ g, CRest prog w A h₀ L m env elt x scope cl { s₁ with heap := g } (fun _ => True) (fun i v => ∃ t, v = .int (a + (i : Int)) t) (Fin { s₁ with heap := g }) n 0 [] news) :
    CSrc prog w A h₀ L m env elt x scope cl Fin (.ref r) s₁ := .inr ⟨r, a, b, t, u, v, n, news, rfl, hh, F, N, hr, hsm, hn, hsz, h⟩
theorem comp_C {elt iter : Expr} {x : Str} {px : Pos} {scope : Scope} {cl : List (Str × Addr)} {pos : Pos} {xv : Value} {s₁ : Shared} {Fin : Shared → List Value → List (Addr × Obj) → Prop} {RR : Value → Addr → Result → Shared → Prop}
    (hcells : ∀ k, cellsFrom k scope.names cl = (x, k) :: cl) (hpush : ∀ h, pushCells h scope.names = h.push { cls := .type "cell", data := .cell none }) (hkind : scope.kind = .function) (hx : scope.names.lookup x = some .cell)
    (h₁ : CSrc prog w A h₀ L m env elt x scope cl Fin xv s₁)
    (hRR : ∀ (s₂ : Shared) D C h tk m' ys news', (∃ g, s₂ = { s₁ with heap := g }) → Fr h₀ L h m → News h₀ L h ((D, LCg.lst ys) :: news') → (∀ p ∈ news', p.1 ≠ D) → h.Ns C m' → h₀.get? C = none → h₀.get? D = none → C ≠ L → D ≠ L → C ≠ D → (∀ p ∈ news', p.1 ≠ C) → Fin s₂ ys news' → RR (.ref D) C (.ok .next) { s₂ with heap := h, toks := tk }) :
    wpAny (model prog w) A (pyIter xv) (fun it s₂ => wpAny (model prog w) A (newList []) (fun acc s₃ => wpAny (model prog w) A (newFunctionEnv scope env.globals cl [] env.qual none .none (some env)) (fun cenv s₄ =>
      codeAny (model prog w) A (.compStart (.ListComp elt [⟨.Name x px, iter, [], 0⟩] scope pos) 0 it acc { cenv with scope := relabel scope env }) (RR acc cenv.locals) s₄) E s₃) E s₂) E s₁ := by
  rcases h₁ with ⟨ax, its, news, rfl, hh, F, N, S, hsz, R⟩ | ⟨r, a, b, t, u, v, n, news, rfl, hh, F, N, hr, hsm, hn, hsz, R⟩
  · have hl := S.list F.keep N
    have hlt : ax < s₁.heap.objs.size := by obtain ⟨_, e, _⟩ := hl; exact Heap.lt_size e
    refine wpAny_pyIter_list hl ?_
    have up : ∀ b o, s₁.heap.get? b = some o → (s₁.heap.push { cls := .type "list_iterator", data := .fields #[.ref ax, .int 0 0] }).get? b = some o := fun b o e => Heap.get?_push_of_some _ e
    refine block_C (Walks.list hh s₁.heap.objs.size ax (Nat.ne_of_lt hlt) its) hsz (fun i h st => by obtain ⟨o, e, _⟩ := st.1; exact ⟨o, e⟩) LCg.list_st hcells hpush hkind hx ⟨⟨_, Heap.get?_push_size _ rfl, rfl, rfl⟩, hl.push _⟩ (fun b hb => ?_)
      (F.keeps up) (N.grown up) (Nat.ne_of_lt F.ns.lt) (next_is_new F) (fun p hp => Nat.ne_of_lt (Heap.lt_size (N p hp).1)) S (R _) (fun D C h tk m' ys news' => hRR _ D C h tk m' ys news' ⟨_, rfl⟩)
    show b < (s₁.heap.push _).objs.size
    rw [Heap.size_push]
    rcases List.mem_cons.mp hb with rfl | hb
    · exact Nat.lt_succ_self _
    · rw [List.mem_singleton.mp hb]; exact Nat.lt_succ_of_lt hlt
  · refine wpAny_pyIter_range hr hsm ?_
    refine block_C (LCg.range_walks hh a n) hsz (fun i h st => ⟨_, st⟩) LCg.range_st hcells hpush hkind hx (by show IsRangeIter _ _ _ _ _; rw [hn]; simpa using Heap.get?_push_size _ rfl) (fun b hb => ?_)
      (F.keeps fun _ _ e => Heap.get?_push_of_some _ e) (N.grown fun _ _ e => Heap.get?_push_of_some _ e) (Nat.ne_of_lt F.ns.lt) (next_is_new F) (fun p hp => Nat.ne_of_lt (Heap.lt_size (N p hp).1)) trivial (R _) (fun D C h tk m' ys news' => hRR _ D C h tk m' ys news' ⟨_, rfl⟩)
    rw [List.mem_singleton.mp hb]
    show s₁.heap.objs.size < (s₁.heap.push _).objs.size
    rw [Heap.size_push]; exact Nat.lt_succ_self _
theorem ListComp_C {elt iter : Expr} {x : Str} {px : Pos} {scope : Scope} {cl : List (Str × Addr)} {pos : Pos} {Q : Value → Shared → Prop} (_F₀ : Fr h₀ L s.heap m)
    (hclos : closureFor scope env = pure cl) (hcells : ∀ k, cellsFrom k scope.names cl = (x, k) :: cl) (hpush : ∀ h, pushCells h scope.names = h.push { cls := .type "cell", data := .cell none }) (hkind : scope.kind = .function)
    (hnames : ∀ y ∈ scope.names, y.2 = .local → scope.names.lookup y.1 = some .local) (hx : scope.names.lookup x = some .cell)
    (h : wpAny (model prog w) A (eval iter env) (CSrc prog w A h₀ L m env elt x scope cl (fun s₂ => LCg.FinE h₀ L m s₂ Q)) E s)
    (hs : ∀ x, foldedSetIterable iter env x = pure x := by intro _; rfl) :
    wpAny (model prog w) A (eval (.ListComp elt [⟨.Name x px, iter, [], 0⟩] scope pos) env) Q E s := by
  rw [eval_ListComp]
  refine wpAny_comprehension_free (use := none) rfl hs hclos hkind hnames (wpAny_mono h (fun xv s₁ h₁ => ?_) fun _ _ e => e)
  refine comp_C hcells hpush hkind hx h₁ fun s₂ D C h tk m' ys news' _ F' N' o1 hn hC₀ hD₀ hCL hDL hCD offC fin => ?_
  refine ⟨m', hn, fun h'' hs'' => fin D h'' tk (F'.change hs'' hCL hC₀) (fun p hp => ?_) (off1_of o1)⟩
  refine ⟨hs''.extBut _ _ ?_ (N' p hp).1, (N' p hp).2⟩
  rcases List.mem_cons.mp hp with rfl | hp
  · exact Ne.symm hCD
  · exact offC p hp
theorem Assign_ListComp_C {elt iter : Expr} {x y : Str} {px py : Pos} {scope : Scope} {cl : List (Str × Addr)} {pos spos : Pos} {Q : Flow → Shared → Prop} (_F₀ : Fr h₀ L s.heap m) (hLe : env.locals = L)
    (hsw : swapsWith (.ListComp elt [⟨.Name x px, iter, [], 0⟩] scope pos) (some (.Name y py)) spos.line env = pure true)
    (hclos : closureFor scope env = pure cl) (hcells : ∀ k, cellsFrom k scope.names cl = (x, k) :: cl) (hpush : ∀ h, pushCells h scope.names = h.push { cls := .type "cell", data := .cell none }) (hkind : scope.kind = .function)
    (hnames : ∀ z ∈ scope.names, z.2 = .local → scope.names.lookup z.1 = some .local) (hx : scope.names.lookup x = some .cell)
    (hy : env.kindOf y = some .local) (hp : (env.scope.kind == .class || (env.scope.kind == .module && env.locals != env.globals)) = false)
    (h : wpAny (model prog w) A (eval iter env) (CSrc prog w A h₀ L m env elt x scope cl (fun s₂ => LCg.FinA h₀ L m s₂ y Q)) E s)
    (hs : ∀ x, foldedSetIterable iter env x = pure x := by intro _; rfl) :
    wpAny (model prog w) A (exec (.Assign [.Name y py] (.ListComp elt [⟨.Name x px, iter, [], 0⟩] scope pos) spos) env) Q E s := by
  subst hLe
  rw [exec_Assign_Name_used _ _ _ _ hsw]
  refine wpAny_bind (wpAny_standAt (wpAny_bind ?_))
  show wpAny _ A (do let _ ← comprehension (.ListComp elt [⟨.Name x px, iter, [], 0⟩] scope pos) scope env _ (newList []) false (eval iter env) (some (assign (.Name y py) env))) _ _ s
  refine wpAny_bind (wpAny_mono (wpAny_comprehension_free (use := some (assign (.Name y py) env)) (Q := fun _ s' => Q .next s') rfl hs hclos hkind hnames
    (wpAny_mono h (fun xv s₁ h₁ => ?_) fun _ _ e => e)) (fun _ s' hq => wpAny_pure (wpAny_pure hq)) fun _ _ e => e)
  refine comp_C hcells hpush hkind hx h₁ fun s₂ D C h' tk m' ys news' _ F' N' o1 hn hC₀ hD₀ hCL hDL hCD offC fin => ?_
  show wpAny _ A (assign (.Name y py) env (.ref D)) _ _ _
  refine wpAny_assign_Name (wpAny_storeName_local hy F'.ns (fun h₂ hn₂ hs₂ => ?_) hp)
  have hL₀ : h₀.get? env.locals = none := Heap.get?_none_of_le F'.above
  have F₂ : Fr h₀ env.locals h₂ (fun z => if z = y then some (.ref D) else m z) := ⟨hn₂, fun b o e => hs₂.extBut b o (fun q => by rw [q, hL₀] at e; cases e) (F'.keep b o e), F'.above⟩
  refine ⟨m', hn.sameBut hs₂ hCL, fun h'' hs'' => fin D h'' _ (F₂.change hs'' hCL hC₀) (fun p hp => ?_) (off1_of o1)⟩
  have z : h₂.get? p.1 = some p.2 := hs₂.extBut _ _ (N' p hp).2.1 (N' p hp).1
  refine ⟨hs''.extBut _ _ ?_ z, (N' p hp).2⟩
  rcases List.mem_cons.mp hp with rfl | hp
  · exact Ne.symm hCD
  · exact offC p hp
end
theorem drop0 {l : List (Addr × Obj)} : ∀ p ∈ l, p ∈ l := fun _ h => h
theorem drop1 {a : Addr × Obj} {l r : List (Addr × Obj)} (h : ∀ p ∈ l, p ∈ r) : ∀ p ∈ l, p ∈ a :: r := fun p hp => List.mem_cons_of_mem _ (h p hp)
section
variable {h₀ : Heap} {L I C c D : Addr} {m : Str → Option Value} {s₁ : Shared} {oI oC oc oD : Obj} {S : List (Addr × Obj) → Prop} {rest : Value → List (Addr × Obj) → Prop} {y : Value} {h' : Heap} {tk : Nat} {all news' post : List (Addr × Obj)}
theorem CEnd.intro (F : Fr h₀ L h' m) (N : News h₀ L h' all) (off : COff I C c D news') (sub : ∀ p ∈ (I, oI) :: (C, oC) :: (c, oc) :: (D, oD) :: news', p ∈ all) (hS : S news') (r : rest y news') :
    CEnd h₀ L m s₁ I oI C oC c oc D oD S rest y { s₁ with heap := h', toks := tk } := ⟨h', tk, news', rfl, F, fun p hp => N p (sub p hp), off, hS, r⟩
theorem CEnd.keep {d : Addr} {o : Obj} (F : Fr h₀ L h' m) (N : News h₀ L h' ((d, o) :: (I, oI) :: (C, oC) :: (c, oc) :: (D, oD) :: post)) (off : COff I C c D post) (hne : d ≠ I ∧ d ≠ C ∧ d ≠ c ∧ d ≠ D) (hS : S ((d, o) :: post)) (r : rest (.ref d) ((d, o) :: post)) :
    CEnd h₀ L m s₁ I oI C oC c oc D oD S rest (.ref d) { s₁ with heap := h', toks := tk } := ⟨h', tk, (d, o) :: post, rfl, F, fun p hp => N p (by
      simp only [List.mem_cons] at hp ⊢
      rcases hp with h | h | h | h | h | h <;> simp [h]), COff.cons hne off, hS, r⟩
end
end Mine
end
section
open PySem PySem.W PyProof.Rows PySem.Spec PySem.Calls PyProof.V
namespace Mine
noncomputable def Agree (S : List Str) (m m' : Str → Option Value) : Prop := ∀ z, S.contains z = false → m' z = m z
theorem Agree.eq {S : List Str} {m m' : Str → Option Value} (h : Agree S m m') : m' = fun z => if S.contains z then m' z else m z := by
  funext z
  cases e : S.contains z with
  | true => simp
  | false => simp [h z e]
section
variable {prog : Program} {w : World} {A : Around} {E : Value → Shared → Prop} {s : Shared} {env : Env} {h₀ : Heap} {target : Expr} {body : List Stmt} {Q : Flow → Shared → Prop} {ws : List (Addr × String)} {keep : List (Addr × Obj)}
theorem allObj_mono {k k' : List (Addr × Obj) → Prop} : ∀ {ws : List (Addr × String)}, (∀ its, k its → k' its) → AllObj ws k → AllObj ws k'
  | [], h, x => h _ x
  | _ :: r, h, x => fun o ho => allObj_mono (ws := r) (fun its => h _) (x o ho)
theorem items_ind {α : Type} (toI : α → Itm) (tail : List Itm) (S : List Str) (m : Str → Option Value) (Inv : List α → List (Addr × Obj) → Prop)
    (base : ∀ news (u : Str → Option Value), Inv [] news → ItemsRest prog w A E h₀ env target body Q s ws keep tail (fun z => if S.contains z then u z else m z) news)
    (step : ∀ a r news (u : Str → Option Value), Inv (a :: r) news → ∀ v h tk, (toI a).Is v h → Fr h₀ env.locals h (fun z => if S.contains z then u z else m z) → AllObj ws (fun its => News h₀ env.locals h (its ++ news) →
      wpAny (model prog w) A (assign target env v) (fun _ s₂ => wpAny (model prog w) A (execs body env) (UnrPostW h₀ env.locals { s with heap := h, toks := tk } its (fun m' n' => SubL keep n' ∧ Agree S m m' ∧ Inv r n') Q) E s₂) E { s with heap := h, toks := tk })) :
    ∀ (xs : List α) (news : List (Addr × Obj)) (m₁ : Str → Option Value), Agree S m m₁ → Inv xs news → ItemsRest prog w A E h₀ env target body Q s ws keep (xs.map toI ++ tail) m₁ news
  | [], news, m₁, ha, hi => by rw [ha.eq]; exact base news m₁ hi
  | a :: r, news, m₁, ha, hi => by
    rw [ha.eq]
    intro v h tk hv F
    refine allObj_mono (fun its hk N => ?_) (step a r news m₁ hi v h tk hv F)
    refine wpAny_mono (hk N) (fun _ s₂ h₂ => wpAny_mono h₂ (fun f s₃ h₃ => ?_) fun _ _ x => x) fun _ _ x => x
    have fin : UnrEndW h₀ env.locals { s with heap := h, toks := tk } its (fun m' n' => SubL keep n' ∧ Agree S m m' ∧ Inv r n') s₃ → UnrEndW h₀ env.locals { s with heap := h, toks := tk } its (fun m' n' => SubL keep n' ∧ ItemsRest prog w A E h₀ env target body Q s ws keep (r.map toI ++ tail) m' n') s₃ := by
      intro h90
      refine byG (fun P9 hP9 => ?_)
      obtain ⟨h', tk', m', news', e, F', N', ho, hs, hag, hin⟩ := h90
      refine hP9 ?_
      clear hP9 P9
      exact ⟨h', tk', m', news', e, F', N', ho, hs, items_ind toI tail S m Inv base step r news' m' hag hin⟩
    cases f with
    | ret v => exact h₃
    | brk => exact h₃
    | next => exact fin h₃
    | cont => exact fin h₃
theorem turn_end {h₀ : Heap} {L : Addr} {s₁ : Shared} {its all : List (Addr × Obj)} {rest : (Str → Option Value) → List (Addr × Obj) → Prop} {h' : Heap} {tk : Nat} {m' : Str → Option Value} (F : Fr h₀ L h' m') (N : News h₀ L h' all) (news' : List (Addr × Obj))
    (hI : ∀ p ∈ its, p ∈ all) (sub : ∀ p ∈ news', p ∈ all) (off : ∀ p ∈ news', ∀ q ∈ its, p.1 ≠ q.1) (r : rest m' news') : UnrEndW h₀ L s₁ its rest { s₁ with heap := h', toks := tk } :=
  ⟨h', tk, m', news', rfl, F, fun p hp => N p ((List.mem_append.mp hp).elim (hI p) (sub p)), off, r⟩
end
end Mine
end
section
open PySem PySem.W PyProof.Rows PySem.Spec PySem.Calls PyProof.V
namespace Mine
inductive All2 {α β : Type} (R : α → β → Prop) : List α → List β → Prop
  | nil : All2 R [] []
  | cons {a : α} {b : β} {as : List α} {bs : List β} : R a b → All2 R as bs → All2 R (a :: as) (b :: bs)
theorem All2.mono {α β : Type} {R R' : α → β → Prop} (h : ∀ a b, R a b → R' a b) : ∀ {as : List α} {bs : List β}, All2 R as bs → All2 R' as bs := by
  intro as bs H
  induction H with
  | nil => exact .nil
  | cons r _ ih => exact .cons (h _ _ r) ih
theorem lt4 {k : Nat} (h : k < 4) : k = 0 ∨ k = 1 ∨ k = 2 ∨ k = 3 :=
  match k, h with
  | 0, _ => .inl rfl
  | 1, _ => .inr (.inl rfl)
  | 2, _ => .inr (.inr (.inl rfl))
  | 3, _ => .inr (.inr (.inr rfl))
  | n + 4, h => absurd h (Nat.not_lt.mpr (Nat.le_add_left 4 n))
theorem nil_of {α : Type} {l : List α} (h : l.length = 0) : l = [] := List.eq_nil_of_length_eq_zero h
theorem cons_of {α : Type} {n : Nat} {l : List α} (h : l.length = n + 1) : ∃ a r, l = a :: r ∧ r.length = n := by
  cases l with
  | nil => exact absurd h (Nat.succ_ne_zero n).symm
  | cons a r => exact ⟨a, r, rfl, Nat.succ.inj h⟩
theorem len3' {α : Type} {l : List α} (h : l.length = 3) : ∃ a b c, l = [a, b, c] := by
  refine byG (fun P9 hP9 => ?_)
  obtain ⟨a, r1, rfl, h1⟩ := cons_of h
  obtain ⟨b, r2, rfl, h2⟩ := cons_of h1
  obtain ⟨c, r3, rfl, h3⟩ := cons_of h2
  refine hP9 ?_
  clear hP9 P9
  rw [nil_of h3]
  exact ⟨a, b, c, rfl⟩
theorem len4' {α : Type} {l : List α} (h : l.length = 4) : ∃ a b c d, l = [a, b, c, d] := by
  refine byG (fun P9 hP9 => ?_)
  obtain ⟨a, r1, rfl, h1⟩ := cons_of h
  obtain ⟨b, c, d, rfl⟩ := len3' h1
  refine hP9 ?_
  clear hP9 P9
  exact ⟨a, b, c, d, rfl⟩
theorem All2.inv3 {α β : Type} {R : α → β → Prop} {as : List α} {a b c : β} (h : All2 R as [a, b, c]) : ∃ x y z, as = [x, y, z] ∧ R x a ∧ R y b ∧ R z c := by
  cases h with | cons r0 h =>
  cases h with | cons r1 h =>
  cases h with | cons r2 h =>
  cases h
  exact ⟨_, _, _, rfl, r0, r1, r2⟩
theorem All2.inv4 {α β : Type} {R : α → β → Prop} {as : List α} {a b c d : β} (h : All2 R as [a, b, c, d]) : ∃ x y z w, as = [x, y, z, w] ∧ R x a ∧ R y b ∧ R z c ∧ R w d := by
  cases h with | cons r0 h =>
  refine byG (fun P9 hP9 => ?_)
  obtain ⟨x, y, z, rfl, r1, r2, r3⟩ := h.inv3
  refine hP9 ?_
  clear hP9 P9
  exact ⟨_, x, y, z, rfl, r0, r1, r2, r3⟩
theorem byP {G : Prop} (h : ∀ P : Prop, (G → P) → P) : G := h G id
theorem All2.snoc {α β : Type} {R : α → β → Prop} {a : α} {b : β} (r : R a b) : ∀ {as : List α} {bs : List β}, All2 R as bs → All2 R (as ++ [a]) (bs ++ [b])
  | _, _, .nil => .cons r .nil
  | _, _, .cons r' x => .cons r' (x.snoc r)
theorem All2.length {α β : Type} {R : α → β → Prop} : ∀ {as : List α} {bs : List β}, All2 R as bs → as.length = bs.length
  | _, _, .nil => rfl
  | _, _, .cons _ x => congrArg (· + 1) x.length
noncomputable def sg (x : Int) (c : Nat) : Int := if x < 256 then (x.fdiv (6 ^ c)).fmod 6 else ((x - 256).fdiv (6 ^ (2 - c))).fmod 6
noncomputable def SignIn (extra : List (Addr × Obj)) (v : Value) (x : Int) : Prop := ∃ d t0 t1 t2, v = .ref d ∧ (d, LCg.lst [.int (sg x 0) t0, .int (sg x 1) t1, .int (sg x 2) t2]) ∈ extra
noncomputable def SInv (I : Addr) (row : Obj) (xs : List Int) (lS c l : Addr) (r : List (Int × Tok)) (news : List (Addr × Obj)) : Prop :=
  ∃ done vs k extra oc vc, news = (lS, listOf vs.toArray k) :: (c, oc) :: (l, row) :: extra ∧ oc.data = .cell vc ∧ OwnOff extra [I, lS, c, l] ∧ All2 (SignIn extra) vs done ∧ done ++ r.map (·.1) = xs ∧ (∀ p ∈ r, 1 ≤ p.1 ∧ p.1 < 512) ∧
    (@Ne Nat I lS ∧ @Ne Nat I c ∧ @Ne Nat I l ∧ @Ne Nat lS c ∧ @Ne Nat lS l ∧ @Ne Nat c l)
end Mine
end
section
open PySem PySem.W PySem.Calls PyProof.Rows Builtin Builtin.ObjectAttr Builtin.Getset_descriptor
namespace Mine
noncomputable def makesL (K : Frag) (C : Addr) : Bool := match K.lookup C with
  | some ⟨_, _, .cls cd, sl⟩ => !cd.abstract && !cd.hasDel && (sl.toList[4]?).join == some (.builtin "list.__new__") && cd.mro == [.ref C, .type "list", .type "object"] &&
      specialIn K (.ref C) "__call__" == some (some (.builtin "type.__call__")) && instIn K (.ref C) (.type "type") == some true
  | _ => false
structure MakesL (M : Model) (h : Heap) (C : Addr) : Prop where
  obj : ∃ oc od cd sl, h.get? C = some ⟨oc, od, .cls cd, sl⟩ ∧ cd.abstract = false ∧ cd.hasDel = false ∧ cd.mro = [.ref C, .type "list", .type "object"]
  made : Looks M h (Bind.madeBy (.ref C)) (some "list.__new__")
  base : Looks M h (Bind.staticBase (.ref C)) (.ref C)
  self : Looks M h (isSubtype (.ref C) (.ref C)) true
  sub : Looks M h (isSubtype (.ref C) (.type "list")) true
  call : Looks M h (specialOf (.ref C) "__call__") (some (.builtin "type.__call__"))
  typ : Looks M h (isInstance (.ref C) (.type "type")) true
theorem makesL_of {K : Frag} {M : Model} {h : Heap} (X : K.In h) {C : Addr} (e : makesL K C = true) : MakesL M h C := by
  unfold makesL at e
  split at e
  · rename_i oc od cd sl ho
    simp only [Bool.and_eq_true, Bool.not_eq_true', beq_iff_eq] at e
    obtain ⟨⟨⟨⟨⟨e1, e2⟩, e3⟩, e4⟩, e7⟩, e8⟩ := e
    have hc : clsIn K C = some cd := by unfold clsIn; rw [ho]
    have hm : Looks M h (mroOf (.ref C)) cd.mro := (looks_clsIn X hc).andThen .now
    have made : Looks M h (Bind.madeBy (.ref C)) (some "list.__new__") := by
      intro A Q E s k q
      unfold Bind.madeBy
      refine wpAny_bind (hm A _ E s k ?_)
      rw [e4, List.forIn_cons]
      refine wpAny_bind (wpAny_bind (wpAny_bind (wpAny_bind (wpAny_loadPart (k _ _ (X _ _ ho)) (wpAny_pure ?_)))))
      dsimp only
      rw [← Array.getElem?_toList, e3]
      exact wpAny_pure (wpAny_pure (wpAny_pure q))
    refine ⟨⟨oc, od, cd, sl, X _ _ ho, e1, e2, e4⟩, made, ?_, looks_mroIn X ?_, looks_mroIn X ?_, looks_specialIn X e7, looks_instIn X e8⟩
    · intro A Q E s k q
      unfold Bind.staticBase
      refine wpAny_bind (hm A _ E s k ?_)
      rw [e4, List.forIn_cons]
      exact wpAny_bind (wpAny_bind (wpAny_bind (made A _ E s k (wpAny_pure (wpAny_pure (wpAny_pure q))))))
    · unfold mroIn; rw [hc, Option.bind_some, e4]; simp
    · unfold mroIn; rw [hc, Option.bind_some, e4]; simp
  · cases e
theorem acc_makes (p : Params) : makesL (hd.heap_1 p) 136 = true := by kernel_rfl
noncomputable abbrev accObj (C dx : Addr) (vs : Array Value) (n : Nat) : Obj := { cls := .ref C, dict := some dx, data := .seq vs n }
theorem ln_kind : builtinKind "list.__new__" = some .builtinFn := by decide +kernel
theorem ln_split : splitId "list.__new__" = some ("list", "__new__") := by decide +kernel
theorem ln_row : Manifest.signature? "list.__new__" = some ⟨.any, "list", "list", .cls, [⟨"args", .varPos, false⟩, ⟨"kwargs", .varKw, false⟩]⟩ := by kernel_rfl
theorem ln_quiet : "list.__new__".startsWith "lifetime." = false := by decide +kernel
section
variable {prog : Program} {w : World} {A : Around} {K : Frag} {C : Addr} {R : Result → Shared → Prop} {h : Heap} {g : Array GenState} {d : Drawn} {t : Nat} {os : OsState}
theorem new_L {rest : List Value} {kw : List (Str × Value)} (Y : MakesL (model prog w) h C)
    (hq : R (.ok (.ret (.ref (h.objs.size + 1)))) ⟨(h.push emptyDict).push (accObj C h.objs.size #[] 0), g, d, t, os⟩) :
    codeAny (model prog w) A (.call (.builtin "list.__new__") ⟨.ref C :: rest, kw⟩) R ⟨h, g, d, t, os⟩ := by
  refine byG (fun P9 hP9 => ?_)
  obtain ⟨⟨oc, od, cd, sl, hC, e1, e2, e4⟩, made, base, self, sub, call, typ⟩ := Y
  refine hP9 ?_
  clear hP9 P9
  refine codeAny_call_builtin_code (Code.quiet_builtin _ ln_quiet) ?_
  simp only [checkBuiltinCall, ln_kind, ln_split, ln_row]
  have here : Looks (model prog w) h (Bind.madeHere "list.__new__" (.ref C)) () := base.andThen (made.andThen (Looks.of_pure (by simp only [Option.map_some, bne_self_eq_false, Bool.false_eq_true, if_false])))
  have args : Bind.checkArgs "list.__new__" ⟨.any, "list", "list", .cls, [⟨"args", .varPos, false⟩, ⟨"kwargs", .varKw, false⟩]⟩ ⟨.ref C :: rest, kw⟩ = pure () := by kernel_rfl
  rw [args]
  repeat (first | simp only [bne_self_eq_false, Bool.false_eq_true, if_false] | lk)
  refine codeAny_builtin_stack F.entry_list_new rfl fun p st => ?_
  have hown := owner_list_new
  dsimp only
  simp only [hown]
  refine wpAny_bind (ks_wpAny_isType_cls hC rfl ?_)
  simp only [Bool.not_true, Bool.false_eq_true, if_false]
  refine wpAny_bind (sub.here ?_)
  simp only [Bool.not_true, Bool.false_eq_true, if_false]
  refine wpAny_bind (wpAny_pure ?_)
  have hd : typeHasDict (.ref C) = true := rfl
  simp only [hd, Bool.not_true, Bool.false_eq_true, if_false]
  unfold newDict
  refine wpAny_bind (wpAny_bind (wpAny_alloc (wpAny_pure ?_)))
  dsimp only
  unfold newObj
  dsimp only
  rw [if_neg (by simp)]
  show wpAny _ _ (newObjAsIs _ _ _ >>= _) _ _ _
  unfold newObjAsIs classHasDel
  have hC' := Heap.get?_push_of_some (accObj C h.objs.size #[] 0) (Heap.get?_push_of_some emptyDict hC)
  refine wpAny_bind (wpAny_bind (wpAny_alloc (wpAny_bind (wpAny_bind (wpAny_load hC' (wpAny_pure ?_))))))
  rw [e2]
  refine wpAny_pure (wpAny_pure ?_)
  show R _ _
  rw [Heap.size_push]
  exact hq
theorem make_L {rest : List Value} {kw : List (Str × Value)} {f : Addr} (X : K.In h) (hm : makesL K C = true) (hi : findIn K (.ref C) "__init__" = some (some (.ref f))) (hf : typeIn K (.ref f) = some (.type "function"))
    (hq : codeAny (model prog w) (A.under (.builtin "type.__call__" ⟨.ref C :: rest, kw⟩)) (.call (.ref f) ⟨.ref (h.objs.size + 1) :: rest, kw⟩) (InitBack (h.objs.size + 1) R) ⟨(h.push emptyDict).push (accObj C h.objs.size #[] 0), g, d, t, os⟩) :
    codeAny (model prog w) A (.call (.ref C) ⟨rest, kw⟩) R ⟨h, g, d, t, os⟩ := by
  have Y := makesL_of (M := model prog w) X hm
  have Y' := Y
  refine byG (fun P9 hP9 => ?_)
  obtain ⟨⟨oc, od, cd, sl, hC, e1, e2, e4⟩, made, base, self, sub, call, typ⟩ := Y
  refine hP9 ?_
  clear hP9 P9
  refine codeAny_of_tree ?_
  show wpAny _ _ (callAny (.ref C) _) _ _ _
  refine nd_load hC ?_
  show wpAny _ _ (callAny.viaDunder (.ref C) _) _ _ _
  unfold callAny.viaDunder
  refine wpAny_bind (call.at ?_)
  dsimp only
  rw [tc_bind]
  refine wpAny_bind (wpAny_pure (wpAny_bind (wpAny_pure ?_)))
  refine wpAny_pure (a := Fin.again (.call (.builtin "type.__call__") ⟨.ref C :: rest, kw⟩)) (And.intro rfl ?_)
  refine codeAny_call_builtin_at (Code.quiet_builtin _ (by decide +kernel)) entry_typeCall (check_slot tc_kind tc_split typ (tc_args _ _ _) ?_)
  unfold Builtin.«type.__call__»
  have hm' : Looks (model prog w) h (mroOf (.ref C)) cd.mro := ((Looks.ld (part := none) hC).andThen .now).andThen .now
  rw [e4] at hm'
  have em : ([Value.ref C, .type "list", .type "object"] : List Value).isEmpty = false := rfl
  repeat (first | simp only [e4, em, Bool.false_eq_true, if_false] | with_reducible refine wpAny_call ?_ | lk)
  refine new_L Y' ?_
  have k : ∀ b o, h.get? b = some o → ((h.push emptyDict).push (accObj C h.objs.size #[] 0)).get? b = some o := fun b o e => Heap.get?_push_of_some _ (Heap.get?_push_of_some _ e)
  have hx : ((h.push emptyDict).push (accObj C h.objs.size #[] 0)).get? (h.objs.size + 1) = some (accObj C h.objs.size #[] 0) := by heap_get
  have t1 : Looks (model prog w) ((h.push emptyDict).push (accObj C h.objs.size #[] 0)) (typeOf (.ref (h.objs.size + 1))) (.ref C) := (Looks.ld hx).andThen .now
  have s1 := self.keeps k
  have i1 := (looks_findIn (M := model prog w) X hi).keeps k
  have b1 := (bind_fn (M := model prog w) X (.ref (h.objs.size + 1)) hf).keeps k
  unfold isInstance callSpecial? specialOf
  repeat (first | with_reducible refine wpAny_call ?_ | lk)
  refine codeAny_mono hq fun r s' z => ?_
  rcases r with e | (v | _ | _ | _) <;> first | exact z | exact z.elim | skip
  obtain ⟨rfl, z⟩ := z
  exact wpAny_pure (wpAny_pure z)
end
theorem call_L {prog : Program} {w : World} {A : Around} {K : Frag} {C f : Addr} {s : Shared} {h₀ : Heap} {L : Addr} {m : Str → Option Value} {news : List (Addr × Obj)} {pos : List Value} {kw : List (Str × Value)} {Q E : Value → Shared → Prop}
    (F : Fr h₀ L s.heap m) (X₀ : K.In h₀) (N : News h₀ L s.heap news) (hm : makesL K C = true) (hi : findIn K (.ref C) "__init__" = some (some (.ref f))) (hf : typeIn K (.ref f) = some (.type "function"))
    (h : ∀ x dx h', Fr h₀ L h' m → News h₀ L h' ((x, accObj C dx #[] 0) :: (dx, dictOf [] 0) :: news) → (∀ p ∈ news, p.1 < dx) → dx < x →
      codeAny (model prog w) (A.under (.builtin "type.__call__" ⟨.ref C :: pos, kw⟩)) (.call (.ref f) ⟨.ref x :: pos, kw⟩) (InitBack x fun r s' => match r with | .ok (.ret v) => Q v s' | .ok _ => False | .error e => E e s') { s with heap := h' }) :
    wpAny (model prog w) A (call (.ref C) pos kw) Q E s := by
  obtain ⟨hh, g, d, t, os⟩ := s
  refine wpAny_call (make_L (X₀.keeps F.keep) hm hi hf ?_)
  have N' := (N.push F emptyDict).push (F.push _) (accObj C hh.objs.size #[] 0)
  rw [Heap.size_push] at N'
  exact h _ hh.objs.size _ ((F.push _).push _) N' (fun p hp => Heap.lt_size (N p hp).1) (Nat.lt_succ_self _)
end Mine
end
section
open PySem PySem.W PySem.Calls PyProof.Rows Builtin Builtin.ObjectAttr Builtin.Getset_descriptor
namespace Mine
noncomputable def overL (K : Frag) (C : Addr) : Bool := (clsIn K C).any fun cd => cd.mro == [.ref C, .type "list", .type "object"]
theorem refuse_list (self : Value) : refuseLoop self "__setattr__" [.type "list", .type "object"] = pure () := by kernel_rfl
section
variable {prog : Program} {w : World} {A : Around} {K : Frag} {C x : Addr} {s : Shared} {h₀ : Heap} {L : Addr} {m : Str → Option Value} {news : List (Addr × Obj)} {R : Result → Shared → Prop}
theorem osa_open_L {ox : Obj} {od : Option Obj} {name : Str} {tk : Tok} {v : Value} {r : Option Value} (X : K.In s.heap) (I : InstAt s.heap x ox C od) (hp : overL K C = true) (ht : takerIn K C name = some r)
    (h : ∀ b, wpAny (model prog w) A.in1 (match r with | some a => setByDescriptor a (.ref x) v | none => storeInOwnDict (.ref x) (.ref C) (.str name tk) name v b)
      (fun fin s' => match fin with | .done f => R (.ok f) s' | .again c' => c'.quiet = true ∧ codeAny (model prog w) A c' R s') (fun e s' => R (.error e) s') s) :
    codeAny (model prog w) A (.call (.builtin "object.__setattr__") ⟨[.ref x, .str name tk, v], []⟩) R s := by
  have SF := PySem.F.store_object
  obtain ⟨cd, hc, ho⟩ := any_some hp
  have em := beq_iff_eq.mp ho
  have sub : Looks (model prog w) s.heap (isInstance (.ref x) (.type "object")) true := I.type.andThen (looks_mroIn X (by unfold mroIn; rw [hc, Option.bind_some, em]; simp))
  refine codeAny_call_builtin SF.slot.plain SF.entry (@check_slot (model prog w) _ _ s "object.__setattr__" "object" "__setattr__" (.ref x) [.str name tk, v] [] _ SF.kind SF.split sub (SF.args (.ref x) (.str name tk) v) ?_)
  obtain ⟨attr, ha, hr⟩ := Option.bind_eq_some_iff.mp ht
  have hm : Looks (model prog w) s.heap (mroOf (.ref C)) cd.mro := (looks_clsIn X hc).andThen .now
  rw [em] at hm
  have L3 : Looks (model prog w) s.heap (storeTaker? attr) r := by
    cases attr with
    | none => cases hr; exact .now
    | some a =>
      obtain ⟨b, hb, rfl⟩ := Option.map_eq_some_iff.mp hr
      refine (looks_takesIn X hb).andThen ?_
      cases b <;> exact .now
  rw [osa_eq, refuse_eq]
  refine wpAny_bind (wpAny_bind (I.type.here (wpAny_bind (hm.here ?_))))
  rw [refuseLoop_ref, refuse_list]
  refine wpAny_pure (wpAny_bind (I.type.here (wpAny_bind ((looks_findIn X ha).here (wpAny_bind (L3.here ?_))))))
  exact h _
theorem osa_dict_L {ox od od' : Obj} {dx : Addr} {name : Str} {tk : Tok} {v : Value} {pre post : List (Addr × Obj)} {es : List DictEntry} {n : Nat} (F : Fr h₀ L s.heap m) (N : News h₀ L s.heap (pre ++ (dx, od) :: post)) (X : K.In s.heap)
    (I : InstAt s.heap x ox C (some od)) (hd : ox.dict = some dx) (hp : overL K C = true) (ht : takerIn K C name = some none) (hh : (clsIn K C).any (·.hasDict) = true)
    (hl : (lookIn name od).isSome = true) (h1 : ∀ p ∈ pre, p.1 ≠ dx) (h2 : ∀ p ∈ post, p.1 ≠ dx)
    (e : Obj.putName name (PyData.keyHash w.params name) (.str name s.toks) v od = od') (e' : od'.data = .dict es.toArray n) (hz : es.length ≤ 1000)
    (h : ∀ h', Fr h₀ L h' m → News h₀ L h' (pre ++ (dx, od') :: post) → R (.ok (.ret .none)) { s with heap := h', toks := s.toks + 1 }) :
    codeAny (model prog w) A (.call (.builtin "object.__setattr__") ⟨[.ref x, .str name tk, v], []⟩) R s := by
  refine osa_open_L X I hp ht fun b => ?_
  obtain ⟨cd, hc, hd'⟩ := any_some hh
  obtain ⟨U1, U2⟩ := news_upd (f := Obj.putName name (PyData.keyHash w.params name) (.str name s.toks) v) F N h1 h2 e (by obtain ⟨_, _, dd, _⟩ := od'; cases e'; rfl)
  have D := (N (dx, od) (by simp)).1
  have D' := (U2 (dx, od') (by simp)).1
  obtain ⟨hx, hcl, hn, -⟩ := I
  obtain ⟨oc, odi, oda, osl⟩ := ox
  dsimp only at hcl hd
  subst hcl hd
  refine wpAny_bind (wpAny_pure (wpAny_bind (wpAny_bind (wpAny_loadPart hx (wpAny_bind ((looks_clsIn X hc).here ?_))))))
  rw [hd']
  refine wpAny_pure (a := some dx) (wpAny_bind (wpAny_pure (wpAny_bind ?_)))
  unfold nsSet
  refine wpAny_bind (wpAny_bind (wpAny_askSetting (wpAny_pure (wpAny_bind (wpAny_mkText (wpAny_bind (wpAny_loadPart D ?_)))))))
  unfold lookIn at hl
  split at hl
  · rename_i es₀ n₀ q
    rw [q]
    dsimp only
    have c : (!es₀.any (·.key.isStr name) && es₀.any (·.refKey)) = false := by
      rw [← Array.any_toList, ← Array.any_toList]
      split at hl
      · rename_i en he
        rw [List.any_eq_true.mpr ⟨en, List.mem_of_find?_eq_some he, List.find?_some he⟩]; rfl
      · split at hl
        · cases hl
        · rename_i z; rw [Bool.not_eq_true] at z; rw [z, Bool.and_false]
    rw [aRefKeyMayBeTheName_at, c]
    refine wpAny_updatePart D ?_
    refine wpAny_bind (wpAny_lookBehind D' (by rw [e']; exact pastItsLine_dict (by rw [List.size_toArray, sizeLine_eq]; omega)) ?_)
    exact wpAny_pure (h _ U1 U2)
  · cases hl
end
section
variable {prog : Program} {w : World} {A : Around} {E : Value → Shared → Prop} {s : Shared} {K : Frag} {x C L dx : Addr} {h₀ : Heap} {m : Str → Option Value} {news news' : List (Addr × Obj)} {ox : Obj} {name : Str} {v : Value} {es es' : List DictEntry} {n n' : Nat}
theorem set_dict_L {Q : Unit → Shared → Prop} (F : Fr h₀ L s.heap m) (X₀ : K.In h₀) (N : News h₀ L s.heap news) (I : InstAt s.heap x ox C (some (dictOf es n))) (hd : ox.dict = some dx)
    (hs : findIn K (.ref C) "__setattr__" = some (some (.builtin "object.__setattr__"))) (hp : overL K C = true) (ht : takerIn K C name = some none) (hh : hasDictIn K C = true) (hl : (getL name es).isSome = true)
    (e : (putL name (PyData.keyHash w.params name) (.str name (s.toks + 1)) v es, putN name es n) = (es', n')) (U : Upd dx (dictOf es n) (dictOf es' n') news news') (hz : es'.length ≤ 1000)
    (h : ∀ h', Fr h₀ L h' m → News h₀ L h' news' → Q () { s with heap := h', toks := s.toks + 2 }) :
    wpAny (model prog w) A (setAttr (.ref x) name v) Q E s := by
  refine byG (fun P9 hP9 => ?_)
  obtain ⟨pre, post, rfl, rfl, a, b⟩ := U.split
  obtain ⟨e1, e2⟩ := Prod.mk.inj e
  refine hP9 ?_
  clear hP9 P9
  exact set_plain (X₀.keeps F.keep) I hs (osa_dict_L (s := { s with toks := s.toks + 1 }) F N (X₀.keeps F.keep) I hd hp ht hh hl a b (by rw [putName_dict, e1, e2]) rfl hz fun h' F' N' => h h' F' N')
end
theorem acc_over (p : Params) : overL (hd.heap_1 p) 136 = true := by kernel_rfl
end Mine
end
section
open PySem PySem.W PySem.Calls PyProof.Rows Builtin Builtin.ObjectAttr Builtin.Getset_descriptor
namespace Mine
theorem wd_slot : Slot "wrapper_descriptor" "__get__" "wrapper_descriptor.__get__" := .of (owner := "wrapper_descriptor") (n := "__get__") (by rw [typeLookup_type, builtinLookup_eq_fast]; kernel_rfl) (by decide +kernel) (by decide +kernel) (by decide +kernel)
  (by first | exact .inl (by decide +kernel) | exact .inr (by decide +kernel)) (by rw [isSubtype_type]; kernel_rfl)
theorem wd_entry : entryFor table "wrapper_descriptor.__get__" = some Builtin.«wrapper_descriptor.__get__» := entryFor_of_tree (by kernel_rfl)
theorem wd_args (a b c : Value) : argsOk "wrapper_descriptor.__get__" ⟨[a, b, c], []⟩ := by unfold argsOk; kernel_rfl
theorem md_slot : Slot "method_descriptor" "__get__" "method_descriptor.__get__" := .of (owner := "method_descriptor") (n := "__get__") (by rw [typeLookup_type, builtinLookup_eq_fast]; kernel_rfl) (by decide +kernel) (by decide +kernel) (by decide +kernel)
  (by first | exact .inl (by decide +kernel) | exact .inr (by decide +kernel)) (by rw [isSubtype_type]; kernel_rfl)
theorem md_entry : entryFor table "method_descriptor.__get__" = some Builtin.«method_descriptor.__get__» := entryFor_of_tree (by kernel_rfl)
theorem md_args (a b c : Value) : argsOk "method_descriptor.__get__" ⟨[a, b, c], []⟩ := by unfold argsOk; kernel_rfl
theorem ty_init : typeOf (.builtin "list.__init__") = pure (.type "wrapper_descriptor") := by show builtinType _ = _; rw [builtinType_eq_fast]; kernel_rfl
theorem ty_len : typeOf (.builtin "list.__len__") = pure (.type "wrapper_descriptor") := by show builtinType _ = _; rw [builtinType_eq_fast]; kernel_rfl
theorem ty_pop : typeOf (.builtin "list.pop") = pure (.type "method_descriptor") := by show builtinType _ = _; rw [builtinType_eq_fast]; kernel_rfl
section
variable {prog : Program} {w : World} {A : Around} {E : Value → Shared → Prop} {h : Heap} {g : Array GenState} {d : Drawn} {t : Nat} {os : OsState} {x C : Addr}
theorem cut_init : ".".intercalate ("list.__init__".cutAt '.').dropLast = "list" := by decide +kernel
theorem get_init {Q : Fin → Shared → Prop} (hI : Looks (model prog w) h (isInstance (.ref x) (.type "list")) true)
    (hq : Q (.done (.ret (.ref h.objs.size))) ⟨h.push { cls := .type "method-wrapper", data := .fields #[.builtin "list.__init__", .ref x] }, g, d, t, os⟩) :
    wpAny (model prog w) A (Builtin.«wrapper_descriptor.__get__» ⟨[.builtin "list.__init__", .ref x, .ref C], []⟩) Q E ⟨h, g, d, t, os⟩ := by
  have hI' : Looks (model prog w) h (isInstance (.ref x) (.type (".".intercalate ("list.__init__".cutAt '.').dropLast))) true := by rw [cut_init]; exact hI
  unfold Builtin.«wrapper_descriptor.__get__»
  repeat (first | lk | (unfold newFields; refine wpAny_newObj_type ?_ (by size_fits)))
  exact hq
theorem cut_len : ".".intercalate ("list.__len__".cutAt '.').dropLast = "list" := by decide +kernel
theorem get_len {Q : Fin → Shared → Prop} (hI : Looks (model prog w) h (isInstance (.ref x) (.type "list")) true)
    (hq : Q (.done (.ret (.ref h.objs.size))) ⟨h.push { cls := .type "method-wrapper", data := .fields #[.builtin "list.__len__", .ref x] }, g, d, t, os⟩) :
    wpAny (model prog w) A (Builtin.«wrapper_descriptor.__get__» ⟨[.builtin "list.__len__", .ref x, .ref C], []⟩) Q E ⟨h, g, d, t, os⟩ := by
  have hI' : Looks (model prog w) h (isInstance (.ref x) (.type (".".intercalate ("list.__len__".cutAt '.').dropLast))) true := by rw [cut_len]; exact hI
  unfold Builtin.«wrapper_descriptor.__get__»
  repeat (first | lk | (unfold newFields; refine wpAny_newObj_type ?_ (by size_fits)))
  exact hq
theorem cut_pop : ".".intercalate ("list.pop".cutAt '.').dropLast = "list" := by decide +kernel
theorem get_pop {Q : Fin → Shared → Prop} (hI : Looks (model prog w) h (isInstance (.ref x) (.type "list")) true)
    (hq : Q (.done (.ret (.ref h.objs.size))) ⟨h.push { cls := .type "builtin_function_or_method", data := .fields #[.builtin "list.pop", .ref x] }, g, d, t, os⟩) :
    wpAny (model prog w) A (Builtin.«method_descriptor.__get__» ⟨[.builtin "list.pop", .ref x, .ref C], []⟩) Q E ⟨h, g, d, t, os⟩ := by
  have hI' : Looks (model prog w) h (isInstance (.ref x) (.type (".".intercalate ("list.pop".cutAt '.').dropLast))) true := by rw [cut_pop]; exact hI
  unfold Builtin.«method_descriptor.__get__»
  repeat (first | lk | (unfold newFields; refine wpAny_newObj_type ?_ (by size_fits)))
  exact hq
end
end Mine
end
section
open PySem PySem.W PySem.Calls PyProof.Rows Builtin Builtin.ObjectAttr Builtin.Getset_descriptor
namespace Mine
noncomputable abbrev boundB (T i : String) (x : Addr) : Obj := { cls := .type T, dict := none, data := .fields #[.builtin i, .ref x], slots := #[] }
section
variable {prog : Program} {w : World} {A : Around} {E : Value → Shared → Prop} {h : Heap} {g : Array GenState} {d : Drawn} {t : Nat} {os : OsState} {so D x C : Addr} {i gid T bT : String} {l₀ l : List Value} {K : Frag} {name : Str}
structure Bound (prog : Program) (w : World) (h : Heap) (i gid T bT : String) (x C : Addr) : Prop where
  ty : typeOf (.builtin i) = pure (.type T)
  look : typeLookup (.type T) "__get__" = pure (some (.builtin gid))
  call : ∀ (A' : Around) (Q' : Value → Shared → Prop) (E' : Value → Shared → Prop) g d t os, Q' (.ref h.objs.size) ⟨h.push (boundB bT i x), g, d, t, os⟩ → wpAny (model prog w) A' (PySem.call (.builtin gid) [.builtin i, .ref x, .ref C]) Q' E' ⟨h, g, d, t, os⟩
theorem bound_init (hI : Looks (model prog w) h (isInstance (.ref x) (.type "list")) true) : Bound prog w h "list.__init__" "wrapper_descriptor.__get__" "wrapper_descriptor" "method-wrapper" x C :=
  ⟨ty_init, wd_slot.lookup, fun A' Q' E' g d t os hq => wpAny_call_entry wd_slot ty_init wd_entry (get_init hI ⟨_, rfl, hq⟩) (wd_args _ _ _)⟩
theorem bound_len (hI : Looks (model prog w) h (isInstance (.ref x) (.type "list")) true) : Bound prog w h "list.__len__" "wrapper_descriptor.__get__" "wrapper_descriptor" "method-wrapper" x C :=
  ⟨ty_len, wd_slot.lookup, fun A' Q' E' g d t os hq => wpAny_call_entry wd_slot ty_len wd_entry (get_len hI ⟨_, rfl, hq⟩) (wd_args _ _ _)⟩
theorem bound_pop (hI : Looks (model prog w) h (isInstance (.ref x) (.type "list")) true) : Bound prog w h "list.pop" "method_descriptor.__get__" "method_descriptor" "builtin_function_or_method" x C :=
  ⟨ty_pop, md_slot.lookup, fun A' Q' E' g d t os hq => wpAny_call_entry md_slot ty_pop md_entry (get_pop hI ⟨_, rfl, hq⟩) (md_args _ _ _)⟩
theorem super_gaB {tk : Tok} {Q : Fin → Shared → Prop} (Bd : Bound prog w h i gid T bT x C)
    (hso : h.get? so = some { cls := .type "super", dict := none, data := .fields #[.ref D, .ref x, .ref C], slots := #[] }) (hno : Looks (model prog w) h (opaqueClassAbove (.ref C)) none)
    (hC : Looks (model prog w) h (mroOf (.ref C)) l₀) (hl : (l₀.dropWhile (· != .ref D)).drop 1 = l) (X : K.In h)
    (hf : alongIn K name l = some (some (.builtin i))) (hxC : x ≠ C) (hn : (name == ("__class__" : Str)) = false)
    (hq : Q (.done (.ret (.ref h.objs.size))) ⟨h.push (boundB bT i x), g, d, t, os⟩) :
    wpAny (model prog w) A (Builtin.«super.__getattribute__» ⟨[.ref so, .str name tk], []⟩) Q E ⟨h, g, d, t, os⟩ := by
  have hne : (Value.ref x == Value.ref C) = false := by simp [hxC]
  have hdt : ({ cls := .type "super", dict := none, data := .fields #[.ref D, .ref x, .ref C], slots := #[] } : Obj).data = .fields #[.ref D, .ref x, .ref C] := rfl
  have f0 : (#[.ref D, .ref x, .ref C] : Array Value)[0]? = some (.ref D) := rfl
  have f1 : (#[.ref D, .ref x, .ref C] : Array Value)[1]? = some (.ref x) := rfl
  have f2 : (#[.ref D, .ref x, .ref C] : Array Value)[2]? = some (.ref C) := rfl
  have ty := Bd.ty
  have hlk := Bd.look
  unfold Builtin.«super.__getattribute__»
  repeat (first
    | (with_reducible refine wpAny_field hso hdt f0 ?_) | (with_reducible refine wpAny_field hso hdt f1 ?_) | (with_reducible refine wpAny_field hso hdt f2 ?_)
    | (with_reducible refine ks_wpAny_notOpaque hno ?_)
    | (with_reducible refine Looks.at hC ?_; rw [hl])
    | (refine ks_forIn_along X (fun _ _ => rfl) rfl ?_ hf)
    | (with_reducible refine wpAny_of_eq ty ?_)
    | (with_reducible refine wpAny_of_eq hlk ?_)
    | (with_reducible refine Bd.call _ _ _ _ _ _ _ ?_)
    | (with_reducible refine ⟨_, rfl, ?_⟩)
    | (simp only [hn, hne, Bool.or_false, Bool.false_eq_true, if_false])
    | wp_step
    | dsimp only)
  all_goals first | exact hq | skip
  all_goals trace_state
end
end Mine
end
section
open PySem PySem.W PySem.Calls PyProof.Rows Builtin Builtin.ObjectAttr Builtin.Getset_descriptor
namespace Mine
section
variable {prog : Program} {w : World} {A : Around} {E : Value → Shared → Prop} {h : Heap} {g : Array GenState} {d : Drawn} {t : Nat} {os : OsState} {so D x C : Addr} {i gid T bT : String} {l₀ l : List Value} {K : Frag} {name : Str}
theorem getMethod_superB {pl : Sem Bool} {Q : Value × List Value → Shared → Prop} (Bd : Bound prog w h i gid T bT x C)
    (hso : h.get? so = some { cls := .type "super", dict := none, data := .fields #[.ref D, .ref x, .ref C], slots := #[] }) (hno : Looks (model prog w) h (opaqueClassAbove (.ref C)) none)
    (hC : Looks (model prog w) h (mroOf (.ref C)) l₀) (hl : (l₀.dropWhile (· != .ref D)).drop 1 = l) (X : K.In h)
    (hf : alongIn K name l = some (some (.builtin i))) (hxC : x ≠ C) (hn : (name == ("__class__" : Str)) = false)
    (hq : Q (.ref h.objs.size, []) ⟨h.push (boundB bT i x), g, d, t + 1, os⟩) :
    wpAny (model prog w) A (getMethod (.ref so) name pl) Q E ⟨h, g, d, t, os⟩ := by
  have hlk := F.ks_slot_super_ga.lookup
  have hcan := F.ks_canon_super_ga
  have hT : ∀ t', (⟨h, g, d, t', os⟩ : Shared).TypeIs (.ref so) "super" := fun _ => ⟨_, hso, rfl⟩
  unfold getMethod
  refine wpAny_bind (wpAny_specialOf (hT _) hlk ?_)
  show wpAny _ _ (if (Manifest.canonical "super.__getattribute__" != "object.__getattribute__") = true then _ else _) _ _ _
  rw [if_pos hcan]
  unfold getAttr getAttrBy
  refine wpAny_bind (wpAny_bind (wpAny_mkText (wpAny_holding (wpAny_bind (wpAny_typeOf (hT _) (wpAny_bind (wpAny_of_eq hlk ?_)))))))
  show wpAny _ _ (getAttrByItsOwn (.ref so) (.str name t) (.type "super") (.builtin "super.__getattribute__") true false) _ _ _
  unfold getAttrByItsOwn hookBefore callGetattribute boundAndCalled
  refine wpAny_bind (wpAny_of_eq (show (if onTheHeap (.type "super") then typeLookup (.type "super") "__getattr__" else pure none) = pure none from rfl) ?_)
  refine wpAny_bind (wpAny_attempt (wpAny_holding ?_))
  show wpAny _ _ (bindSpecial (.builtin "super.__getattribute__") (.ref so) >>= _) _ _ _
  refine wpAny_bind (wpAny_of_eq (F.ks_slot_super_ga.bind _) ?_)
  refine wpAny_mono (Q := fun v s' => v = .ref h.objs.size ∧ s' = ⟨h.push (boundB bT i x), g, d, t + 1, os⟩) (E := fun _ _ => False)
    (wpAny_call_entry F.ks_slot_super_ga (hT _) F.ks_entry_super_ga (super_gaB Bd hso hno hC hl X hf hxC hn ⟨_, rfl, rfl, rfl⟩) (F.ks_gaArgs_super _ _)) (fun v s' hv => ?_) fun _ _ z => z.elim
  obtain ⟨rfl, rfl⟩ := hv
  exact wpAny_pure (wpAny_pure hq)
end
section
variable {prog : Program} {w : World} {A : Around} {E : Value → Shared → Prop} {s : Shared} {h₀ : Heap} {L : Addr} {m : Str → Option Value} {news : List (Addr × Obj)} {K : Frag} {x C D so : Addr} {ox : Obj} {odx : Option Obj} {name : Str} {i gid T bT : String}
theorem super_methodB {pl : Sem Bool} {Q : Value × List Value → Shared → Prop} (Bd : ∀ h, Looks (model prog w) h (isInstance (.ref x) (.type "list")) true → Bound prog w h i gid T bT x C) (F : Fr h₀ L s.heap m) (X₀ : K.In h₀) (N : News h₀ L s.heap news) (hso : (so, ks_superObj D x C) ∈ news) (I : InstAt s.heap x ox C odx) (ho : nsIn K cStatics "thirdparty.any" = some none)
    (hm : ks_superIn K C D name = some (some (.builtin i))) (hsub : mroIn K C (.type "list") = some true) (hn : (name == ("__class__" : Str)) = false)
    (h : ∀ q h', Fr h₀ L h' m → News h₀ L h' ((q, boundB bT i x) :: news) → (∀ p ∈ news, p.1 < q) → Q (.ref q, []) { s with heap := h', toks := s.toks + 1 }) : wpAny (model prog w) A (getMethod (.ref so) name pl) Q E s := by
  have X : K.In s.heap := X₀.keeps F.keep
  have hI : Looks (model prog w) s.heap (isInstance (.ref x) (.type "list")) true := I.type.andThen (looks_mroIn X hsub)
  obtain ⟨hh, g, d, t, os⟩ := s
  cases hc : clsIn K C with
  | none => unfold ks_superIn at hm; rw [hc] at hm; cases hm
  | some cd =>
    unfold ks_superIn at hm
    rw [hc] at hm
    refine getMethod_superB (Bd _ hI) (N _ hso).1 (looks_opaque X ho) (l₀ := cd.mro) ?_ rfl X hm (ks_ne X I hc) hn ?_
    · exact fun A Q E s k q => wpAny_bind ((looks_clsIn X hc) A _ E s k (wpAny_pure q))
    · obtain ⟨F', N', l'⟩ := ks_newsPush (s := ⟨hh, g, d, t, os⟩) (o := boundB bT i x) F N rfl (Heap.get?_push_at rfl rfl) (fun b o e => Heap.get?_push_of_some _ e)
      exact h _ _ F' N' l'
noncomputable def plainL (K : Frag) (C : Addr) : Bool := findIn K (.ref C) "__getattribute__" == some (some (.builtin "list.__getattribute__")) && findIn K (.ref C) "__getattr__" == some none
theorem acc_plain (p : Params) : plainL (hd.heap_1 p) 136 = true := by kernel_rfl
theorem canon_L : (Manifest.canonical "list.__getattribute__" != "object.__getattribute__") = false := by decide +kernel
theorem method_L {pl : Sem Bool} {Q : Value × List Value → Shared → Prop} {es : List DictEntry} {n : Nat} {f tf : Value} (F : Fr h₀ L s.heap m) (X₀ : K.In h₀) (I : InstAt s.heap x ox C (some (dictOf es n))) (hg : plainL K C = true)
    (hf : findIn K (.ref C) name = some (some f)) (ht : ∀ h, K.In h → Looks (model prog w) h (typeOf f) tf) (htf : (tf != .type "function" && tf != .type "method_descriptor" && tf != .type "wrapper_descriptor") = false) (hl : getL name es = some none) (h : Q (f, [.ref x]) s) : wpAny (model prog w) A (getMethod (.ref x) name pl) Q E s := by
  have X : K.In s.heap := X₀.keeps F.keep
  obtain ⟨g1, g2⟩ := Bool.and_eq_true_iff.mp hg
  have hcan := canon_L
  unfold getMethod specialOf
  refine wpAny_bind (wpAny_bind (I.type.here ((looks_findIn X (beq_iff_eq.mp g1)).here ?_)))
  dsimp only
  rw [hcan, if_neg (by decide)]
  refine wpAny_bind (wpAny_bind (I.type.here ((looks_findIn X (beq_iff_eq.mp g2)).here ?_)))
  refine wpAny_bind (wpAny_bind (I.type.here ((looks_findIn X hf).here (wpAny_bind ((ht _ X).here ?_)))))
  rw [htf, if_neg (by decide)]
  refine wpAny_bind (wpAny_loadPart I.at_ ?_)
  have hd := I.dict
  cases e : ox.dict with
  | none => exact wpAny_bind (wpAny_rule (wpAny_pure h))
  | some dx =>
    rw [e] at hd
    have hs : shadowIn (some (dictOf es n)) name = some false := by show (lookIn name (dictOf es n)).map _ = _; rw [lookIn_dict, hl]; rfl
    obtain ⟨r, a, b⟩ := Option.map_eq_some_iff.mp hs
    refine wpAny_bind (wpAny_bind (wpAny_loadPart hd ?_))
    rw [nsLook_of a]
    refine wpAny_pure ?_
    rw [b]
    exact wpAny_bind (wpAny_rule (wpAny_pure h))
theorem method_LF {pl : Sem Bool} {Q : Value × List Value → Shared → Prop} {es : List DictEntry} {n : Nat} {f : Addr} (F : Fr h₀ L s.heap m) (X₀ : K.In h₀) (I : InstAt s.heap x ox C (some (dictOf es n))) (hg : plainL K C = true)
    (hf : findIn K (.ref C) name = some (some (.ref f))) (ht : isFn K (.ref f) = true) (hl : getL name es = some none) (h : Q (.ref f, [.ref x]) s) : wpAny (model prog w) A (getMethod (.ref x) name pl) Q E s :=
  method_L F X₀ I hg hf (fun _ X => looks_typeIn X (beq_iff_eq.mp ht)) (by decide) hl h
theorem method_B {pl : Sem Bool} {Q : Value × List Value → Shared → Prop} {es : List DictEntry} {n : Nat} (F : Fr h₀ L s.heap m) (X₀ : K.In h₀) (I : InstAt s.heap x ox C (some (dictOf es n))) (hg : plainL K C = true)
    (hf : findIn K (.ref C) name = some (some (.builtin i))) (ht : typeOf (.builtin i) = pure (.type "method_descriptor")) (hl : getL name es = some none) (h : Q (.builtin i, [.ref x]) s) : wpAny (model prog w) A (getMethod (.ref x) name pl) Q E s :=
  method_L F X₀ I hg hf (fun _ _ => Looks.of_pure ht) (by decide) hl h
theorem call_bound {q : Addr} {pos : List Value} {b : Builtin} {Q : Value → Shared → Prop} (N : News h₀ L s.heap news) (hq : (q, boundB bT i x) ∈ news) (hT : (Value.type bT == Value.type "method" || Value.type bT == Value.type "builtin_function_or_method" || Value.type bT == Value.type "method-wrapper") = true)
    (hT' : (Value.type bT != Value.type "method") = true) (hquiet : (Code.builtin i ⟨.ref x :: pos, []⟩).quiet = true)
    (hc : ∀ (A' : Around) (Q' : Unit → Shared → Prop) E', Q' () s → wpAny (model prog w) A' (checkBoundCall i ⟨.ref x :: pos, []⟩) Q' E' s) (hb : entryFor table i = some b) (hpl : plainId i = true)
    (h : wpAny (model prog w) A.in1 (b ⟨.ref x :: pos, []⟩) (fun fin s' => ∃ v, fin = .done (.ret v) ∧ Q v s') E s) : wpAny (model prog w) A (call (.ref q) pos) Q E s := by
  refine wpAny_call (codeAny_of_tree ?_)
  show wpAny _ A.in1 (callAny (.ref q) _) _ _ _
  unfold callAny
  refine wpAny_bind (wpAny_load (N _ hq).1 ?_)
  dsimp only
  rw [if_pos hT]
  have q0 : (#[Value.builtin i, Value.ref x] : Array Value)[0]? = some (.builtin i) := rfl
  have q1 : (#[Value.builtin i, Value.ref x] : Array Value)[1]? = some (.ref x) := rfl
  rw [q0, q1]
  dsimp only
  rw [if_pos hT']
  refine wpAny_bind (hc _ _ _ (wpAny_pure ⟨hquiet, codeAny_builtin hb ?_⟩))
  rw [Around.under_plainId hpl _]
  refine wpAny_mono h (fun fin s' h' => ?_) fun _ _ h' => h'
  obtain ⟨v, rfl, hv⟩ := h'
  exact hv
theorem chk_init (a : Value) : checkBoundCall "list.__init__" ⟨[a], []⟩ = pure () := by kernel_rfl
theorem chk_len (a : Value) : checkBoundCall "list.__len__" ⟨[a], []⟩ = pure () := by kernel_rfl
theorem pl_init : plainId "list.__init__" = true := by decide +kernel
theorem pl_len : plainId "list.__len__" = true := by decide +kernel
theorem pl_pop : plainId "list.pop" = true := by decide +kernel
theorem en_len : entryFor table "list.__len__" = some Builtin.«list.__len__» := entryFor_of_tree (by kernel_rfl)
theorem en_pop : entryFor table "list.pop" = some Builtin.«list.pop» := entryFor_of_tree (by kernel_rfl)
theorem news_seq {news' : List (Addr × Obj)} {dx : Addr} {vs : Array Value} {n : Nat} {f : Array Value → Array Value} {vs' : Array Value} {n' : Nat} (F : Fr h₀ L s.heap m) (N : News h₀ L s.heap news) (U : Upd x (accObj C dx vs n) (accObj C dx vs' n') news news') (e : f vs = vs') (en : n' = if vs'.size == vs.size then n else n + 1) :
    Fr h₀ L (s.heap.update x (Obj.mapSeq f)) m ∧ News h₀ L (s.heap.update x (Obj.mapSeq f)) news' := by
  obtain ⟨pre, post, rfl, rfl, a, b⟩ := U.split
  exact news_upd (f := Obj.mapSeq f) F N a b (by subst e; subst en; rfl) rfl
theorem init_B {q dx : Addr} {news' : List (Addr × Obj)} {n : Nat} {Q : Value → Shared → Prop} (F : Fr h₀ L s.heap m) (N : News h₀ L s.heap news) (hq : (q, boundB "method-wrapper" "list.__init__" x) ∈ news) (U : Upd x (accObj C dx #[] n) (accObj C dx #[] n) news news')
    (h : ∀ h', Fr h₀ L h' m → News h₀ L h' news' → Q .none { s with heap := h' }) : wpAny (model prog w) A (call (.ref q) []) Q E s := by
  have hx : (x, accObj C dx #[] n) ∈ news := by obtain ⟨pre, post, rfl, -, -, -⟩ := U.split; simp
  refine call_bound N hq (by decide) (by decide) (plainId_quiet pl_init _) (fun A' Q' E' q => wpAny_of_eq (chk_init _) q) PySem.F.entry_list_init pl_init ?_
  obtain ⟨F', N'⟩ := news_seq (f := fun _ => (#[] : Array Value)) F N U rfl rfl
  have k := h _ F' N'
  show wpAny _ A.in1 (do let old ← Builtin.List.listItems (.ref x); Builtin.List.listUpdate (.ref x) (fun _ => #[]); letGo old.toList.reverse; ret .none) _ _ s
  exact wpAny_bind (listItems_at (N _ hx).1 rfl (wpAny_bind (listUpdate_at (N _ hx).1 rfl (wpAny_bind (wpAny_letGo (wpAny_pure ⟨_, rfl, k⟩))))))
theorem len_B {q dx : Addr} {vs : Array Value} {n : Nat} {Q : Value → Shared → Prop} (F : Fr h₀ L s.heap m) (N : News h₀ L s.heap news) (hq : (q, boundB "method-wrapper" "list.__len__" x) ∈ news) (hx : (x, accObj C dx vs n) ∈ news)
    (h : Q (.int vs.size s.toks) { s with toks := s.toks + 1 }) : wpAny (model prog w) A (call (.ref q) []) Q E s := by
  refine call_bound N hq (by decide) (by decide) (plainId_quiet pl_len _) (fun A' Q' E' q => wpAny_of_eq (chk_len _) q) en_len pl_len ?_
  show wpAny _ A.in1 (seqSize x >>= fun n => retInt (n : Int)) _ _ s
  unfold seqSize
  refine wpAny_bind (wpAny_bind (wpAny_loadPart (N _ hx).1 (wpAny_pure ?_)))
  exact wpAny_bind (wpAny_mkInt (wpAny_pure ⟨_, rfl, h⟩))
theorem app_kind : builtinKind "list.append" = some .method := by decide +kernel
theorem app_split : splitId "list.append" = some ("list", "append") := by decide +kernel
theorem app_row : Manifest.signature? "list.append" = some ⟨.oneArg, "list.append", "append", .self, [⟨"object", .posOnly, true⟩]⟩ := by kernel_rfl
theorem pop_kind : builtinKind "list.pop" = some .method := by decide +kernel
theorem pop_row : Manifest.signature? "list.pop" = some ⟨.positional, "list.pop", "pop", .self, [⟨"index", .posOnly, false⟩]⟩ := by kernel_rfl
theorem append_B {dx : Addr} {vs : Array Value} {n : Nat} {v : Value} {news' : List (Addr × Obj)} {Q : Value → Shared → Prop} (F : Fr h₀ L s.heap m) (X₀ : K.In h₀) (N : News h₀ L s.heap news) (I : InstAt s.heap x ox C odx) (hsub : mroIn K C (.type "list") = some true) (U : Upd x (accObj C dx vs n) (accObj C dx (vs.push v) (n + 1)) news news') (hz : vs.size ≤ sizeLine)
    (h : ∀ h', Fr h₀ L h' m → News h₀ L h' news' → Q .none { s with heap := h' }) : wpAny (model prog w) A (call (.builtin "list.append") [.ref x, v]) Q E s := by
  have hx : (x, accObj C dx vs n) ∈ news := by obtain ⟨pre, post, rfl, -, -, -⟩ := U.split; simp
  have hI : Looks (model prog w) s.heap (isInstance (.ref x) (.type "list")) true := I.type.andThen (looks_mroIn (X₀.keeps F.keep) hsub)
  have ne : ((vs.push v).size == vs.size) = false := by simp
  obtain ⟨F', N'⟩ := news_seq (f := (·.push v)) F N U rfl (by rw [ne]; rfl)
  have k := h _ F' N'
  refine wpAny_call (codeAny_call_builtin PySem.F.slot_list_append.plain PySem.F.entry_list_append ?_)
  have args : argsOk "list.append" ⟨[.ref x, v], []⟩ := PySem.F.args_list_append_2 _ _
  simp only [checkBuiltinCall, app_kind, app_split]
  refine wpAny_bind (hI.here ?_)
  simp only [Bool.not_true, Bool.false_eq_true, if_false]
  have e2 : Bind.checkArgs "list.append" ⟨.oneArg, "list.append", "append", .self, [⟨"object", .posOnly, true⟩]⟩ ⟨[.ref x, v], []⟩ = pure () := by kernel_rfl
  rw [app_row]
  show wpAny _ _ (Bind.checkArgs "list.append" ⟨.oneArg, "list.append", "append", .self, [⟨"object", .posOnly, true⟩]⟩ ⟨[.ref x, v], []⟩) _ _ _
  rw [e2]
  refine wpAny_pure ?_
  show wpAny _ _ (updateSeq x (·.push v) >>= fun _ => ret .none) _ _ s
  exact wpAny_bind (wpAny_updateSeq (N _ hx).1 rfl (wpAny_pure k) hz (by rw [Array.size_push]; omega))
theorem pop_B {q dx : Addr} {vs : Array Value} {n : Nat} {v : Value} {cd : ClassData} {news' : List (Addr × Obj)} {Q : Value → Shared → Prop} (F : Fr h₀ L s.heap m) (X₀ : K.In h₀) (N : News h₀ L s.heap news) (hq : (q, boundB "builtin_function_or_method" "list.pop" x) ∈ news) (U : Upd x (accObj C dx (vs.push v) n) (accObj C dx vs (n + 1)) news news') (I : InstAt s.heap x ox C odx) (hz : vs.size ≤ 1000)
    (hm : mroIn K C (.type "module") = some false) (hcd : clsIn K C = some cd) (hty : typeIn K (.ref C) = some (.type "type")) (hname : cd.qualname = Str.ofString "_Accumulator")
    (h : ∀ h', Fr h₀ L h' m → News h₀ L h' news' → Q v { s with heap := h' }) : wpAny (model prog w) A (call (.ref q) []) Q E s := by
  have X := X₀.keeps F.keep
  have hx : (x, accObj C dx (vs.push v) n) ∈ news := by obtain ⟨pre, post, rfl, -, -, -⟩ := U.split; simp
  refine call_bound N hq (by decide) (by decide) (plainId_quiet pl_pop _) (fun A' Q' E' q => ?_) en_pop pl_pop ?_
  · unfold checkBoundCall
    rw [pop_row, pop_kind]
    dsimp only
    rw [if_neg (by decide)]
    have L1 : Looks (model prog w) s.heap (isInstance (.ref x) (.type "module")) false := I.type.andThen (looks_mroIn X hm)
    refine wpAny_bind (L1.here ?_)
    rw [if_neg (by decide +kernel)]
    refine wpAny_bind (ks_wpAny_isType_inst (N _ hx).1 (fun c e => by cases e) ?_)
    (try dsimp only)
    rw [if_neg (by decide)]
    refine wpAny_bind (I.type.here ?_)
    (try dsimp only)
    refine wpAny_bind ((looks_clsIn X hcd).here ?_)
    refine wpAny_bind ((looks_typeIn X hty).here ?_)
    rw [if_pos (by rfl), hname]
    exact wpAny_of_eq (by kernel_rfl) q
  · have ne : (vs.size == (vs.push v).size) = false := by simp
    have e0 : (vs.push v).eraseIdxIfInBounds vs.size = vs := by
      apply Array.toList_inj.mp
      rw [Array.toList_eraseIdxIfInBounds, Array.toList_push, List.eraseIdx_append_of_length_le (by simp)]
      simp
    obtain ⟨F', N'⟩ := news_seq (f := fun xs => xs.eraseIdxIfInBounds vs.size) F N U e0 (by rw [ne]; rfl)
    have k := h _ F' N'
    show wpAny _ A.in1 (do
      let xs ← Builtin.List.listItems (.ref x)
      if xs.isEmpty then rule "list.pop.empty"; raiseError "IndexError" "pop from empty list"
      match (seqIndex? (-1) xs.size).bind fun k => xs[k]?.map (k, ·) with
      | some (k, x') => Builtin.List.listUpdate (.ref x) (·.eraseIdxIfInBounds k); ret x'
      | none => rule "list.pop.out-of-range"; raiseError "IndexError" "pop index out of range") _ _ s
    refine wpAny_bind (listItems_at (N _ hx).1 rfl ?_)
    rw [if_neg (by simp)]
    have e1 : (seqIndex? (-1) (vs.push v).size).bind (fun k => (vs.push v)[k]?.map (k, ·)) = some (vs.size, v) := by
      have e3 : seqIndex? (-1) (vs.push v).size = some vs.size := by
        unfold seqIndex?
        simp
        omega
      rw [e3]; simp
    rw [e1]
    exact wpAny_bind (listUpdate_at (N _ hx).1 rfl (wpAny_pure ⟨_, rfl, k⟩) (by rw [Array.size_push, sizeLine_eq]; omega) (by show ((vs.push v).eraseIdxIfInBounds vs.size).size ≤ _; rw [e0, sizeLine_eq]; omega))
end
end Mine
end
section
open PySem PySem.W PySem.Calls PyProof.Rows Builtin Builtin.ObjectAttr Builtin.Getset_descriptor
namespace Mine
noncomputable abbrev accCd : ClassData := { name := Str.ofString "_Accumulator", bases := [.type "list"], mro := [.ref 136, .type "list", .type "object"], ns := 135, qualname := Str.ofString "_Accumulator" }
theorem acc_cls (p : Params) : clsIn (hd.heap_1 p) 136 = some accCd := by kernel_rfl
theorem inst_acc {h₀ h : Heap} {L x C dx : Addr} {news : List (Addr × Obj)} {od : Obj} {vs : Array Value} {n : Nat} (N : News h₀ L h news) (h1 : (x, accObj C dx vs n) ∈ news) (h2 : (dx, od) ∈ news) :
    InstAt h x (accObj C dx vs n) C (some od) := ⟨(N _ h1).1, rfl, rfl, (N _ h2).1⟩
section
variable {prog : Program} {w : World} {M : Model} {A : Around} {E : Value → Shared → Prop} {s : Shared} {pos : Pos} {env : Env} {q x L : Addr} {i bT : String} {first : List Value} {h₀ : Heap} {news : List (Addr × Obj)} {Q : Value → Shared → Prop}
theorem keeps_B (hT : (Value.type bT == Value.type "builtin_function_or_method" || Value.type bT == Value.type "method-wrapper") = true) (hT' : (Value.type bT != Value.type "method") = true) (h : Heap) (X : h.get? q = some (boundB bT i x)) : ∃ k, (k = Keeper.frame ∨ k = Keeper.machine ∨ k = Keeper.boundFrame) ∧ Looks M h (keeperOf (.ref q)) k := by
  refine ⟨.machine, .inr (.inl rfl), (Looks.ld (part := none) X).andThen ?_⟩
  dsimp only
  rw [if_pos hT', if_pos hT]
  exact .now
theorem callWith_B0 (N : News h₀ L s.heap news) (hq : (q, boundB bT i x) ∈ news) (hT : (Value.type bT == Value.type "builtin_function_or_method" || Value.type bT == Value.type "method-wrapper") = true) (hT' : (Value.type bT != Value.type "method") = true) (h : wpAny M A (call (.ref q) (first ++ [])) Q E s) :
    wpAny M A (callWith pos (.ref q) first (backTo pos (starEach [] env)) []) Q E s :=
  callWith_of (P := fun h => h.get? q = some (boundB bT i x)) rfl (keeps_B hT hT') (evalArgs_nil3 ⟨(N _ hq).1, h⟩)
end
end Mine
end
section
open PySem PySem.W PyProof.Rows PySem.Spec PySem.Calls
namespace Mine
section
variable {prog : Program} {w : World} {A₀ A : Around} {s : Shared} {base h₀ : Heap} {outer : List Env} {L : Addr} {m : Str → Option Value} {env : Env} {pin news : List (Addr × Obj)} {K : Frag}
  {name qual : Str} {params : Arguments} {body : List Stmt} {scope : Scope} {dV kV doc pm cdv ct oc : Value} {an od : Option Addr} {osl : Array (Option Value)} {f : Addr} {vs : List Value} {binds : List (Str × Value)}
  {p : Program} {loose : List Str} {mean : ExcName → Option Value} {mg mb : Str → Option Value} {Q E : Value → Shared → Prop} {Post : Value → Obj → List (Addr × Obj) → Prop} {x cc : Addr} {o : Obj} {up : Obj → List (Addr × Obj)}
noncomputable def PinEndM (g : Heap) (L' : Addr) (s : Shared) (x : Addr) (pin : List (Addr × Obj)) (Post : Value → Obj → List (Addr × Obj) → Prop) (v : Value) (s' : Shared) : Prop :=
  ∃ tl o' m' h' tk', s' = { s with heap := h', toks := tk' } ∧ Fr g L' h' m' ∧ News g L' h' (tl ++ (x, o') :: pin) ∧ (∀ q ∈ (x, o') :: pin, ∀ p ∈ tl, p.1 ≠ q.1) ∧ Post v o' tl
noncomputable abbrev PinRetM (h₀ : Heap) (L : Addr) (m : Str → Option Value) (up : Obj → List (Addr × Obj)) (s : Shared) (Post : Value → Obj → List (Addr × Obj) → Prop) (Q : Value → Shared → Prop) : Prop :=
  ∀ v o' tl h' tk', Fr h₀ L h' m → News h₀ L h' (tl ++ up o') → NeAll tl (up o') → Post v o' tl → Q v { s with heap := h', toks := tk' }
theorem pin_backM {g : Heap} {L' : Addr} {v : Value} {s' : Shared} (F : Fr h₀ L s.heap m) (N : News h₀ L s.heap news) (hg : ∀ b o, s.heap.get? b = some o → b ∉ ((x, o) :: pin).map (·.1) → g.get? b = some o)
    (hp : ∀ p ∈ (x, o) :: pin, p ∈ news) (hg0 : ∀ b o', s.heap.get? b = some o' → b ∉ ((x, o) :: pin).map (·.1) → g.get? b = some o') (U : UpdF x o news up) (k : PinRetM h₀ L m up s Post Q) (e : PinEndM g L' s x pin Post v s') : Q v s' := by
  obtain ⟨tl, o', m', h', tk', rfl, F', N', hne, hpost⟩ := e
  have base : ∀ b o, h₀.get? b = some o → h'.get? b = some o := fun b ob e => by
    refine F'.keep b ob (hg0 b ob (F.keep b ob e) fun q => ?_)
    obtain ⟨r, hr, rfl⟩ := List.mem_map.mp q
    rw [(N r (hp r hr)).2.2] at e; cases e
  obtain ⟨oL, es, ep, hL1, hLd, hLk, hLf⟩ := F.ns
  have nL : L ∉ ((x, o) :: pin).map (·.1) := fun q => by
    obtain ⟨r, hr, e⟩ := List.mem_map.mp q
    exact (N r (hp r hr)).2.1 e
  have hgL := hg0 L oL hL1 nL
  obtain ⟨pre, post, rfl, hup, n1, n2⟩ := U.split
  have nx : ∀ q ∈ pre ++ post, q.1 ≠ x := fun q hq => (List.mem_append.mp hq).elim (n1 q) (n2 q)
  have inn : ∀ q ∈ pre ++ post, q ∈ pre ++ (x, o) :: post := fun q hq => by
    rcases List.mem_append.mp hq with h | h
    · exact List.mem_append_left _ h
    · exact List.mem_append_right _ (.tail _ h)
  have old : ∀ q ∈ pre ++ post, h'.get? q.1 = some q.2 := fun q hq => by
    by_cases hm : q.1 ∈ ((x, o) :: pin).map (·.1)
    · obtain ⟨r, hr, e⟩ := List.mem_map.mp hm
      rcases List.mem_cons.mp hr with rfl | hr'
      · exact absurd e.symm (nx q hq)
      · have h1 := (N r (hp r hr)).1
        rw [e, (N q (inn q hq)).1] at h1
        have h2 := (N' r (List.mem_append_right _ (.tail _ hr'))).1
        rw [e, ← Option.some.inj h1] at h2
        exact h2
    · exact F'.keep _ _ (hg0 _ _ (N q (inn q hq)).1 hm)
  have hup' : ∀ q, q ∈ up o' ↔ q = (x, o') ∨ q ∈ pre ++ post := fun q => by rw [hup]; simp only [List.mem_append, List.mem_cons]; grind
  have fresh : ∀ q ∈ up o', ∀ p ∈ tl, p.1 ≠ q.1 := fun q hq p hpt => by
    rcases (hup' q).mp hq with rfl | hq
    · exact hne _ (.head _) p hpt
    by_cases hm : q.1 ∈ ((x, o) :: pin).map (·.1)
    · obtain ⟨r, hr, e⟩ := List.mem_map.mp hm
      rcases List.mem_cons.mp hr with rfl | hr'
      · exact absurd e.symm (nx q hq)
      · rw [← e]; exact hne r (.tail _ hr') p hpt
    · intro e
      have h1 := (N' p (List.mem_append_left _ hpt)).2.2
      rw [e, hg0 _ _ (N q (inn q hq)).1 hm] at h1; cases h1
  refine k v o' tl h' tk' ⟨⟨oL, es, ep, F'.keep L oL hgL, hLd, hLk, hLf⟩, base, F.above⟩ (fun p hpn => ?_) fresh hpost
  have X := N (x, o) (hp _ (.head _))
  rcases List.mem_append.mp hpn with hpt | hpt
  · refine ⟨(N' p (List.mem_append_left _ hpt)).1, fun q => ?_, ?_⟩
    · have := (N' p (List.mem_append_left _ hpt)).2.2; rw [q, hgL] at this; cases this
    · cases q : h₀.get? p.1 with
      | none => rfl
      | some ob =>
        have h1 := (N' p (List.mem_append_left _ hpt)).2.2
        have h2 := F.keep _ _ q
        have h3 : p.1 ∉ ((x, o) :: pin).map (·.1) := fun hm => by
          obtain ⟨r, hr, e⟩ := List.mem_map.mp hm
          have := (N r (hp r hr)).2.2
          rw [e, q] at this; cases this
        rw [hg0 _ _ h2 h3] at h1; cases h1
  · rcases (hup' p).mp hpt with rfl | hq
    · exact ⟨(N' _ (List.mem_append_right _ (.head _))).1, X.2.1, X.2.2⟩
    · exact ⟨old p hq, (N p (inn p hq)).2.1, (N p (inn p hq)).2.2⟩
theorem pin_callM (B : Below A₀ base outer h₀) (F : Fr h₀ L s.heap m) (X₀ : K.In h₀) (N : News h₀ L s.heap news) (T : Top p loose mean mg mb h₀) (hA : A.frames = some (env :: outer)) (hf : env.frame = some L) (hke : env.scope.kind = .function)
    (ho : K.lookup f = some ⟨oc, od, .func (fnOf name qual params body scope dV kV doc pm an cdv ct), osl⟩) (hcd : codeIn K cdv qual = true) (hroom : A.depth < recursionLimit)
    (hbind : BindsTo s (fnOf name qual params body scope dV kV doc pm an cdv ct) ⟨vs, []⟩ binds) (hloc : ∀ y ∈ binds, scope.names.lookup y.1 = some .local) (hp : ∀ p ∈ (x, o) :: pin, p ∈ news) (U : UpdF x o news up) (k : PinRetM h₀ L m up s Post Q)
    (h : ∀ g L' h₁, Fr h₀ L g m → Fr g L' h₁ (fun y => binds.reverse.lookup y) → News g L' h₁ ((x, o) :: pin) → Below A base (env :: outer) g → K.In g → Top p loose mean mg mb g → (∀ p ∈ (x, o) :: pin, p.1 < L') →
      wpAny (model prog w) (A.deeper (envOf qual scope L' f cdv)) (execs body (envOf qual scope L' f cdv))
        (fun fl s' => PinEndM g L' s x pin Post (match fl with | .ret v => v | _ => .none) s')
        (fun _ _ => False)
        { s with heap := h₁, toks := s.toks + binds.length })
    (hco : scope.isCoroutine = false) (hgen : scope.isGenerator = false) (hk : scope.kind = .function)
    (hcell : ∀ x ∈ scope.names, x.2 ≠ .cell) : wpAny (model prog w) A (call (.ref f) vs) Q E s := by
  have Np : News h₀ L s.heap ((x, o) :: pin) := fun q hq => N q (hp q hq)
  obtain ⟨FG, BG, st, _⟩ := groundX (R := fun _ _ => True) B F Np hA hf hke
  refine wpAny_call (codeAny_call_def (fd := fnX name qual params body scope [] dV kV doc pm an cdv ct) (body := body) (binds := binds) hroom ((X₀.keeps F.keep) _ _ ho) rfl (T.nolimit.keeps F.keep) (codeRec_of (X₀.keeps F.keep) hcd) rfl hbind hcell hloc (fun h₁ hns hk₁ => ?_) hco hgen hk)
  refine wpAny_mono (h _ s.heap.objs.size h₁ FG ⟨hns, fun b o e => hk₁ b o (of_hideAll _ e), Nat.le_of_eq (hideAll_size _ _)⟩
    (fun q hq => ⟨hk₁ _ _ (Np q hq).1, Nat.ne_of_lt (Heap.lt_size (Np q hq).1), hideAll_none _ (List.mem_map_of_mem hq)⟩) BG (X₀.keeps st) (T.keeps st) fun q hq => Heap.lt_size (Np q hq).1) (fun fl s' e => ?_) fun _ _ x => x.elim
  have hh : ∀ b o', s.heap.get? b = some o' → b ∉ ((x, o) :: pin).map (·.1) → (hideAll s.heap (((x, o) :: pin).map (·.1))).get? b = some o' := fun b o' e n => hideAll_get _ e n
  exact pin_backM F N (fun b o' e n => hideAll_get _ e n) hp hh U k e
theorem pin_callS (B : Below A₀ base outer h₀) (F : Fr h₀ L s.heap m) (X₀ : K.In h₀) (N : News h₀ L s.heap news) (T : Top p loose mean mg mb h₀) (hA : A.frames = some (env :: outer)) (hf : env.frame = some L) (hke : env.scope.kind = .function)
    (ho : K.lookup f = some ⟨oc, od, .func (ksFn name qual params body scope dV kV doc pm an cdv ct cc), osl⟩) (hcd : codeIn K cdv qual = true) (hroom : A.depth < recursionLimit)
    (hbind : BindsTo s (ksFn name qual params body scope dV kV doc pm an cdv ct cc) ⟨vs, []⟩ binds) (hloc : ∀ y ∈ binds, scope.names.lookup y.1 = some .local) (hp : ∀ p ∈ (x, o) :: pin, p ∈ news) (U : UpdF x o news up) (k : PinRetM h₀ L m up s Post Q)
    (h : ∀ g L' h₁, Fr h₀ L g m → Fr g L' h₁ (fun y => binds.reverse.lookup y) → News g L' h₁ ((x, o) :: pin) → Below A base (env :: outer) g → K.In g → Top p loose mean mg mb g → (∀ p ∈ (x, o) :: pin, p.1 < L') →
      _root_.PySem.wpAt (model prog w) (A.deeper (ksEnv qual scope L' f cdv cc)) (.func body (ksEnv qual scope L' f cdv cc)) (execs body (ksEnv qual scope L' f cdv cc))
        (fun fl s' => PinEndM g L' s x pin Post (match fl with | .ret v => v | _ => .none) s')
        (fun _ _ => False)
        { s with heap := h₁, toks := s.toks + binds.length })
    (hco : scope.isCoroutine = false) (hgen : scope.isGenerator = false) (hk : scope.kind = .function)
    (hcell : ∀ x ∈ scope.names, x.2 ≠ .cell) : wpAny (model prog w) A (call (.ref f) vs) Q E s := by
  have Np : News h₀ L s.heap ((x, o) :: pin) := fun q hq => N q (hp q hq)
  obtain ⟨FG, BG, st, _⟩ := groundX (R := fun _ _ => True) B F Np hA hf hke
  refine wpAny_call (ks_codeAny_call_defAt (fd := ksFn name qual params body scope dV kV doc pm an cdv ct cc) (body := body) (binds := binds) hroom ((X₀.keeps F.keep) _ _ ho) rfl (T.nolimit.keeps F.keep) (codeRec_of (X₀.keeps F.keep) hcd) rfl hbind hcell hloc (fun h₁ hns hk₁ => ?_) hco hgen hk)
  refine ks_wpAt_mono (h _ s.heap.objs.size h₁ FG ⟨hns, fun b o e => hk₁ b o (of_hideAll _ e), Nat.le_of_eq (hideAll_size _ _)⟩
    (fun q hq => ⟨hk₁ _ _ (Np q hq).1, Nat.ne_of_lt (Heap.lt_size (Np q hq).1), hideAll_none _ (List.mem_map_of_mem hq)⟩) BG (X₀.keeps st) (T.keeps st) fun q hq => Heap.lt_size (Np q hq).1) (fun fl s' e => ?_) fun _ _ x => x.elim
  have hh : ∀ b o', s.heap.get? b = some o' → b ∉ ((x, o) :: pin).map (·.1) → (hideAll s.heap (((x, o) :: pin).map (·.1))).get? b = some o' := fun b o' e n => hideAll_get _ e n
  exact pin_backM F N (fun b o' e n => hideAll_get _ e n) hp hh U k e
end
noncomputable abbrev PureM (w : World) (f : Addr) (d : Nat) (vs : List Value) (x : Addr) (o : Obj) (pin : List (Addr × Obj)) (Post : Value → Obj → List (Addr × Obj) → Prop) : Prop :=
  ∀ (loose : List Str) (mean : ExcName → Option Value) (mg mb : Str → Option Value) (dp un : Nat) (gd : Option (List Code)) (cn : Str) (cs : Scope) (a : Addr) (ccd : Value) (cl : List (Str × Addr)) (outer : List Env) (A₀ : Around) (base h₀ : Heap) (L : Addr) (m : Str → Option Value) (news : List (Addr × Obj)) (up : Obj → List (Addr × Obj)) (s : Shared) (Q E : Value → Shared → Prop),
    Below A₀ base outer h₀ → Fr h₀ L s.heap m → (hd.heap_1 w.params).In h₀ → News h₀ L s.heap news → Top vw loose mean mg mb h₀ → cs.kind = .function →
    (∀ p ∈ (x, o) :: pin, p ∈ news) → UpdF x o news up → dp + d < recursionLimit → un + 8 * d < cLine → PinRetM h₀ L m up s Post Q →
    wpAny (model PySem.Challenge.pw_xg0033_01 w) (ktrTop dp un gd cn cs L a ccd cl outer) (call (.ref f) vs) Q E s
theorem PureM.use {w : World} {f : Addr} {d : Nat} {vs : List Value} {x : Addr} {o : Obj} {pin : List (Addr × Obj)} {Post : Value → Obj → List (Addr × Obj) → Prop} {loose : List Str} {mean : ExcName → Option Value} {mg mb : Str → Option Value} {dp un : Nat} {gd : Option (List Code)} {cn : Str} {cs : Scope} {a : Addr} {ccd : Value} {cl : List (Str × Addr)} {outer : List Env} {A₀ : Around} {base h₀ : Heap} {L : Addr} {m : Str → Option Value} {news : List (Addr × Obj)} {up : Obj → List (Addr × Obj)} {s : Shared} {Q E : Value → Shared → Prop}
    (P : PureM w f d vs x o pin Post) (B : Below A₀ base outer h₀) (F : Fr h₀ L s.heap m) (X : (hd.heap_1 w.params).In h₀) (N : News h₀ L s.heap news) (T : Top vw loose mean mg mb h₀) (hk : cs.kind = .function)
    (hp : ∀ p ∈ (x, o) :: pin, p ∈ news) (U : UpdF x o news up) (hd' : dp + d < recursionLimit) (hu : un + 8 * d < cLine) (ret : PinRetM h₀ L m up s Post Q) :
    wpAny (model PySem.Challenge.pw_xg0033_01 w) (ktrTop dp un gd cn cs L a ccd cl outer) (call (.ref f) vs) Q E s :=
  P _ _ _ _ _ _ _ _ _ _ _ _ _ _ _ _ _ _ _ _ _ _ _ B F X N T hk hp U hd' hu ret
theorem pinM_end {g : Heap} {L' : Addr} {s : Shared} {x : Addr} {pin news' : List (Addr × Obj)} {Post : Value → Obj → List (Addr × Obj) → Prop} {v : Value} {h' : Heap} {tk' : Nat} {m' : Str → Option Value} (tl : List (Addr × Obj)) (o' : Obj)
    (hP : Post v o' tl) (F' : Fr g L' h' m') (N' : News g L' h' news') (hs : ∀ p ∈ tl, p ∈ news') (hs' : ∀ p ∈ (x, o') :: pin, p ∈ news') (hne : ∀ q ∈ (x, o') :: pin, ∀ p ∈ tl, p.1 ≠ q.1) : PinEndM g L' s x pin Post v { s with heap := h', toks := tk' } :=
  ⟨tl, o', m', h', tk', rfl, F', fun p hp => N' p ((List.mem_append.mp hp).elim (hs p) (hs' p)), hne, hP⟩
end Mine
end
section
open PySem PySem.W PyProof.Rows PySem.Spec PySem.Calls PyProof.V
namespace Mine
noncomputable def pick3 (a b c i : Int) : Int := if i = 0 then a else if i = 1 then b else c
theorem pick3_mem {a b c i : Int} {P : Int → Prop} (ha : P a) (hb : P b) (hc : P c) : P (pick3 a b c i) := by
  unfold pick3; split
  · exact ha
  · split
    · exact hb
    · exact hc
section
variable {prog : Program} {w : World} {A : Around} {E : Value → Shared → Prop} {s : Shared} {Q : Value → Shared → Prop} {h₀ : Heap} {L : Addr} {news : List (Addr × Obj)}
theorem item3 {value slice : Expr} {l : Addr} {a b c i : Int} {ta tb tc u : Tok} {n : Nat} (N : News h₀ L s.heap news) (hm : (l, listOf #[.int a ta, .int b tb, .int c tc] n) ∈ news) (h0 : 0 ≤ i) (h1 : i < 3) (h : ∀ t, Q (.int (pick3 a b c i) t) s)
    (hs : ∀ k, subscripted slice false (.ref l) (.int k u) = operate [.ref l, .int k u] (getItem (.ref l) (.int k u)) := by intro _; with_unfolding_all rfl) :
    wpAny (model prog w) A (subscriptTail value slice (.ref l) (.int i u)) Q E s := by
  have e : i = 0 ∨ i = 1 ∨ i = 2 := by omega
  rcases e with rfl | rfl | rfl
  · exact item_here (vs := [.int a ta, .int b tb, .int c tc]) N hm (by decide) (x := .int a ta) rfl (h ta) (hs _)
  · exact item_here (vs := [.int a ta, .int b tb, .int c tc]) N hm (by decide) (x := .int b tb) rfl (h tb) (hs _)
  · exact item_here (vs := [.int a ta, .int b tb, .int c tc]) N hm (by decide) (x := .int c tc) rfl (h tc) (hs _)
end
end Mine
namespace Mine
section
variable {prog : Program} {w : World} {A : Around} {E : Value → Shared → Prop} {s : Shared} {h₀ : Heap} {L : Addr} {m : Str → Option Value} {news news' : List (Addr × Obj)}
theorem set3 {l : Addr} {a b c i x : Int} {ta tb tc u tv : Tok} {n : Nat} {Q : Unit → Shared → Prop} (F : Fr h₀ L s.heap m) (N : News h₀ L s.heap news) (h0 : 0 ≤ i) (h1 : i < 3)
    (U : Upd l (listOf #[.int a ta, .int b tb, .int c tc] n) (listOf #[.int (if i = 0 then x else a) (if i = 0 then tv else ta), .int (if i = 1 then x else b) (if i = 1 then tv else tb), .int (if i = 2 then x else c) (if i = 2 then tv else tc)] n) news news')
    (h : ∀ h', Fr h₀ L h' m → News h₀ L h' news' → Q () { s with heap := h' }) : wpAny (model prog w) A (setItem (.ref l) (.int i u) (.int x tv)) Q E s := by
  have e : i = 0 ∨ i = 1 ∨ i = 2 := by omega
  rcases e with rfl | rfl | rfl
  · exact ki_set F N (by decide) (by decide) (by rfl) U h
  · exact ki_set F N (by decide) (by decide) (by rfl) U h
  · exact ki_set F N (by decide) (by decide) (by rfl) U h
end
end Mine
end
section
open PySem PySem.W PyProof.Rows PySem.Spec PySem.Calls PyProof.V
local macro_rules | `(tactic| omega) => `(tactic| first | lia | omega +splitDisjunctions)
namespace Mine
noncomputable def chC (i : Int) : Nat := if i = 0 then 114 else if i = 1 then 103 else 98
noncomputable def tx (l : List Int) : Str := ⟨(l.map chC).toArray⟩
theorem tx_length (l : List Int) : (tx l).length = l.length := by simp [tx, PySem.Str.length]
theorem tx_append (a b : List Int) : tx a ++ tx b = tx (a ++ b) := by
  show (⟨_ ++ _⟩ : Str) = _
  simp [tx]
theorem item_rgb0 {i : Int} (h0 : 0 ≤ i) (h1 : i < 3) : Txt.item (PySem.Str.ofString "rgb") i = tx [i] := by
  have e : i = 0 ∨ i = 1 ∨ i = 2 := by omega
  rcases e with rfl | rfl | rfl <;> decide +kernel
noncomputable def Tags (l : List Int) : Prop := ∀ c ∈ l, 0 ≤ c ∧ c < 3
section
variable {prog : Program} {w : World} {A : Around} {E : Value → Shared → Prop} {s : Shared} {Q : Value → Shared → Prop} {h₀ : Heap} {L : Addr} {m : Str → Option Value} {news : List (Addr × Obj)} {value slice : PySem.Expr} {t u : Tok}
theorem item_rgb {i : Int} (h0 : 0 ≤ i) (h1 : i < 3) (h : ∀ t' k, Q (.str (tx [i]) t') { s with toks := k })
    (hs : subscripted slice false (.str (PySem.Str.ofString "rgb") t) (.int i u) = operate [.str (PySem.Str.ofString "rgb") t, .int i u] (getItem (.str (PySem.Str.ofString "rgb") t) (.int i u)) := by with_unfolding_all rfl)
    (ht : ∀ r, letTemporaryGo value (.str (PySem.Str.ofString "rgb") t) r = pure () := by intro _; with_unfolding_all rfl) :
    wpAny (model prog w) A (subscriptTail value slice (.str (PySem.Str.ofString "rgb") t) (.int i u)) Q E s := by
  have e : (PySem.Str.ofString "rgb").length = 3 := by decide +kernel
  exact KXi.item e (by omega) h1 (by decide) (fun _ => by rw [item_rgb0 h0 h1]; exact h _ _) hs ht
theorem item_tx {l : List Int} {i c : Int} (hl : l.length ≤ 100) (h0 : -(l.length : Int) ≤ i) (h1 : i < l.length) (hc : l[(if i < 0 then i + l.length else i).toNat]? = some c) (h : ∀ t' k, Q (.str (tx [c]) t') { s with toks := k })
    (hs : subscripted slice false (.str (tx l) t) (.int i u) = operate [.str (tx l) t, .int i u] (getItem (.str (tx l) t) (.int i u)) := by with_unfolding_all rfl)
    (ht : ∀ r, letTemporaryGo value (.str (tx l) t) r = pure () := by intro _; with_unfolding_all rfl) :
    wpAny (model prog w) A (subscriptTail value slice (.str (tx l) t) (.int i u)) Q E s := by
  refine KXi.item (tx_length l) h0 h1 (by omega) (fun _ => ?_) hs ht
  have e : Txt.item (tx l) i = tx [c] := by
    have hL : ((tx l).length : Int) = l.length := by rw [tx_length]
    have hh : (tx l).cps[(if i < 0 then i + (l.length : Int) else i).toNat]? = some (chC c) := by
      simp [tx, hc]
    have hs' : seqIndex? i (tx l).length = some (if i < 0 then i + (l.length : Int) else i).toNat := by
      unfold seqIndex?
      rw [hL]
      split <;> simp <;> omega
    unfold Txt.item Txt.charAt
    rw [hs', Option.bind_some, hh]
    rfl
  rw [e]; exact h _ _
theorem index_rgb {c : Int} (h0 : 0 ≤ c) (h1 : c < 3) (h : ∀ t' k, Q (.int c t') { s with toks := k }) : wpAny (model prog w) A (call (.builtin "str.index") [.str (PySem.Str.ofString "rgb") t, .str (tx [c]) u]) Q E s := by
  have e : c = 0 ∨ c = 1 ∨ c = 2 := by omega
  rcases e with rfl | rfl | rfl
  · exact SC.index (i := 0) (rest := []) (by decide +kernel) (h _ _)
  · exact SC.index (i := 1) (rest := []) (by decide +kernel) (h _ _)
  · exact SC.index (i := 2) (rest := []) (by decide +kernel) (h _ _)
theorem add_tx {a b : List Int} (hl : a.length + b.length ≤ 100) (h : ∀ t' k, Q (.str (tx (a ++ b)) t') { s with toks := k }) : wpAny (model prog w) A (binaryOp .Add (.str (tx a) t) (.str (tx b) u)) Q E s :=
  SB.add (fun t' k => by rw [tx_append]; exact h t' k) (by rw [tx_length, tx_length, sizeLine_eq]; omega)
theorem add_tx0 {b : List Int} (hl : b.length ≤ 100) (h : ∀ t' k, Q (.str (tx b) t') { s with toks := k }) : wpAny (model prog w) A (binaryOp .Add (.str (PySem.Str.ofString "") t) (.str (tx b) u)) Q E s := by
  have e : PySem.Str.ofString "" = tx [] := by decide +kernel
  rw [e]
  exact add_tx (by simpa using hl) (by simpa using h)
end
end Mine
end
section
open PySem PySem.W PyProof.Rows PySem.Spec PySem.Calls PyProof.V
namespace Mine
section
variable {prog : Program} {w : World} {A : Around} {E : Value → Shared → Prop} {s : Shared} {env : Env} {h₀ : Heap} {x : Str} {body : List Stmt} {Q : Flow → Shared → Prop}
noncomputable def mix (S : List Str) (u m : Str → Option Value) : Str → Option Value := fun z => if S.contains z then u z else m z
theorem Agree.mix {S : List Str} {m m' : Str → Option Value} (h : Agree S m m') : m' = mix S m' m := h.eq
theorem range_ind {I : Addr} {a : Int} {n : Nat} (S : List Str) (m : Str → Option Value) (Inv : Nat → (Str → Option Value) → List (Addr × Obj) → Prop)
    (base : ∀ news (u : Str → Option Value), Inv n (mix S u m) news → ∀ h tk, Fr h₀ env.locals h (mix S u m) → News h₀ env.locals h news → Q .next { s with heap := h, toks := tk })
    (step : ∀ i news (u : Str → Option Value), i < n → Inv i (mix S u m) news → ∀ t h tk, Fr h₀ env.locals h (fun y => if y = x then some (.int (a + (i : Int)) t) else mix S u m y) →
      News h₀ env.locals h ((I, itR (a + ((i + 1 : Nat) : Int)) ((n : Int) - ((i + 1 : Nat) : Int))) :: news) →
      wpAny (model prog w) A (execs body env) (UnrPost h₀ env.locals { s with heap := h, toks := tk } I (itR (a + ((i + 1 : Nat) : Int)) ((n : Int) - ((i + 1 : Nat) : Int))) (fun m' n' => Agree S m m' ∧ Inv (i + 1) m' n') Q) E { s with heap := h, toks := tk }) :
    ∀ (k i : Nat) (news : List (Addr × Obj)) (m₁ : Str → Option Value), i + k = n → Agree S m m₁ → Inv i m₁ news → RangeRest prog w A E h₀ env x body Q s I a n k i m₁ news
  | 0, i, news, m₁, he, ha, hi => by
    have e : i = n := by omega
    subst e
    intro h tk F N
    rw [ha.mix] at F hi
    exact base news m₁ hi h tk F N
  | k + 1, i, news, m₁, he, ha, hi => by
    intro t h tk F N
    rw [ha.mix] at F hi
    refine wpAny_mono (step i news m₁ (by omega) hi t h tk F N) (fun f s₃ h₃ => ?_) fun _ _ x => x
    have fin : UnrEnd h₀ env.locals { s with heap := h, toks := tk } I (itR (a + ((i + 1 : Nat) : Int)) ((n : Int) - ((i + 1 : Nat) : Int))) (fun m' n' => Agree S m m' ∧ Inv (i + 1) m' n') s₃ → UnrEnd h₀ env.locals { s with heap := h, toks := tk } I (itR (a + ((i + 1 : Nat) : Int)) ((n : Int) - ((i + 1 : Nat) : Int))) (RangeRest prog w A E h₀ env x body Q s I a n k (i + 1)) s₃ := by
      intro h90
      refine byG (fun P9 hP9 => ?_)
      obtain ⟨h', tk', m', news', e, F', N', ho, hag, hin⟩ := h90
      refine hP9 ?_
      clear hP9 P9
      exact ⟨h', tk', m', news', e, F', N', ho, range_ind S m Inv base step k (i + 1) news' m' (by omega) hag hin⟩
    cases f with
    | ret v => exact h₃
    | brk => exact h₃
    | next => exact fin h₃
    | cont => exact fin h₃
theorem rturn_end {I : Addr} {it : Obj} {L : Addr} {s₁ : Shared} {all : List (Addr × Obj)} {rest : (Str → Option Value) → List (Addr × Obj) → Prop} {h' : Heap} {tk : Nat} {m' : Str → Option Value} (F : Fr h₀ L h' m') (N : News h₀ L h' all) (news' : List (Addr × Obj))
    (hI : (I, it) ∈ all) (sub : ∀ p ∈ news', p ∈ all) (off : ∀ p ∈ news', p.1 ≠ I) (r : rest m' news') : UnrEnd h₀ L s₁ I it rest { s₁ with heap := h', toks := tk } :=
  ⟨h', tk, m', news', rfl, F, fun p hp => N p ((List.mem_cons.mp hp).elim (fun e => e ▸ hI) (sub p)), off, r⟩
end
end Mine
end
section
open PySem PySem.W PyProof.Rows PySem.Spec PySem.Calls PyProof.V
namespace Mine
section
variable {h₀ : Heap} {L I C D : Addr} {m : Str → Option Value} {s₁ : Shared} {oI oC oD : Obj} {S : List (Addr × Obj) → Prop} {rest : Value → List (Addr × Obj) → Prop} {y : Value} {h' : Heap} {tk : Nat} {post : List (Addr × Obj)}
theorem keep1 {d : Addr} {o : Obj} (F : Fr h₀ L h' m) (N : News h₀ L h' ((d, o) :: (I, oI) :: (C, oC) :: (D, oD) :: post)) (off : LCg.Off3 I C D post) (hne : @Ne Nat d I ∧ @Ne Nat d C ∧ @Ne Nat d D) (hS : S ((d, o) :: post)) (r : rest (.ref d) ((d, o) :: post)) :
    LCg.CompEnd h₀ L m s₁ I oI C oC D oD S rest (.ref d) { s₁ with heap := h', toks := tk } := ⟨h', tk, (d, o) :: post, rfl, F, fun p hp => N p (by
      simp only [List.mem_cons] at hp ⊢
      rcases hp with h | h | h | h | h <;> simp [h]), ⟨hne, off⟩, hS, r⟩
theorem keep2 {d e : Addr} {o oe : Obj} (F : Fr h₀ L h' m) (N : News h₀ L h' ((d, o) :: (e, oe) :: (I, oI) :: (C, oC) :: (D, oD) :: post)) (off : LCg.Off3 I C D post) (hne : @Ne Nat d I ∧ @Ne Nat d C ∧ @Ne Nat d D) (hne' : @Ne Nat e I ∧ @Ne Nat e C ∧ @Ne Nat e D) (hS : S ((d, o) :: (e, oe) :: post)) (r : rest (.ref d) ((d, o) :: (e, oe) :: post)) :
    LCg.CompEnd h₀ L m s₁ I oI C oC D oD S rest (.ref d) { s₁ with heap := h', toks := tk } := ⟨h', tk, (d, o) :: (e, oe) :: post, rfl, F, fun p hp => N p (by
      simp only [List.mem_cons] at hp ⊢
      rcases hp with h | h | h | h | h | h <;> simp [h]), ⟨hne, hne', off⟩, hS, r⟩
theorem allLt_all {d : Nat} : ∀ {l : List (Addr × Obj)}, AllLt d l → ∀ p ∈ l, @LT.lt Nat _ p.1 d
  | [], _, _, h => nomatch h
  | _ :: r, h, p, hp => by
    rcases List.mem_cons.mp hp with e | hp
    · rw [e]; exact h.1
    · exact allLt_all (l := r) h.2 p hp
theorem allLt_ne {d : Addr} {l : List (Addr × Obj)} (h : AllLt d l) : ∀ p ∈ l, p.1 ≠ d := fun p hp => Nat.ne_of_lt (allLt_all h p hp)
theorem off1_ne {d : Addr} : ∀ {l : List (Addr × Obj)}, LCg.Off1 d l → ∀ p ∈ l, p.1 ≠ d
  | [], _, _, h => nomatch h
  | _ :: r, h, p, hp => by
    rcases List.mem_cons.mp hp with e | hp
    · rw [e]; exact h.1
    · exact off1_ne (l := r) h.2 p hp
end
end Mine
end
section
open PySem PySem.W PyProof.Rows PySem.Spec PySem.Calls PyProof.V
namespace Mine
noncomputable def WayIn (extra : List (Addr × Obj)) (v : Value) (p : List Int × Int) : Prop := ∃ d t u, v = .ref d ∧ (d, tupO [.str (tx p.1) t, .int p.2 u]) ∈ extra
end Mine
namespace Mine
structure Row3 where
  x : Int
  y : Int
  z : Int
  t : Tok
  u : Tok
  v : Tok
  n : Nat
noncomputable abbrev Row3.obj (r : Row3) : Obj := listOf #[.int r.x r.t, .int r.y r.u, .int r.z r.v] r.n
noncomputable def mostF (spec : List (List Int × Int)) (k : Nat) (c : Int) : Int := spec.foldl (fun acc p => if acc < p.2 ∧ p.1[k]? = some c then p.2 else acc) (-1)
noncomputable def RowIs (spec : List (List Int × Int)) (k : Nat) (r : Row3) : Prop := r.x = mostF spec k 0 ∧ r.y = mostF spec k 1 ∧ r.z = mostF spec k 2
theorem mostF_snoc (spec : List (List Int × Int)) (p : List Int × Int) (k : Nat) (c : Int) : mostF (spec ++ [p]) k c = if mostF spec k c < p.2 ∧ p.1[k]? = some c then p.2 else mostF spec k c := by
  unfold mostF; rw [List.foldl_append]; rfl
section
variable {prog : Program} {w : World} {A : Around} {E : Value → Shared → Prop} {s : Shared} {env : Env} {h₀ : Heap} {target : Expr} {body : List Stmt} {Q : Flow → Shared → Prop} {ws : List (Addr × String)} {keep : List (Addr × Obj)}
theorem list_ind {β : Type} (R : Value → β → Prop) (S : List Str) (m : Str → Option Value) (Inv : List β → (Str → Option Value) → List (Addr × Obj) → Prop)
    (base : ∀ news (u : Str → Option Value), Inv [] (mix S u m) news → ∀ h tk, Fr h₀ env.locals h (mix S u m) → News h₀ env.locals h news → Q .next { s with heap := h, toks := tk })
    (step : ∀ v b r news (u : Str → Option Value), R v b → Inv (b :: r) (mix S u m) news → ∀ h tk, Fr h₀ env.locals h (mix S u m) → AllObj ws (fun its => News h₀ env.locals h (its ++ news) →
      wpAny (model prog w) A (assign target env v) (fun _ s₂ => wpAny (model prog w) A (execs body env) (UnrPostW h₀ env.locals { s with heap := h, toks := tk } its (fun m' n' => SubL keep n' ∧ Agree S m m' ∧ Inv r m' n') Q) E s₂) E { s with heap := h, toks := tk })) :
    ∀ (vs : List Value) (bs : List β) (news : List (Addr × Obj)) (m₁ : Str → Option Value), All2 R vs bs → Agree S m m₁ → Inv bs m₁ news → ItemsRest prog w A E h₀ env target body Q s ws keep (vs.map .val) m₁ news
  | _, _, news, m₁, .nil, ha, hi => by
    intro h tk F N
    rw [ha.mix] at F hi
    exact base news m₁ hi h tk F N
  | _, _, news, m₁, .cons (a := v) (b := b) (as := vs) (bs := r) hr hrs, ha, hi => by
    intro v' h tk hv F
    have hv' : v' = v := hv
    subst hv'
    rw [ha.mix] at F hi
    refine allObj_mono (fun its hk N => ?_) (step v' b r news m₁ hr hi h tk F)
    refine wpAny_mono (hk N) (fun _ s₂ h₂ => wpAny_mono h₂ (fun f s₃ h₃ => ?_) fun _ _ x => x) fun _ _ x => x
    have fin : UnrEndW h₀ env.locals { s with heap := h, toks := tk } its (fun m' n' => SubL keep n' ∧ Agree S m m' ∧ Inv r m' n') s₃ → UnrEndW h₀ env.locals { s with heap := h, toks := tk } its (fun m' n' => SubL keep n' ∧ ItemsRest prog w A E h₀ env target body Q s ws keep (vs.map .val) m' n') s₃ := by
      intro h90
      refine byG (fun P9 hP9 => ?_)
      obtain ⟨h', tk', m', news', e, F', N', ho, hs, hag, hin⟩ := h90
      refine hP9 ?_
      clear hP9 P9
      exact ⟨h', tk', m', news', e, F', N', ho, hs, list_ind R S m Inv base step vs r news' m' hrs hag hin⟩
    cases f with
    | ret v => exact h₃
    | brk => exact h₃
    | next => exact fin h₃
    | cont => exact fin h₃
end
end Mine
namespace Mine
theorem ownOff_cons {l : List (Addr × Obj)} {b : Addr} {bs : List Addr} (h : ∀ p ∈ l, p.1 ≠ b) (k : OwnOff l bs) : OwnOff l (b :: bs) := fun p hp c hc => by
  rcases List.mem_cons.mp hc with rfl | hc
  · exact h p hp
  · exact k p hp c hc
theorem ownOff_nil {l : List (Addr × Obj)} : OwnOff l [] := fun _ _ _ hc => nomatch hc
end Mine
namespace Mine
theorem Agree.set {S : List Str} {m m' : Str → Option Value} {x : Str} {v : Option Value} (hx : S.contains x = true) (h : Agree S m m') : Agree S m (fun z => if z = x then v else m' z) := fun z hz => by
  by_cases e : z = x
  · subst e; rw [hx] at hz; cases hz
  · simp only [e, if_false]; exact h z hz
theorem Agree.mix0 {S : List Str} {m u : Str → Option Value} : Agree S m (Mine.mix S u m) := fun z hz => by unfold Mine.mix; rw [hz]; rfl
theorem row_yes {done : List (List Int × Int)} {ls : List Int} {wv a x y z : Int} {k : Nat} {t u v t' u' v' : Tok} {n n' : Nat} (hr : RowIs done k ⟨x, y, z, t, u, v, n⟩) (ha : ls[k]? = some a) (hb : 0 ≤ a ∧ a < 3) (hgt : pick3 x y z a < wv) :
    RowIs (done ++ [(ls, wv)]) k ⟨if a = 0 then wv else x, if a = 1 then wv else y, if a = 2 then wv else z, t', u', v', n'⟩ := by
  refine byG (fun P9 hP9 => ?_)
  obtain ⟨e1, e2, e3⟩ := hr
  refine hP9 ?_
  clear hP9 P9
  dsimp only at e1 e2 e3
  unfold RowIs
  simp only [mostF_snoc, ha, ← e1, ← e2, ← e3, Option.some.injEq]
  unfold pick3 at hgt
  have e : a = 0 ∨ a = 1 ∨ a = 2 := by omega
  rcases e with rfl | rfl | rfl <;> simp at hgt ⊢ <;> omega
theorem row_no {done : List (List Int × Int)} {ls : List Int} {wv a x y z : Int} {k : Nat} {t u v t' u' v' : Tok} {n n' : Nat} (hr : RowIs done k ⟨x, y, z, t, u, v, n⟩) (ha : ls[k]? = some a) (hb : 0 ≤ a ∧ a < 3) (hgt : ¬ pick3 x y z a < wv) :
    RowIs (done ++ [(ls, wv)]) k ⟨x, y, z, t', u', v', n'⟩ := by
  obtain ⟨e1, e2, e3⟩ := hr
  dsimp only at e1 e2 e3
  unfold RowIs
  simp only [mostF_snoc, ha, ← e1, ← e2, ← e3, Option.some.injEq]
  unfold pick3 at hgt
  have e : a = 0 ∨ a = 1 ∨ a = 2 := by omega
  rcases e with rfl | rfl | rfl <;> simp at hgt ⊢ <;> omega
end Mine
namespace Mine
theorem Agree.mixT {S S' : List Str} {m m' u : Str → Option Value} (hs : S'.all (fun x => S.contains x) = true) (h : Agree S m m') : Agree S m (Mine.mix S' u m') := fun z hz => by
  have e : S'.contains z = false := by
    cases hc : S'.contains z with
    | false => rfl
    | true =>
      have := List.all_eq_true.mp hs z (by simpa using hc)
      rw [hz] at this; cases this
  unfold Mine.mix
  rw [e]
  exact h z hz
end Mine
end
section
open PySem PySem.W PyProof.Rows PySem.Spec PySem.Calls PyProof.V
local macro_rules | `(tactic| omega) => `(tactic| first | lia | omega +splitDisjunctions)
namespace Mine
noncomputable def pick4 (a b c d i : Int) : Int := if i = 0 then a else if i = 1 then b else if i = 2 then c else d
section
variable {prog : Program} {w : World} {A : Around} {E : Value → Shared → Prop} {s : Shared} {Q : Value → Shared → Prop} {h₀ : Heap} {L : Addr} {news : List (Addr × Obj)} {value slice : Expr}
theorem item_last {l : List Int} {c : Int} {t u : Tok} (hl : l.length ≤ 50) (h : ∀ t' k, Q (.str (tx [c]) t') { s with toks := k })
    (hs : subscripted slice false (.str (tx (l ++ [c])) t) (.int (-1) u) = operate [.str (tx (l ++ [c])) t, .int (-1) u] (getItem (.str (tx (l ++ [c])) t) (.int (-1) u)) := by with_unfolding_all rfl)
    (ht : ∀ r, letTemporaryGo value (.str (tx (l ++ [c])) t) r = pure () := by intro _; with_unfolding_all rfl) :
    wpAny (model prog w) A (subscriptTail value slice (.str (tx (l ++ [c])) t) (.int (-1) u)) Q E s := by
  refine item_tx ?_ ?_ ?_ ?_ h hs ht
  · simp; omega
  · simp; omega
  · simp; omega
  · have e : ((-1 : Int) + ((l ++ [c]).length : Int)).toNat = l.length := by simp; omega
    rw [if_pos (by decide), e]
    simp
end
noncomputable def WayL (extra : List (Addr × Obj)) (v : Value) (q : List Int × Int × Int) : Prop := WayIn extra v (q.1 ++ [q.2.1], q.2.2)
structure PM where
  a0 : Int
  b0 : Int
  c0 : Int
  a1 : Int
  b1 : Int
  c1 : Int
  a2 : Int
  b2 : Int
  c2 : Int
structure SM where
  a0 : Int
  b0 : Int
  c0 : Int
  a1 : Int
  b1 : Int
  c1 : Int
  a2 : Int
  b2 : Int
  c2 : Int
  a3 : Int
  b3 : Int
  c3 : Int
noncomputable def PM.at (p : PM) (u v : Int) : Int := pick3 (pick3 p.a0 p.a1 p.a2 u) (pick3 p.b0 p.b1 p.b2 u) (pick3 p.c0 p.c1 p.c2 u) v
noncomputable def SM.at (m : SM) (k c : Int) : Int := pick3 (pick4 m.a0 m.a1 m.a2 m.a3 k) (pick4 m.b0 m.b1 m.b2 m.b3 k) (pick4 m.c0 m.c1 m.c2 m.c3 k) c
noncomputable def wayStep (p : PM) (m : SM) (k : Int) (q : List Int × Int × Int) : List (List Int × Int × Int) :=
  [(q.1 ++ [q.2.1], 0, q.2.2 + p.at q.2.1 0 + m.at k 0), (q.1 ++ [q.2.1], 1, q.2.2 + p.at q.2.1 1 + m.at k 1), (q.1 ++ [q.2.1], 2, q.2.2 + p.at q.2.1 2 + m.at k 2)]
noncomputable def waysF (p : PM) (m : SM) : Nat → List (List Int × Int × Int)
  | 0 => [([], 0, m.at 0 0), ([], 1, m.at 0 1), ([], 2, m.at 0 2)]
  | k + 1 => (waysF p m k).flatMap (wayStep p m (1 + (k : Int)))
theorem waysF_len (p : PM) (m : SM) : ∀ k, ∀ q ∈ waysF p m k, q.1.length = k ∧ (0 ≤ q.2.1 ∧ q.2.1 < 3) ∧ Tags q.1
  | 0, q, h => by
    simp only [waysF, List.mem_cons, List.not_mem_nil, or_false] at h
    rcases h with rfl | rfl | rfl <;> refine ⟨rfl, by simp, fun c hc => nomatch hc⟩
  | k + 1, q, h => by
    simp only [waysF, List.mem_flatMap] at h
    refine byG (fun P9 hP9 => ?_)
    obtain ⟨r, hr, hq⟩ := h
    obtain ⟨i1, i2, i3⟩ := waysF_len p m k r hr
    refine hP9 ?_
    clear hP9 P9
    simp only [wayStep, List.mem_cons, List.not_mem_nil, or_false] at hq
    have ht : Tags (r.1 ++ [r.2.1]) := fun c hc => by
      rcases List.mem_append.mp hc with hc | hc
      · exact i3 c hc
      · rw [List.mem_singleton] at hc; subst hc; exact i2
    rcases hq with rfl | rfl | rfl <;> refine ⟨by simp [i1], by simp, ht⟩
theorem waysF_card (p : PM) (m : SM) : ∀ k, (waysF p m k).length = 3 ^ (k + 1)
  | 0 => rfl
  | k + 1 => by
    have e : ∀ l : List (List Int × Int × Int), (l.flatMap (wayStep p m (1 + (k : Int)))).length = 3 * l.length := fun l => by
      induction l with
      | nil => rfl
      | cons a l ih => rw [List.flatMap_cons, List.length_append, ih]; simp [wayStep]; omega
    rw [waysF, e, waysF_card p m k, Nat.pow_succ 3 (k + 1), Nat.mul_comm]
theorem All2.app {α β : Type} {R : α → β → Prop} : ∀ {as : List α} {bs : List β} {as' : List α} {bs' : List β}, All2 R as bs → All2 R as' bs' → All2 R (as ++ as') (bs ++ bs') := by
  intro as bs as' bs' H h
  induction H with
  | nil => exact h
  | cons r _ ih => exact .cons r ih
theorem set_eq {m : Str → Option Value} {x : Str} {v : Option Value} (h : m x = v) : m = fun z => if z = x then v else m z := by
  funext z
  by_cases e : z = x
  · subst e; simp [h]
  · simp [e]
theorem OwnOff.ne1 {l : List (Addr × Obj)} {bs : List Addr} {p b : Addr} {o : Obj} (h : OwnOff l bs) (hp : (p, o) ∈ l) (hb : b ∈ bs) : @Ne Nat p b := h _ hp _ hb
end Mine
namespace Mine
section
variable {prog : Program} {w : World} {A : Around} {E : Value → Shared → Prop} {s : Shared} {env : Env} {h₀ : Heap} {x : Str} {target : Expr} {body : List Stmt} {Q : Flow → Shared → Prop} {ws : List (Addr × String)} {keep : List (Addr × Obj)} {I : Addr} {a : Int} {n : Nat} {m : Str → Option Value} {news news' : List (Addr × Obj)}
theorem News.sub {g : Heap} {L : Addr} {h : Heap} {l l' : List (Addr × Obj)} (N : News g L h l) (hs : ∀ p ∈ l', p ∈ l) : News g L h l' := fun q hq => N q (hs q hq)
theorem items_sub (hs : ∀ p ∈ news', p ∈ news) : ∀ {xs : List Itm}, ItemsRest prog w A E h₀ env target body Q s ws keep xs m news' → ItemsRest prog w A E h₀ env target body Q s ws keep xs m news
  | [], h => fun h' tk F N => h h' tk F (Mine.News.sub N hs)
  | _ :: _, h => fun v h' tk hv F => allObj_mono (fun its hk N => hk (Mine.News.sub N fun p hp => (List.mem_append.mp hp).elim (fun h => List.mem_append_left _ h) fun h => List.mem_append_right _ (hs p h))) (h v h' tk hv F)
end
theorem OwnOff.app {l l' : List (Addr × Obj)} {bs : List Addr} (h : OwnOff l bs) (k : OwnOff l' bs) : OwnOff (l ++ l') bs := fun p hp => (List.mem_append.mp hp).elim (h p) (k p)
theorem OwnOff.lcons {l : List (Addr × Obj)} {bs : List Addr} {p : Addr × Obj} (h : ∀ b ∈ bs, p.1 ≠ b) (k : OwnOff l bs) : OwnOff (p :: l) bs := fun q hq b hb => by
  rcases List.mem_cons.mp hq with rfl | hq
  · exact h b hb
  · exact k q hq b hb
theorem OwnOff.sub {l l' : List (Addr × Obj)} {bs bs' : List Addr} (h : OwnOff l bs) (h1 : ∀ p ∈ l', p ∈ l) (h2 : ∀ b ∈ bs', b ∈ bs) : OwnOff l' bs' := fun p hp b hb => h p (h1 p hp) b (h2 b hb)
end Mine
namespace Mine
theorem wayStep_len (p : PM) (m : SM) (k : Int) (l : List (List Int × Int × Int)) : (l.flatMap (wayStep p m k)).length = 3 * l.length := by
  induction l with
  | nil => rfl
  | cons a l ih => rw [List.flatMap_cons, List.length_append, ih]; simp [wayStep]; omega
theorem gs_len {p : PM} {sm : SM} {i : Nat} {done r : List (List Int × Int × Int)} {gs : List Value} {R : Value → List Int × Int × Int → Prop} (hi : i < 3) (hal : All2 R gs (done.flatMap (wayStep p sm (1 + (i : Int))))) (hd : done ++ r = waysF p sm i) : gs.length ≤ 81 := by
  have e := hal.length
  rw [wayStep_len] at e
  have e2 := congrArg List.length hd
  rw [List.length_append, waysF_card] at e2
  have e3 : i = 0 ∨ i = 1 ∨ i = 2 := by omega
  rcases e3 with rfl | rfl | rfl <;> simp at e2 <;> omega
end Mine
namespace Mine
section
variable {h₀ : Heap} {I : Addr} {it : Obj} {L : Addr} {s₁ : Shared} {post : List (Addr × Obj)} {rest : (Str → Option Value) → List (Addr × Obj) → Prop} {h' : Heap} {tk : Nat} {m' : Str → Option Value} {a b : Addr × Obj}
theorem rturn0 (F : Fr h₀ L h' m') (N : News h₀ L h' ((I, it) :: post)) (off : ∀ p ∈ post, p.1 ≠ I) (r : rest m' post) : UnrEnd h₀ L s₁ I it rest { s₁ with heap := h', toks := tk } :=
  rturn_end F N post (.head _) (fun _ hp => .tail _ hp) off r
theorem rturn1 (F : Fr h₀ L h' m') (N : News h₀ L h' (a :: (I, it) :: post)) (off : ∀ p ∈ a :: post, p.1 ≠ I) (r : rest m' (a :: post)) : UnrEnd h₀ L s₁ I it rest { s₁ with heap := h', toks := tk } :=
  rturn_end F N (a :: post) (.tail _ (.head _)) (fun p hp => by
    rcases List.mem_cons.mp hp with e | hp
    · rw [e]; exact .head _
    · exact .tail _ (.tail _ hp)) off r
end
end Mine
namespace Mine
theorem WayL.mono {l l' : List (Addr × Obj)} (h : ∀ p ∈ l, p ∈ l') {v : Value} {q : List Int × Int × Int} (x : WayL l v q) : WayL l' v q := by obtain ⟨d, t, u, e, hm⟩ := x; exact ⟨d, t, u, e, h _ hm⟩
end Mine
namespace Mine
noncomputable abbrev PM.led (P p0 p1 p2 : Addr) (n n0 n1 n2 : Nat) (p : PM) (t1 t2 t3 t4 t5 t6 t7 t8 t9 : Tok) : List (Addr × Obj) := [(P, listOf #[.ref p0, .ref p1, .ref p2] n), (p0, listOf #[.int p.a0 t1, .int p.b0 t2, .int p.c0 t3] n0), (p1, listOf #[.int p.a1 t4, .int p.b1 t5, .int p.c1 t6] n1), (p2, listOf #[.int p.a2 t7, .int p.b2 t8, .int p.c2 t9] n2)]
noncomputable abbrev SM.led (M m0 m1 m2 m3 : Addr) (n n0 n1 n2 n3 : Nat) (m : SM) (t1 t2 t3 t4 t5 t6 t7 t8 t9 t10 t11 t12 : Tok) : List (Addr × Obj) := [(M, listOf #[.ref m0, .ref m1, .ref m2, .ref m3] n), (m0, listOf #[.int m.a0 t1, .int m.b0 t2, .int m.c0 t3] n0), (m1, listOf #[.int m.a1 t4, .int m.b1 t5, .int m.c1 t6] n1), (m2, listOf #[.int m.a2 t7, .int m.b2 t8, .int m.c2 t9] n2), (m3, listOf #[.int m.a3 t10, .int m.b3 t11, .int m.c3 t12] n3)]
noncomputable def PM.ok (p : PM) : Prop := (0 ≤ p.a0 ∧ p.a0 ≤ 5) ∧ (0 ≤ p.b0 ∧ p.b0 ≤ 5) ∧ (0 ≤ p.c0 ∧ p.c0 ≤ 5) ∧ (0 ≤ p.a1 ∧ p.a1 ≤ 5) ∧ (0 ≤ p.b1 ∧ p.b1 ≤ 5) ∧ (0 ≤ p.c1 ∧ p.c1 ≤ 5) ∧ (0 ≤ p.a2 ∧ p.a2 ≤ 5) ∧ (0 ≤ p.b2 ∧ p.b2 ≤ 5) ∧ (0 ≤ p.c2 ∧ p.c2 ≤ 5)
noncomputable def SM.ok (m : SM) : Prop := (0 ≤ m.a0 ∧ m.a0 ≤ 5) ∧ (0 ≤ m.b0 ∧ m.b0 ≤ 5) ∧ (0 ≤ m.c0 ∧ m.c0 ≤ 5) ∧ (0 ≤ m.a1 ∧ m.a1 ≤ 5) ∧ (0 ≤ m.b1 ∧ m.b1 ≤ 5) ∧ (0 ≤ m.c1 ∧ m.c1 ≤ 5) ∧ (0 ≤ m.a2 ∧ m.a2 ≤ 5) ∧ (0 ≤ m.b2 ∧ m.b2 ≤ 5) ∧ (0 ≤ m.c2 ∧ m.c2 ≤ 5) ∧ (0 ≤ m.a3 ∧ m.a3 ≤ 5) ∧ (0 ≤ m.b3 ∧ m.b3 ≤ 5) ∧ (0 ≤ m.c3 ∧ m.c3 ≤ 5)
end Mine
end
section
open PySem PySem.W PyProof.Rows PySem.Spec PySem.Calls PyProof.V
namespace Mine
noncomputable def SrcS (prog : Program) (w : World) (A : Around) (h₀ : Heap) (L : Addr) (m : Str → Option Value) (env : Env) (elt : Expr) (x : Str) (scope : Scope) (cl : List (Str × Addr)) (Fin : Shared → List Value → List (Addr × Obj) → Prop) (xv : Value) (s₁ : Shared) : Prop :=
  ∃ l t news, xv = .str (tx l) t ∧ A.handled = none ∧ Fr h₀ L s₁.heap m ∧ News h₀ L s₁.heap news ∧ l.length ≤ 1000 ∧
    ∀ s₂ : Shared, (∃ h, s₂ = { s₁ with heap := h }) → LCg.CompRest prog w A h₀ L m env elt x scope cl s₂ (fun _ => True) (fun i v => ∃ c u, l[i]? = some c ∧ v = .str (tx [c]) u) (Fin s₂) l.length 0 [] news
section
variable {prog : Program} {w : World} {A : Around} {E : Value → Shared → Prop} {s : Shared} {h₀ : Heap} {L : Addr} {m : Str → Option Value} {env : Env}
theorem SrcS.intro {elt : Expr} {x : Str} {scope : Scope} {cl : List (Str × Addr)} {Fin : Shared → List Value → List (Addr × Obj) → Prop} {l : List Int} {t : Tok} {news : List (Addr × Obj)} {s₁ : Shared}
    (hh : A.handled = none) (F : Fr h₀ L s₁.heap m) (N : News h₀ L s₁.heap news) (hl : l.length ≤ 1000)
    (h : ∀ g, LCg.CompRest prog w A h₀ L m env elt x scope cl { s₁ with heap := g } (fun _ => True) (fun i v => ∃ c u, l[i]? = some c ∧ v = .str (tx [c]) u) (Fin { s₁ with heap := g }) l.length 0 [] news) :
    SrcS prog w A h₀ L m env elt x scope cl Fin (.str (tx l) t) s₁ := ⟨l, t, news, rfl, hh, F, N, hl, fun _ ⟨g, e⟩ => e ▸ h g⟩
theorem ListComp_S {elt iter : Expr} {x : Str} {px : Pos} {scope : Scope} {cl : List (Str × Addr)} {pos : Pos} {Q : Value → Shared → Prop} (F₀ : Fr h₀ L s.heap m)
    (hclos : closureFor scope env = pure cl) (hcell : ∀ y ∈ scope.names, y.2 ≠ .cell) (hkind : scope.kind = .function)
    (hnames : ∀ y ∈ scope.names, y.2 = .local → scope.names.lookup y.1 = some .local) (hx : scope.names.lookup x = some .local)
    (h : wpAny (model prog w) A (eval iter env) (SrcS prog w A h₀ L m env elt x scope cl (fun s₂ => LCg.FinE h₀ L m s₂ Q)) E s)
    (hs : ∀ x, foldedSetIterable iter env x = pure x := by intro _; rfl) :
    wpAny (model prog w) A (eval (.ListComp elt [⟨.Name x px, iter, [], 0⟩] scope pos) env) Q E s := by
  rw [eval_ListComp]
  refine wpAny_comprehension_free (use := none) rfl hs hclos hkind hnames (wpAny_mono h (fun xv s₁ h₁ => ?_) fun _ _ e => e)
  refine byG (fun P9 hP9 => ?_)
  obtain ⟨l, t, news, rfl, hh, F, N, hl, R⟩ := h₁
  refine hP9 ?_
  clear hP9 P9
  have hsz : l.length ≤ sizeLine := by rw [sizeLine_eq]; omega
  have hsize : (tx l).cps.size = l.length := by simp [tx]
  have hasc : (tx l).cps.all (· < 128) = true := by
    simp only [tx, List.all_toArray, List.all_map, List.all_eq_true]
    intro c _
    unfold chC
    by_cases e : c = 0
    · simp [e]
    · by_cases e' : c = 1
      · simp [e']
      · simp [e, e']
  have e0 : ∀ (i : Nat) (c : Int), l[i]? = some c → (tx l).cps[i]? = some (chC c) := fun i c h => by simp [tx, h]
  refine wpAny_pyIter_ascii hasc ?_
  have W := Walks.strAscii (prog := prog) (w := w) hh s₁.heap.objs.size (tx l) t
  have W' : Walks prog w A s₁.heap.objs.size [s₁.heap.objs.size] [s₁.heap.objs.size] l.length (fun i v => ∃ c u, l[i]? = some c ∧ v = .str (tx [c]) u) (fun i h => h.IsStrIter s₁.heap.objs.size "str_ascii_iterator" (tx l) t i) :=
    { sub := W.sub, frame := W.frame, done := fun s Q E st hQ => W.done s Q E (by rw [hsize]; exact st) hQ, self := W.self,
      item := fun i s Q E hi st hQ => W.item i s Q E (by rw [hsize]; exact hi) st fun v h' tk hP => hQ v h' tk (by
        refine byG (fun P9 hP9 => ?_)
        obtain ⟨c, u, hc, rfl⟩ := hP
        refine hP9 ?_
        clear hP9 P9
        have hl' : l[i]? = some l[i] := by simp [hi]
        rw [e0 i _ hl'] at hc
        cases hc
        exact ⟨l[i], u, hl', rfl⟩) }
  refine LCg.block_U W' hsz (fun i h st => by obtain ⟨o, e, _⟩ := st; exact ⟨o, e⟩) (fun i h h' o nw st e1 e2 _ _ _ => by
      refine byG (fun P9 hP9 => ?_)
      obtain ⟨o', e, r⟩ := st
      refine hP9 ?_
      clear hP9 P9
      rw [e1] at e; cases e
      exact ⟨o, e2, r⟩) hcell hkind hx ⟨_, Heap.get?_push_size _ rfl, rfl, rfl⟩ (fun b hb => ?_)
      (F.keeps fun _ _ e => Heap.get?_push_of_some _ e) (N.grown fun _ _ e => Heap.get?_push_of_some _ e) (Nat.ne_of_lt F.ns.lt) (next_is_new F) (fun p hp => Nat.ne_of_lt (Heap.lt_size (N p hp).1)) trivial (R _ ⟨_, rfl⟩) ?_
  · rw [List.mem_singleton.mp hb]
    show s₁.heap.objs.size < (s₁.heap.push _).objs.size
    rw [Heap.size_push]; exact Nat.lt_succ_self _
  · intro D C h tk m' ys news' F' N' o1 hn hC₀ hD₀ hCL hDL hCD offC fin
    refine ⟨m', hn, fun h'' hs'' => fin D h'' tk (F'.change hs'' hCL hC₀) (fun p hp => ?_) o1⟩
    refine ⟨hs''.extBut _ _ ?_ (N' p hp).1, (N' p hp).2⟩
    rcases List.mem_cons.mp hp with rfl | hp
    · exact Ne.symm hCD
    · exact offC p hp
end
noncomputable def One (h₀ : Heap) (L : Addr) (h : Heap) (p : Addr × Obj) : Prop := News h₀ L h [p]
section
variable {prog : Program} {w : World} {A : Around} {E : Value → Shared → Prop} {s : Shared} {Q : Value → Shared → Prop} {h₀ : Heap} {L : Addr} {m : Str → Option Value} {news : List (Addr × Obj)} {value slice : Expr}
theorem item3One {l : Addr} {a b c i : Int} {ta tb tc u : Tok} {n : Nat} (N : One h₀ L s.heap (l, listOf #[.int a ta, .int b tb, .int c tc] n)) (h0 : 0 ≤ i) (h1 : i < 3) (h : ∀ t, Q (.int (pick3 a b c i) t) s)
    (hs : ∀ k, subscripted slice false (.ref l) (.int k u) = operate [.ref l, .int k u] (getItem (.ref l) (.int k u)) := by intro _; with_unfolding_all rfl) :
    wpAny (model prog w) A (subscriptTail value slice (.ref l) (.int i u)) Q E s := item3 N (.head _) h0 h1 h hs
theorem slice_tx {l l' : List Int} {t : Tok} {i j : Int} {ui uj : Tok} (hF : Fr h₀ L s.heap m) (hN : News h₀ L s.heap news) (e : Txt.slice (tx l) (some i) (some j) = tx l') (hl : l.length ≤ 100)
    (h : ∀ h' t' k, Fr h₀ L h' m → News h₀ L h' news → Q (.str (tx l') t') { s with heap := h', toks := k })
    (hs : subscripted slice false (.str (tx l) t) (.ref s.heap.objs.size) = operate [.ref s.heap.objs.size, .str (tx l) t] (getItem (.str (tx l) t) (.ref s.heap.objs.size)) := by with_unfolding_all rfl)
    (ht : ∀ r, letTemporaryGo value (.str (tx l) t) r = pure () := by intro _; with_unfolding_all rfl) :
    wpAny (model prog w) A (subscriptTail value slice (.str (tx l) t) (.ref s.heap.objs.size)) Q E { s with heap := s.heap.push { cls := .type "slice", data := .fields #[.int i ui, .int j uj, .none] } } :=
  slice_strN_ss hF hN (fun h' t' k a b => by rw [e]; exact h h' t' k a b) hs ht (by rw [tx_length, sizeLine_eq]; omega)
theorem slice01 (a b c d : Int) : Txt.slice (tx [a, b, c, d]) (some 0) (some 2) = tx [a, b] := by
  open PySem.Builtin PySem.Builtin.Str in unfold Txt.slice strSliceIndices sliceRange tx
  simp [PySem.Str.length]
  rfl
theorem slice12 (a b c d : Int) : Txt.slice (tx [a, b, c, d]) (some 1) (some 3) = tx [b, c] := by
  open PySem.Builtin PySem.Builtin.Str in unfold Txt.slice strSliceIndices sliceRange tx
  simp [PySem.Str.length]
  rfl
theorem slice23 (a b c d : Int) : Txt.slice (tx [a, b, c, d]) (some 2) (some 4) = tx [c, d] := by
  open PySem.Builtin PySem.Builtin.Str in unfold Txt.slice strSliceIndices sliceRange tx
  simp [PySem.Str.length]
  rfl
end
theorem mx3_bd {x y z B : Int} (hx : 0 ≤ x ∧ x ≤ B) (hy : 0 ≤ y ∧ y ≤ B) (hz : 0 ≤ z ∧ z ≤ B) : 0 ≤ mx3 x y z ∧ mx3 x y z ≤ B := by
  unfold mx3
  split <;> split <;> assumption
end Mine
end
section
open PySem PySem.W PyProof.Rows PySem.Spec PySem.Calls PyProof.V
namespace Mine
noncomputable def IntVals (D : List (PyData × PyData)) : Prop := ∀ p ∈ D, ∃ x, p.2 = PyData.int x
theorem intvals_nil : IntVals [] := fun _ h => nomatch h
theorem intvals_put {k : PyData} {x : Int} {D : List (PyData × PyData)} (h : IntVals D) : IntVals (putD k (PyData.int x) D) := by
  unfold putD
  split
  · intro p hp
    obtain ⟨q, hq, rfl⟩ := List.mem_map.mp hp
    split
    · exact ⟨x, rfl⟩
    · exact h q hq
  · intro p hp
    rcases List.mem_append.mp hp with hp | hp
    · exact h p hp
    · rw [List.mem_singleton] at hp; subst hp; exact ⟨x, rfl⟩
theorem lookup_int {k : PyData} : ∀ {D : List (PyData × PyData)}, IntVals D → ∃ x, (PySem.Spec.lookup k D).getD (PyData.int 0) = PyData.int x
  | [], _ => ⟨0, rfl⟩
  | (a, b) :: r, h => by
    unfold PySem.Spec.lookup
    split
    · obtain ⟨x, e⟩ := h (a, b) (.head _)
      exact ⟨x, e⟩
    · exact lookup_int fun q hq => h q (.tail _ hq)
theorem flat_int {k : PyData} {D : List (PyData × PyData)} {v : Value} (h : IntVals D) (hv : Flat v ((PySem.Spec.lookup k D).getD (PyData.int 0))) : ∃ x t, v = .int x t ∧ (PySem.Spec.lookup k D).getD (PyData.int 0) = PyData.int x := by
  obtain ⟨x, e⟩ := lookup_int (k := k) h
  rw [e] at hv
  obtain ⟨t, rfl⟩ := hv.int_inv
  exact ⟨x, t, rfl, e⟩
noncomputable def dueD (a b c d : Int) : List (Str × Int) := addC (addC (addC [] (tx [a, b]) 1) (tx [b, c]) 1) (tx [c, d]) 1
theorem due_look {k : Str} : ∀ {D : List (Str × Int)} {x : Int}, (D.map (·.1)).Nodup → (PySem.Spec.lookup (PyData.str k) (pd D)).getD (PyData.int 0) = PyData.int x → (∀ p ∈ D, p.1 = k → p.2 = x) ∧ (D.any (fun p => decide (p.1 = k)) = false → x = 0)
  | [], x, _, h => ⟨(fun _ h => nomatch h), fun _ => (PyData.int.inj h).symm⟩
  | (a, b) :: r, x, nd, h => by
    have h' : (if PySem.Spec.same (PyData.str a) (PyData.str k) = true then some (PyData.int b) else PySem.Spec.lookup (PyData.str k) (pd r)).getD (PyData.int 0) = PyData.int x := h
    rw [PyProof.V.same_str] at h'
    have nd' := List.nodup_cons.mp nd
    by_cases e : a = k
    · rw [if_pos (decide_eq_true e)] at h'
      refine ⟨fun p hp hk => ?_, fun hf => ?_⟩
      · rcases List.mem_cons.mp hp with rfl | hp
        · exact PyData.int.inj h'
        · exact absurd (List.mem_map_of_mem (f := (·.1)) hp) (by rw [hk, ← e]; exact nd'.1)
      · rw [List.any_cons, decide_eq_true e] at hf; cases hf
    · rw [if_neg (fun c => e (of_decide_eq_true c))] at h'
      obtain ⟨i1, i2⟩ := due_look nd'.2 h'
      refine ⟨fun p hp hk => ?_, fun hf => i2 ?_⟩
      · rcases List.mem_cons.mp hp with rfl | hp
        · exact absurd hk e
        · exact i1 p hp hk
      · rw [List.any_cons, decide_eq_false e] at hf; exact hf
theorem due_put {k : Str} {D : List (Str × Int)} {x : Int} (nd : (D.map (·.1)).Nodup) (h : (PySem.Spec.lookup (PyData.str k) (pd D)).getD (PyData.int 0) = PyData.int x) : putD (PyData.str k) (PyData.int (x + 1)) (pd D) = pd (addC D k 1) := by
  obtain ⟨i1, i2⟩ := due_look nd h
  have e : (pd D).any (fun p => PySem.Spec.same p.1 (PyData.str k)) = D.any (fun p => decide (p.1 = k)) := by
    unfold pd
    rw [List.any_map]
    exact congrArg (List.any D) (funext fun p => PyProof.V.same_str p.1 k)
  unfold putD addC
  rw [e]
  by_cases c : D.any (fun p => decide (p.1 = k)) = true
  · rw [if_pos c, if_pos c]
    unfold pd
    rw [List.map_map, List.map_map]
    refine List.map_congr_left fun p hp => ?_
    show (if PySem.Spec.same (PyData.str p.1) (PyData.str k) = true then (PyData.str p.1, PyData.int (x + 1)) else (PyData.str p.1, PyData.int p.2)) = (fun q : Str × Int => (PyData.str q.1, PyData.int q.2)) (if p.1 = k then (p.1, p.2 + 1) else p)
    rw [PyProof.V.same_str]
    by_cases q : p.1 = k
    · rw [if_pos (decide_eq_true q), if_pos q, i1 p hp q]
    · rw [if_neg (fun c => q (of_decide_eq_true c)), if_neg q]
  · rw [if_neg c, if_neg c, i2 (Bool.eq_false_iff.mpr c)]
    unfold pd
    rw [List.map_append]; rfl
theorem due_pd {a b c d x2 x3 : Int}
    (h2 : (PySem.Spec.lookup (PyData.str (tx [b, c])) (putD (PyData.str (tx [a, b])) (PyData.int (0 + 1)) [])).getD (PyData.int 0) = PyData.int x2)
    (h3 : (PySem.Spec.lookup (PyData.str (tx [c, d])) (putD (PyData.str (tx [b, c])) (PyData.int (x2 + 1)) (putD (PyData.str (tx [a, b])) (PyData.int (0 + 1)) []))).getD (PyData.int 0) = PyData.int x3) :
    putD (PyData.str (tx [c, d])) (PyData.int (x3 + 1)) (putD (PyData.str (tx [b, c])) (PyData.int (x2 + 1)) (putD (PyData.str (tx [a, b])) (PyData.int (0 + 1)) [])) = pd (dueD a b c d) := by
  have n1 : (([] : List (Str × Int)).map (·.1)).Nodup := List.nodup_nil
  have e1 : putD (PyData.str (tx [a, b])) (PyData.int (0 + 1)) [] = pd (addC [] (tx [a, b]) 1) := due_put n1 rfl
  rw [e1] at h2 h3 ⊢
  rw [due_put (addC_nodup n1) h2] at h3 ⊢
  exact due_put (addC_nodup (addC_nodup n1)) h3
theorem dueD_nodup (a b c d : Int) : ((dueD a b c d).map (·.1)).Nodup := addC_nodup (addC_nodup (addC_nodup (by simp)))
theorem slice01' {a b c d i j : Int} (hi : i = 0) (hj : j = 2) : Txt.slice (tx [a, b, c, d]) (some i) (some j) = tx [a, b] := by rw [hi, hj]; exact slice01 a b c d
theorem slice12' {a b c d i j : Int} (hi : i = 1) (hj : j = 3) : Txt.slice (tx [a, b, c, d]) (some i) (some j) = tx [b, c] := by rw [hi, hj]; exact slice12 a b c d
theorem slice23' {a b c d i j : Int} (hi : i = 2) (hj : j = 4) : Txt.slice (tx [a, b, c, d]) (some i) (some j) = tx [c, d] := by rw [hi, hj]; exact slice23 a b c d
end Mine
end
section
open PySem PySem.W PyProof.Rows PySem.Spec PySem.Calls PyProof.V
local macro_rules | `(tactic| omega) => `(tactic| first | lia | omega +splitDisjunctions)
namespace Mine
structure Book where
  cc : Int
  nc : Int
  tt : Int
  ct : Int
  D : List (Str × Int)
noncomputable abbrev Lev := Book × Book × Book
noncomputable abbrev T3 := Int × Int × Int
noncomputable def Lev.at (L : Lev) (u : Int) : Book := if u = 0 then L.1 else if u = 1 then L.2.1 else L.2.2
noncomputable def BookIn (w : World) (extra : List (Addr × Obj)) (v : Value) (b : Book) : Prop :=
  ∃ t d o x1 x2 x3 x4, v = .ref t ∧ (t, tupO [.int b.cc x1, .int b.nc x2, .int b.tt x3, .int b.ct x4, .ref d]) ∈ extra ∧ (d, o) ∈ extra ∧ DictIs w d o b.D
noncomputable def LevIn (w : World) (extra : List (Addr × Obj)) (v : Value) (L : Lev) : Prop :=
  ∃ B n v0 v1 v2, v = .ref B ∧ (B, listOf #[v0, v1, v2] n) ∈ extra ∧ BookIn w extra v0 L.1 ∧ BookIn w extra v1 L.2.1 ∧ BookIn w extra v2 L.2.2
noncomputable def KeptIn (extra : List (Addr × Obj)) (v : Value) (T : T3) : Prop :=
  ∃ K n t0 t1 t2, v = .ref K ∧ (K, listOf #[.int T.1 t0, .int T.2.1 t1, .int T.2.2 t2] n) ∈ extra
noncomputable def nextBook (p : PM) (sm : SM) (k : Int) (L : Lev) (u v : Int) : Book :=
  ⟨0 + (1 + (L.at u).cc), 0 + (p.at u v + (L.at u).nc), sm.at k v + (0 + (L.at u).tt), sm.at k v + (p.at u v + (L.at u).ct), mergeC (mergeC (L.at u).D [(tx [u, v], 1)]) []⟩
noncomputable def Best (p : PM) (L : Lev) (u v : Int) : Prop := (0 ≤ u ∧ u < 3) ∧ p.at 0 v + (L.at 0).ct ≤ p.at u v + (L.at u).ct ∧ p.at 1 v + (L.at 1).ct ≤ p.at u v + (L.at u).ct ∧ p.at 2 v + (L.at 2).ct ≤ p.at u v + (L.at u).ct
noncomputable def NextB (p : PM) (sm : SM) (k : Int) (L : Lev) (v : Int) (q : Int × Book) : Prop := Best p L q.1 v ∧ q.2 = nextBook p sm k L q.1 v
noncomputable def NextL (p : PM) (sm : SM) (k : Int) (L L' : Lev) (T : T3) : Prop := NextB p sm k L 0 (T.1, L'.1) ∧ NextB p sm k L 1 (T.2.1, L'.2.1) ∧ NextB p sm k L 2 (T.2.2, L'.2.2)
noncomputable def lev0 (sm : SM) : Lev := (⟨0, 0, sm.at 0 0, sm.at 0 0, []⟩, ⟨0, 0, sm.at 0 1, sm.at 0 1, []⟩, ⟨0, 0, sm.at 0 2, sm.at 0 2, []⟩)
noncomputable def FC (p : PM) (sm : SM) : List Lev → List T3 → Prop
  | [L], [] => L = lev0 sm
  | L' :: L :: r, T :: ts => NextL p sm (1 + (ts.length : Int)) L L' T ∧ FC p sm (L :: r) ts
  | _, _ => False
theorem pick3_bd {a b c i B : Int} (ha : 0 ≤ a ∧ a ≤ B) (hb : 0 ≤ b ∧ b ≤ B) (hc : 0 ≤ c ∧ c ≤ B) : 0 ≤ pick3 a b c i ∧ pick3 a b c i ≤ B := pick3_mem (P := fun r => 0 ≤ r ∧ r ≤ B) ha hb hc
theorem pick4_bd {a b c d i B : Int} (ha : 0 ≤ a ∧ a ≤ B) (hb : 0 ≤ b ∧ b ≤ B) (hc : 0 ≤ c ∧ c ≤ B) (hd : 0 ≤ d ∧ d ≤ B) : 0 ≤ pick4 a b c d i ∧ pick4 a b c d i ≤ B := by
  unfold pick4; split
  · exact ha
  · split
    · exact hb
    · split
      · exact hc
      · exact hd
theorem PM.at_bd {p : PM} (h : p.ok) (u v : Int) : 0 ≤ p.at u v ∧ p.at u v ≤ 5 := by
  refine byG (fun P9 hP9 => ?_)
  obtain ⟨h1, h2, h3, h4, h5, h6, h7, h8, h9⟩ := h
  refine hP9 ?_
  clear hP9 P9
  exact pick3_bd (pick3_bd h1 h4 h7) (pick3_bd h2 h5 h8) (pick3_bd h3 h6 h9)
theorem SM.at_bd {m : SM} (h : m.ok) (k c : Int) : 0 ≤ m.at k c ∧ m.at k c ≤ 5 := by
  refine byG (fun P9 hP9 => ?_)
  obtain ⟨h1, h2, h3, h4, h5, h6, h7, h8, h9, h10, h11, h12⟩ := h
  refine hP9 ?_
  clear hP9 P9
  exact pick3_bd (pick4_bd h1 h4 h7 h10) (pick4_bd h2 h5 h8 h11) (pick4_bd h3 h6 h9 h12)
noncomputable def BookOk (i : Nat) (b : Book) : Prop := (0 ≤ b.ct ∧ b.ct ≤ 5 + 10 * (i : Int)) ∧ b.D.length ≤ i
theorem next_ok {p : PM} {sm : SM} (hp : p.ok) (hs : sm.ok) {i : Nat} {k : Int} {L : Lev} (h : BookOk i L.1 ∧ BookOk i L.2.1 ∧ BookOk i L.2.2) {u v : Int} : BookOk (i + 1) (nextBook p sm k L u v) := by
  have e : BookOk i (L.at u) := by
    unfold Lev.at; split
    · exact h.1
    · split
      · exact h.2.1
      · exact h.2.2
  have e1 := PM.at_bd hp u v
  have e2 := SM.at_bd hs k v
  obtain ⟨⟨e3, e4⟩, e5⟩ := e
  refine ⟨?_, ?_⟩
  · show 0 ≤ sm.at k v + (p.at u v + (L.at u).ct) ∧ sm.at k v + (p.at u v + (L.at u).ct) ≤ 5 + 10 * ((i + 1 : Nat) : Int)
    omega
  · show (mergeC (mergeC (L.at u).D [(tx [u, v], 1)]) []).length ≤ i + 1
    have := addC_length (L.at u).D (tx [u, v]) 1
    simp only [mergeC, List.foldl_cons, List.foldl_nil]
    omega
theorem FC_ok {p : PM} {sm : SM} (hp : p.ok) (hs : sm.ok) : ∀ {Ls : List Lev} {ts : List T3} {L : Lev}, FC p sm (L :: Ls) ts → Ls.length = ts.length ∧ BookOk ts.length L.1 ∧ BookOk ts.length L.2.1 ∧ BookOk ts.length L.2.2
  | [], [], L, h => by
    have h' : L = lev0 sm := h
    subst h'
    have e1 := SM.at_bd hs 0 0
    have e2 := SM.at_bd hs 0 1
    have e3 := SM.at_bd hs 0 2
    refine ⟨rfl, ⟨?_, Nat.le_refl _⟩, ⟨?_, Nat.le_refl _⟩, ⟨?_, Nat.le_refl _⟩⟩
    · show 0 ≤ sm.at 0 0 ∧ sm.at 0 0 ≤ _; simp; omega
    · show 0 ≤ sm.at 0 1 ∧ sm.at 0 1 ≤ _; simp; omega
    · show 0 ≤ sm.at 0 2 ∧ sm.at 0 2 ≤ _; simp; omega
  | [], _ :: _, _, h => h.elim
  | _ :: _, [], _, h => h.elim
  | L0 :: r, T :: ts, L, h => by
    refine byG (fun P9 hP9 => ?_)
    obtain ⟨⟨⟨_, h1⟩, ⟨_, h2⟩, ⟨_, h3⟩⟩, hf⟩ := h
    obtain ⟨hl, ho⟩ := FC_ok hp hs hf
    refine hP9 ?_
    clear hP9 P9
    dsimp only at h1 h2 h3
    refine ⟨by simp [hl], ?_, ?_, ?_⟩
    · rw [h1]; exact next_ok hp hs ho
    · rw [h2]; exact next_ok hp hs ho
    · rw [h3]; exact next_ok hp hs ho
theorem BookIn.mono {w : World} {l l' : List (Addr × Obj)} (h : ∀ p ∈ l, p ∈ l') {v : Value} {b : Book} (x : BookIn w l v b) : BookIn w l' v b := by obtain ⟨t, d, o, x1, x2, x3, x4, e, h1, h2, h3⟩ := x; exact ⟨t, d, o, x1, x2, x3, x4, e, h _ h1, h _ h2, h3⟩
theorem LevIn.mono {w : World} {l l' : List (Addr × Obj)} (h : ∀ p ∈ l, p ∈ l') {v : Value} {b : Lev} (x : LevIn w l v b) : LevIn w l' v b := by obtain ⟨B, n, v0, v1, v2, e, h1, h2, h3, h4⟩ := x; exact ⟨B, n, v0, v1, v2, e, h _ h1, h2.mono h, h3.mono h, h4.mono h⟩
theorem KeptIn.mono {l l' : List (Addr × Obj)} (h : ∀ p ∈ l, p ∈ l') {v : Value} {b : T3} (x : KeptIn l v b) : KeptIn l' v b := by obtain ⟨K, n, t0, t1, t2, e, h1⟩ := x; exact ⟨K, n, t0, t1, t2, e, h _ h1⟩
section
variable {prog : Program} {w : World} {A : Around} {E : Value → Shared → Prop} {s : Shared} {Q : Value → Shared → Prop} {h₀ : Heap} {L : Addr} {news : List (Addr × Obj)} {value slice : Expr}
theorem item_prev {l : Addr} {a : List Value} {x y : Value} {n : Nat} {k : Int} {u : Tok} (N : News h₀ L s.heap news) (hm : (l, listOf (a ++ [x] ++ [y]).toArray n) ∈ news) (hk : k = (a.length : Int)) (hz : a.length ≤ 1000) (h : Q x s)
    (hs : subscripted slice false (.ref l) (.int k u) = operate [.ref l, .int k u] (getItem (.ref l) (.int k u)) := by with_unfolding_all rfl) :
    wpAny (model prog w) A (subscriptTail value slice (.ref l) (.int k u)) Q E s :=
  item_here N hm (decide_eq_true ⟨by omega, by omega⟩) (by rw [hk]; simp) h hs
theorem item_end {l : Addr} {a : List Value} {y : Value} {n : Nat} {k : Int} {u : Tok} (N : News h₀ L s.heap news) (hm : (l, listOf (a ++ [y]).toArray n) ∈ news) (hk : k = (a.length : Int)) (hz : a.length ≤ 1000) (h : Q y s)
    (hs : subscripted slice false (.ref l) (.int k u) = operate [.ref l, .int k u] (getItem (.ref l) (.int k u)) := by with_unfolding_all rfl) :
    wpAny (model prog w) A (subscriptTail value slice (.ref l) (.int k u)) Q E s :=
  item_here N hm (decide_eq_true ⟨by omega, by omega⟩) (by rw [hk]; simp) h hs
end
noncomputable def FInner (w : World) (BASE extra : List (Addr × Obj)) (NB NK : Addr) (keys : List Addr) (p : PM) (sm : SM) (k : Int) (L : Lev) (j : Nat) (m' : Str → Option Value) (news : List (Addr × Obj)) : Prop :=
  ∃ bs kv k1 k2 nt done, news = (NK, listOf kv.toArray k1) :: (NB, listOf bs.toArray k2) :: (BASE ++ (nt ++ extra)) ∧ OwnOff nt (NB :: NK :: keys) ∧ All2 (fun v (q : Int × Book) => BookIn w nt v q.2) bs done ∧ All2 (fun v (q : Int × Book) => ∃ t, v = .int q.1 t) kv done ∧ done.length = j ∧
    ∀ (v : Nat) q, done[v]? = some q → NextB p sm k L (0 + (v : Int)) q
theorem All2.last {α β : Type} {R : α → β → Prop} {b : β} : ∀ {as : List α} {bs : List β}, All2 R as (bs ++ [b]) → ∃ as' a, as = as' ++ [a] ∧ All2 R as' bs ∧ R a b
  | [], [], h => nomatch h
  | [a], [], h => by cases h with | cons r x => exact ⟨[], a, rfl, .nil, r⟩
  | _ :: _ :: _, [], h => by cases h with | cons r x => cases x
  | [], _ :: _, h => nomatch h
  | a :: as, _ :: bs, h => by
    cases h with
    | cons r x =>
      refine byG (fun P9 hP9 => ?_)
      obtain ⟨as', a', e, h1, h2⟩ := All2.last x
      refine hP9 ?_
      clear hP9 P9
      exact ⟨a :: as', a', by rw [e]; rfl, .cons r h1, h2⟩
end Mine
namespace Mine
section
variable {w : World} {A : Around} {E : Value → Shared → Prop} {s : Shared} {env : Env} {h₀ : Heap} {L d : Addr} {m : Str → Option Value} {news : List (Addr × Obj)} {g : Obj → List (Addr × Obj)} {o : Obj} {Q : Value → Shared → Prop}
theorem dict_one {k : Str} {n : Int} {t u : Tok} (F : Fr h₀ L s.heap m) (N : News h₀ L s.heap news) (U : UpdF d o news g) (hd : o.IsDictOf (PySem.strKind prg w) []) (lo : (d == sysModules) = false)
    (h : ∀ h' o', Fr h₀ L h' m → News h₀ L h' (g o') → DictIs w d o' [(k, n)] → Q (.ref d) { s with heap := h', toks := s.toks + 1 }) : KdnMade prg w (PySem.strKind prg w) d Q [(.str k t, .int n u)] s :=
  kdn_made_strF (vs := [(.str k t, .int n u)]) F N U hd rfl (by simp [strPairs]) rfl fun h' o' F' N' x y => h h' o' F' N' ⟨lo, ⟨_, x, y⟩, by simp⟩
theorem dict_nil {d : Addr} {o : Obj} (lo : (d == sysModules) = false) (hs : o.IsDictOf (PySem.strKind prg w) []) : DictIs w d o [] := ⟨lo, ⟨[], hs, .nil⟩, by simp⟩
end
end Mine
namespace Mine
theorem merge1_pos (D : List (Str × Int)) (k : Str) (n : Int) : 1 ≤ (mergeC D [(k, n)]).length := by
  show 1 ≤ (addC D k n).length
  unfold addC
  split
  · rename_i h
    rw [List.length_map]
    cases D with
    | nil => simp at h
    | cons a r => simp
  · simp
theorem merge1_le (D : List (Str × Int)) (k : Str) (n : Int) : (mergeC D [(k, n)]).length ≤ D.length + 1 := addC_length D k n
end Mine
namespace Mine
section
variable {h₀ : Heap} {I : Addr} {it : Obj} {L : Addr} {s₁ : Shared} {post : List (Addr × Obj)} {rest : (Str → Option Value) → List (Addr × Obj) → Prop} {h' : Heap} {tk : Nat} {m' : Str → Option Value} {a b c d : Addr × Obj}
end
end Mine
end
section
open PySem PySem.W PyProof.Rows PySem.Spec PySem.Calls PyProof.V
local macro_rules | `(tactic| omega) => `(tactic| first | lia | omega +splitDisjunctions)
namespace Mine
noncomputable def nextA (p : PM) (sm : SM) (k : Int) (A : T3) : T3 :=
  (mx3 (p.at 0 0 + (sm.at k 0 + A.1)) (p.at 0 1 + (sm.at k 1 + A.2.1)) (p.at 0 2 + (sm.at k 2 + A.2.2)), mx3 (p.at 1 0 + (sm.at k 0 + A.1)) (p.at 1 1 + (sm.at k 1 + A.2.1)) (p.at 1 2 + (sm.at k 2 + A.2.2)),
   mx3 (p.at 2 0 + (sm.at k 0 + A.1)) (p.at 2 1 + (sm.at k 1 + A.2.1)) (p.at 2 2 + (sm.at k 2 + A.2.2)))
noncomputable def AF (p : PM) (sm : SM) : List T3 → Prop
  | [A] => A = (0, 0, 0)
  | A' :: A :: r => A' = nextA p sm (3 - (r.length : Int)) A ∧ AF p sm (A :: r)
  | [] => False
noncomputable def TripOk (B : Int) (A : T3) : Prop := (0 ≤ A.1 ∧ A.1 ≤ B) ∧ (0 ≤ A.2.1 ∧ A.2.1 ≤ B) ∧ (0 ≤ A.2.2 ∧ A.2.2 ≤ B)
theorem AF_ok {p : PM} {sm : SM} (hp : p.ok) (hs : sm.ok) : ∀ {r : List T3} {A : T3}, AF p sm (A :: r) → TripOk (10 * (r.length : Int)) A
  | [], A, h => by
    have h' : A = (0, 0, 0) := h
    subst h'
    exact ⟨⟨by decide, by decide⟩, ⟨by decide, by decide⟩, ⟨by decide, by decide⟩⟩
  | A0 :: r, A, h => by
    obtain ⟨e, h'⟩ := h
    obtain ⟨⟨h1, h2⟩, ⟨h3, h4⟩, ⟨h5, h6⟩⟩ := AF_ok hp hs h'
    have b := fun u v => PM.at_bd hp u v
    have c := fun v => SM.at_bd hs (3 - (r.length : Int)) v
    have c0 := c 0
    have c1 := c 1
    have c2 := c 2
    have el : ((A0 :: r).length : Int) = (r.length : Int) + 1 := by simp
    rw [el]
    subst e
    have z : ∀ u, 0 ≤ mx3 (p.at u 0 + (sm.at (3 - (r.length : Int)) 0 + A0.1)) (p.at u 1 + (sm.at (3 - (r.length : Int)) 1 + A0.2.1)) (p.at u 2 + (sm.at (3 - (r.length : Int)) 2 + A0.2.2)) ∧ mx3 (p.at u 0 + (sm.at (3 - (r.length : Int)) 0 + A0.1)) (p.at u 1 + (sm.at (3 - (r.length : Int)) 1 + A0.2.1)) (p.at u 2 + (sm.at (3 - (r.length : Int)) 2 + A0.2.2)) ≤ 10 * ((r.length : Int) + 1) := fun u => by
      have b0 := b u 0
      have b1 := b u 1
      have b2 := b u 2
      exact mx3_bd (by omega) (by omega) (by omega)
    exact ⟨z 0, z 1, z 2⟩
noncomputable def TripIn (extra : List (Addr × Obj)) (v : Value) (A : T3) : Prop := ∃ R n t0 t1 t2, v = .ref R ∧ (R, listOf #[.int A.1 t0, .int A.2.1 t1, .int A.2.2 t2] n) ∈ extra
theorem TripIn.mono {l l' : List (Addr × Obj)} (h : ∀ p ∈ l, p ∈ l') {v : Value} {A : T3} (x : TripIn l v A) : TripIn l' v A := let ⟨R, n, t0, t1, t2, e, h1⟩ := x; ⟨R, n, t0, t1, t2, e, h _ h1⟩
theorem ownOff_none {bs : List Addr} : OwnOff [] bs := fun _ h => nomatch h
theorem neAll_off1 {D : Addr} {news : List (Addr × Obj)} (h : LCg.Off1 D news) : NeAll [(D, LCg.lst [])] news := fun q hq p hp => by
  rw [List.mem_singleton] at hp; subst hp; exact (off1_ne h q hq).symm
end Mine
end
section
open PySem PySem.W PyProof.Rows PySem.Spec PySem.Calls PyProof.V
namespace Mine
section
variable {prog : Program} {w : World} {A : Around} {E : Value → Shared → Prop} {s : Shared} {h₀ : Heap} {L a b : Addr} {m : Str → Option Value} {news : List (Addr × Obj)} {x : Value} {l : List Value} {na nb : Nat} {Q : Value → Shared → Prop}
theorem add_cons (F : Fr h₀ L s.heap m) (N : News h₀ L s.heap news) (ha : (a, listOf #[x] na) ∈ news) (hb : (b, listOf l.toArray nb) ∈ news) (hz : l.length ≤ 1000)
    (h : ∀ D h', Fr h₀ L h' m → News h₀ L h' ((D, listOf (x :: l).toArray 0) :: news) → (∀ p ∈ news, p.1 < D) → Q (.ref D) { s with heap := h' }) : wpAny (model prog w) A (binaryOp .Add (.ref a) (.ref b)) Q E s :=
  kmk_add_lit (zs := x :: l) F N (N.isList ha) (N.isList hb) (by simp) h (by rw [sizeLine_eq]; simp; omega)
end
end Mine
end
section
open PySem PySem.W PyProof.Rows PySem.Spec PySem.Calls PyProof.V
namespace Mine
theorem forth_turn {w : World} {h₀ : Heap} {L : Addr} {s₁ : Shared} {h' : Heap} {tk : Nat} {S : List Str} {m m' : Str → Option Value} {all BASE nt extra : List (Addr × Obj)} {I2 NB NK X XD : Addr} {it oX ox1 ox2 : Obj} {bs kv : List Value} {k1 k2 j : Nat} {c1 c2 c3 c4 τ k : Int} {x1 x2 x3 x4 t : Tok} {D : List (Str × Int)} {keys : List Addr} {p : PM} {sm : SM} {Lv : Lev} {done : List (Int × Book)}
    (F : Fr h₀ L h' m') (N : News h₀ L h' all) (hI : (I2, it) ∈ all) (hNK : (NK, listOf (kv ++ [Value.int τ t]).toArray k1) ∈ all) (hNB : (NB, listOf (bs ++ [Value.ref X]).toArray k2) ∈ all) (hBASE : ∀ q ∈ BASE, q ∈ all) (hnt : ∀ q ∈ nt ++ extra, q ∈ all)
    (hX : (X, tupO [.int c1 x1, .int c2 x2, .int c3 x3, .int c4 x4, .ref XD]) ∈ all) (hXD : (XD, oX) ∈ all) (fX : ∀ b ∈ NB :: NK :: I2 :: keys, @Ne Nat X b ∧ @Ne Nat XD b) (hIo : OwnOff ((NK, ox1) :: (NB, ox2) :: (BASE ++ extra)) [I2])
    (hag : Agree S m m') (Hn : OwnOff nt (NB :: NK :: I2 :: keys)) (hbs : All2 (fun v (q : Int × Book) => BookIn w nt v q.2) bs done) (hkv : All2 (fun v (q : Int × Book) => ∃ t, v = .int q.1 t) kv done) (hdl : done.length = j)
    (hdn : ∀ (v : Nat) q, done[v]? = some q → NextB p sm k Lv (0 + (v : Int)) q) (dX : DictIs w XD oX D) (e : (⟨c1, c2, c3, c4, D⟩ : Book) = nextBook p sm k Lv τ (0 + (j : Int))) (hb : Best p Lv τ (0 + (j : Int))) :
    UnrEnd h₀ L s₁ I2 it (fun m' n' => Agree S m m' ∧ FInner w BASE extra NB NK (I2 :: keys) p sm k Lv (j + 1) m' n') { s₁ with heap := h', toks := tk } := by
  have kI := fun b hb => hIo b hb I2 (.head _)
  refine rturn_end F N ((NK, listOf (kv ++ [Value.int τ t]).toArray k1) :: (NB, listOf (bs ++ [Value.ref X]).toArray k2) :: (BASE ++ (((X, tupO [.int c1 x1, .int c2 x2, .int c3 x3, .int c4 x4, .ref XD]) :: (XD, oX) :: nt) ++ extra))) hI ?_ ?_ ⟨hag, bs ++ [Value.ref X], kv ++ [Value.int τ t], k1, k2, (X, tupO [.int c1 x1, .int c2 x2, .int c3 x3, .int c4 x4, .ref XD]) :: (XD, oX) :: nt, done ++ [(τ, ⟨c1, c2, c3, c4, D⟩)], rfl, ?_, ?_, ?_, ?_, ?_⟩
  · intro q hq
    simp only [List.mem_cons, List.mem_append] at hq
    rcases hq with h | h | h | (h | h | h) | h
    · rw [h]; exact hNK
    · rw [h]; exact hNB
    · exact hBASE q h
    · rw [h]; exact hX
    · rw [h]; exact hXD
    · exact hnt q (List.mem_append_left _ h)
    · exact hnt q (List.mem_append_right _ h)
  · intro q hq
    simp only [List.mem_cons, List.mem_append] at hq
    rcases hq with h | h | h | (h | h | h) | h
    · rw [h]; exact kI (NK, ox1) (.head _)
    · rw [h]; exact kI (NB, ox2) (.tail _ (.head _))
    · exact kI q (.tail _ (.tail _ (List.mem_append_left _ h)))
    · rw [h]; exact (fX I2 (.tail _ (.tail _ (.head _)))).1
    · rw [h]; exact (fX I2 (.tail _ (.tail _ (.head _)))).2
    · exact Hn q h I2 (.tail _ (.tail _ (.head _)))
    · exact kI q (.tail _ (.tail _ (List.mem_append_right _ h)))
  · intro q hq b hb
    rcases List.mem_cons.mp hq with rfl | hq
    · exact (fX b hb).1
    rcases List.mem_cons.mp hq with rfl | hq
    · exact (fX b hb).2
    exact Hn q hq b hb
  · exact (hbs.mono fun a b x => BookIn.mono (fun q hq => .tail _ (.tail _ hq)) x).snoc ⟨X, XD, oX, x1, x2, x3, x4, rfl, .head _, .tail _ (.head _), dX⟩
  · exact hkv.snoc ⟨t, rfl⟩
  · simp [hdl]
  · intro v q hq
    rw [List.getElem?_append] at hq
    split at hq
    · exact hdn v q hq
    · rename_i hv
      have ev : v = j := by
        have := List.getElem?_eq_some_iff.mp hq
        obtain ⟨h1, _⟩ := this
        simp at h1
        omega
      subst ev
      rw [hdl, Nat.sub_self] at hq
      simp at hq
      subst hq
      exact ⟨hb, e⟩
theorem level_of {w : World} {nt : List (Addr × Obj)} {bs kv : List Value} {done : List (Int × Book)} {p : PM} {sm : SM} {k : Int} {L : Lev} (hbs : All2 (fun v (q : Int × Book) => BookIn w nt v q.2) bs done) (hkv : All2 (fun v (q : Int × Book) => ∃ t, v = .int q.1 t) kv done) (hdl : done.length = 3)
    (hdn : ∀ (v : Nat) q, done[v]? = some q → NextB p sm k L (0 + (v : Int)) q) : ∃ v0 v1 v2 t0 t1 t2 L' T, bs = [v0, v1, v2] ∧ kv = [.int (T : T3).1 t0, .int T.2.1 t1, .int T.2.2 t2] ∧ BookIn w nt v0 (L' : Lev).1 ∧ BookIn w nt v1 L'.2.1 ∧ BookIn w nt v2 L'.2.2 ∧ NextL p sm k L L' T := by
  refine byP (fun P9 hP9 => ?_)
  obtain ⟨q0, q1, q2, rfl⟩ := len3' hdl
  obtain ⟨v0, v1, v2, rfl, a0, a1, a2⟩ := hbs.inv3
  obtain ⟨u0, u1, u2, rfl, ⟨t0, rfl⟩, ⟨t1, rfl⟩, ⟨t2, rfl⟩⟩ := hkv.inv3
  exact hP9 ⟨_, _, _, t0, t1, t2, (q0.2, q1.2, q2.2), (q0.1, q1.1, q2.1), rfl, rfl, a0, a1, a2, hdn 0 q0 rfl, hdn 1 q1 rfl, hdn 2 q2 rfl⟩
section
variable {prog : Program} {w : World} {A : Around} {E : Value → Shared → Prop} {s : Shared} {Q : Value → Shared → Prop} {h₀ : Heap} {L : Addr} {news : List (Addr × Obj)}
theorem item_tupF {value slice : Expr} {l : Addr} {vs : List Value} {k : Int} {u : Tok} {j : Nat} {x : Value} (N : News h₀ L s.heap news) (hm : (l, tupO vs) ∈ news) (hk : decide (0 ≤ k ∧ k < 2 ^ 63) = true) (hj : seqIndex? k vs.length = some j) (hx : vs[j]? = some x) (h : Q x s)
    (hs : subscripted slice false (.ref l) (.int k u) = operate [.ref l, .int k u] (getItem (.ref l) (.int k u)) := by with_unfolding_all rfl) :
    wpAny (model prog w) A (subscriptTail value slice (.ref l) (.int k u)) Q E s := by
  obtain ⟨h0, h1⟩ := of_decide_eq_true hk
  exact item_tupleT ⟨_, N.get hm, rfl, _, rfl⟩ (by omega) h1 hj hx h hs
end
end Mine
end
section
open PySem PyProof.Rows
local macro_rules | `(tactic| omega) => `(tactic| first | lia | omega +splitDisjunctions)
namespace Mine
structure SB (a₀ : Array Keyed) (p : Array (Nat × Nat × Nat)) (st : SortSt) : Prop where
  perm : (arrOf st).Perm a₀
  kind : kindOf st = oneType'
  failed : failedOf st = none
  pend : pendingOf st = p
theorem SB.size {a₀ : Array Keyed} {p} {st : SortSt} (h : SB a₀ p st) : (arrOf st).size = a₀.size := h.perm.size_eq
theorem SB.set {a₀ : Array Keyed} {p} {st : SortSt} (h : SB a₀ p st) {xs : Array Keyed} (hp : xs.Perm (arrOf st)) : SB a₀ p (setArr st xs) := ⟨hp.trans h.perm, h.kind, h.failed, h.pend⟩
theorem SB.at {a₀ : Array Keyed} {p} {st : SortSt} (h : SB a₀ p st) (h0 : IntKeys a₀) {i : Nat} (hi : i < a₀.size) : ∃ t q, (arrOf st)[i]? = some (.int (K (arrOf st) i) t, q) := by
  have hi' : i < (arrOf st).size := by rw [h.size]; exact hi
  have hm : (arrOf st)[i] ∈ a₀.toList := (Array.perm_iff_toList_perm.mp h.perm).mem_iff.mp (by simp)
  obtain ⟨n, t, hn⟩ := h0 _ hm
  have e : (arrOf st)[i]? = some (.int n t, (arrOf st)[i].2) := (getElem?_pos _ i hi').trans (congrArg some (Prod.ext hn rfl))
  refine ⟨t, (arrOf st)[i].2, e.trans ?_⟩
  unfold K
  rw [e]
  rfl
noncomputable def Seg (xs : Array Keyed) (lo hi : Nat) : Prop := ∀ i j, lo ≤ i → i ≤ j → j < hi → K xs i ≤ K xs j
noncomputable def Fall (xs : Array Keyed) (lo hi : Nat) : Prop := ∀ i j, lo ≤ i → i ≤ j → j < hi → K xs j ≤ K xs i
noncomputable def Pre (lo : Nat) (xs ys : Array Keyed) : Prop := ∀ i, i < lo → K ys i = K xs i
theorem Pre.trans {lo : Nat} {xs ys zs : Array Keyed} (h : Pre lo xs ys) (k : Pre lo ys zs) : Pre lo xs zs := fun i hi => (k i hi).trans (h i hi)
theorem Seg.one (xs : Array Keyed) (lo : Nat) : Seg xs lo (lo + 1) := fun i j h1 h2 h3 => by
  obtain rfl : i = j := Nat.le_antisymm h2 (Nat.le_trans (Nat.le_of_lt_succ h3) h1)
  exact Int.le_refl _
theorem Seg.more {xs : Array Keyed} {lo hi : Nat} (h : Seg xs lo hi) (k : lo < hi → K xs (hi - 1) ≤ K xs hi) : Seg xs lo (hi + 1) := by
  intro i j h1 h2 h3
  rcases Nat.lt_or_ge j hi with hj | hj
  · exact h i j h1 h2 hj
  · obtain rfl := Nat.le_antisymm hj (Nat.le_of_lt_succ h3)
    rcases Nat.eq_or_lt_of_le h2 with c | c
    · rw [c]; exact Int.le_refl _
    · exact Int.le_trans (h i (hi - 1) h1 (Nat.le_sub_one_of_lt c) (Nat.sub_one_lt_of_lt c)) (k (Nat.lt_of_le_of_lt h1 c))
theorem Fall.more {xs : Array Keyed} {lo hi : Nat} (h : Fall xs lo hi) (k : lo < hi → K xs hi ≤ K xs (hi - 1)) : Fall xs lo (hi + 1) := by
  intro i j h1 h2 h3
  rcases Nat.lt_or_ge j hi with hj | hj
  · exact h i j h1 h2 hj
  · obtain rfl := Nat.le_antisymm hj (Nat.le_of_lt_succ h3)
    rcases Nat.eq_or_lt_of_le h2 with c | c
    · rw [c]; exact Int.le_refl _
    · exact Int.le_trans (k (Nat.lt_of_le_of_lt h1 c)) (h i (hi - 1) h1 (Nat.le_sub_one_of_lt c) (Nat.sub_one_lt_of_lt c))
noncomputable def SFlat (xs : Array Keyed) (lo hi : Nat) : Prop := ∀ i, lo ≤ i → i < hi → K xs i = K xs (hi - 1)
theorem K_turn_flat {xs : Array Keyed} {i j : Nat} (hj : j ≤ xs.size) (he : SFlat xs i j) (k : Nat) : K (mirror xs i j ((j - i) / 2)) k = K xs k := K_mirror_equal hj he k
theorem K_turn_pre {xs : Array Keyed} {lo j : Nat} (hj : j ≤ xs.size) : Pre lo xs (mirror xs lo j ((j - lo) / 2)) := fun k hk => by rw [K_mirror hj, if_neg (fun h => absurd h.1 (Nat.not_le.mpr hk))]
theorem K_turn_seg {xs : Array Keyed} {lo j : Nat} (hj : j ≤ xs.size) (h : Fall xs lo j) : Seg (mirror xs lo j ((j - lo) / 2)) lo j := by
  intro a b h1 h2 h3
  have hl := Nat.le_trans h1 h2
  have hj0 := Nat.lt_of_le_of_lt (Nat.le_add_right lo _) (Nat.add_lt_add_left (Nat.lt_of_le_of_lt (Nat.zero_le b) h3) lo)
  rw [K_mirror hj, K_mirror hj, if_pos ⟨h1, Nat.lt_of_le_of_lt h2 h3⟩, if_pos ⟨hl, h3⟩]
  exact h _ _ (Nat.le_sub_of_add_le (Nat.le_sub_one_of_lt (Nat.add_lt_add_left h3 lo))) (Nat.sub_le_sub_left h2 _)
    (Nat.lt_of_le_of_lt (Nat.sub_le_sub_left h1 _) (Nat.sub_lt_left_of_lt_add (Nat.le_sub_one_of_lt hj0) (Nat.sub_one_lt_of_lt hj0)))
section
variable {prog : Program} {w : World} {A : Around} {E : Value → Shared → Prop} {s : Shared} {a₀ : Array Keyed} {p : Array (Nat × Nat × Nat)}
theorem wpS_lessK {st : SortSt} {i j : Nat} {Q : Option Bool → SortSt → Prop} (hB : SB a₀ p st) (h0 : IntKeys a₀) (hi : i < a₀.size) (hj : j < a₀.size)
    (h : Q (some (decide (K (arrOf st) i < K (arrOf st) j))) st) : wpS (model prog w) A E s (ltAt' i j) Q st := by
  obtain ⟨t, p, e1⟩ := hB.at h0 hi
  obtain ⟨u, q, e2⟩ := hB.at h0 hj
  exact wpS_ltAt hB.kind e1 e2 h
noncomputable def riseL (lo a nrem : Nat) : StateT SortSt Sem AscSt :=
  forIn [a:nrem] ((none, a) : AscSt) fun _ __s => do
    let __x ← ltAt' (lo + __s.snd) (lo + __s.snd - 1)
    match __x with
    | some smaller => if smaller = true then pure (ForInStep.done (none, __s.snd)) else pure (ForInStep.yield (none, __s.snd + 1))
    | _ => pure (ForInStep.done (some none, __s.snd))
noncomputable def lastL (lo n nrem : Nat) : StateT SortSt Sem (Option Nat) := do
  reverseSlice' lo (lo + n)
  let __s ← riseL lo n nrem
  match __s.fst with
  | some r => pure r
  | none => pure (some __s.snd)
noncomputable def fallL (lo n nrem : Nat) : StateT SortSt Sem DescSt :=
  forIn [n:nrem] ((none, n, 0) : DescSt) fun _ __s => do
    let __x ← ltAt' (lo + __s.snd.fst) (lo + __s.snd.fst - 1)
    match __x with
    | some smaller =>
      if smaller = true then
        if __s.snd.snd > 0 then do
          reverseSlice' (lo + __s.snd.fst - (__s.snd.snd + 1)) (lo + __s.snd.fst)
          pure (ForInStep.yield (none, __s.snd.fst + 1, 0))
        else pure (ForInStep.yield (none, __s.snd.fst + 1, 0))
      else do
        let __x ← ltAt' (lo + __s.snd.fst - 1) (lo + __s.snd.fst)
        match __x with
        | some larger =>
          if larger = true then pure (ForInStep.done (none, __s.snd.fst, __s.snd.snd))
          else pure (ForInStep.yield (none, __s.snd.fst + 1, __s.snd.snd + 1))
        | _ => pure (ForInStep.done (some none, __s.snd.fst, __s.snd.snd))
    | _ => pure (ForInStep.done (some none, __s.snd.fst, __s.snd.snd))
noncomputable def downL (lo n nrem : Nat) : StateT SortSt Sem (Option Nat) := do
  liftM (rule "list.sort.descending-run")
  let __s ← fallL lo (n + 1) nrem
  match __s.fst with
  | some r => pure r
  | none =>
    if __s.snd.snd > 0 then do
      reverseSlice' (lo + __s.snd.fst - (__s.snd.snd + 1)) (lo + __s.snd.fst)
      lastL lo __s.snd.fst nrem
    else lastL lo __s.snd.fst nrem
theorem countRun_is (lo nrem : Nat) : countRun' lo nrem = (do
    let __s ← riseL lo 1 nrem
    match __s.fst with
    | some r => pure r
    | none =>
      if (__s.snd == nrem) = true then pure (some __s.snd)
      else if __s.snd > 1 then do
        let __x ← ltAt' lo (lo + __s.snd - 1)
        match __x with
        | some rose => if rose = true then pure (some __s.snd) else do
            reverseSlice' lo (lo + __s.snd)
            downL lo __s.snd nrem
        | _ => pure none
      else downL lo __s.snd nrem) := by kernel_rfl
theorem wpS_turn {st : SortSt} {i j : Nat} {Q : Unit → SortSt → Prop} (h : Q () (setArr st (mirror (arrOf st) i j ((j - i) / 2)))) : wpS (model prog w) A E s (reverseSlice' i j) Q st := by
  rw [reverseSlice'_eq]; exact wpS_modify h
theorem wpS_riseL {st : SortSt} {lo a nrem : Nat} {Q : AscSt → SortSt → Prop} (h0 : IntKeys a₀) (hn : lo + nrem ≤ a₀.size) (han : a ≤ nrem) (hB : SB a₀ p st)
    (hs : Seg (arrOf st) lo (lo + a))
    (h : ∀ n, a ≤ n → n ≤ nrem → Seg (arrOf st) lo (lo + n) → (n = nrem ∨ K (arrOf st) (lo + n) < K (arrOf st) (lo + n - 1)) → Q (none, n) st) : wpS (model prog w) A E s (riseL lo a nrem) Q st := by
  unfold riseL
  refine wpS_forRange (I := fun x c st' => st' = st ∧ c = (none, x) ∧ Seg (arrOf st) lo (lo + x)) (fun x c st' hax hxn hI => ?step) (fun c st' hI => ?fin) ⟨rfl, rfl, hs⟩
  case fin =>
    rw [Nat.max_eq_right han] at hI
    rw [hI.1, hI.2.1]
    exact h nrem han (Nat.le_refl _) hI.2.2 (.inl rfl)
  case step =>
    obtain ⟨e1, e2, hs'⟩ := hI
    subst e1 e2
    have hx := Nat.lt_of_lt_of_le (Nat.add_lt_add_left hxn lo) hn
    refine wpS_bind (wpS_lessK hB h0 hx (Nat.lt_of_le_of_lt (Nat.sub_le _ _) hx) ?_)
    dsimp only
    by_cases hless : K (arrOf st') (lo + x) < K (arrOf st') (lo + x - 1)
    · rw [decide_eq_true hless, if_pos rfl]
      exact wpS_pure (h x hax (Nat.le_of_lt hxn) hs' (.inr hless))
    · rw [decide_eq_false hless, if_neg Bool.false_ne_true]
      exact wpS_pure ⟨rfl, rfl, Seg.more (hi := lo + x) hs' fun _ => Int.not_lt.mp hless⟩
theorem wpS_lastL {st : SortSt} {lo n nrem : Nat} {Q : Option Nat → SortSt → Prop} (h0 : IntKeys a₀) (hn : lo + nrem ≤ a₀.size) (h1 : 1 ≤ n) (hnn : n ≤ nrem) (hB : SB a₀ p st)
    (hs : Fall (arrOf st) lo (lo + n)) (h : ∀ m st', SB a₀ p st' → Pre lo (arrOf st) (arrOf st') → 1 ≤ m → m ≤ nrem → Seg (arrOf st') lo (lo + m) → Q (some m) st') : wpS (model prog w) A E s (lastL lo n nrem) Q st := by
  unfold lastL
  have hsz : lo + n ≤ (arrOf st).size := hB.size ▸ Nat.le_trans (Nat.add_le_add_left hnn lo) hn
  have hB' : SB a₀ p (setArr st (mirror (arrOf st) lo (lo + n) ((lo + n - lo) / 2))) := hB.set (mirror_perm _ _ _ _)
  exact wpS_bind (wpS_turn (wpS_bind (wpS_riseL h0 hn hnn hB' (K_turn_seg hsz hs) fun m hm1 hm2 hsm _ => wpS_pure (h m _ hB' (K_turn_pre hsz) (Nat.le_trans h1 hm1) hm2 hsm))))
structure FallI (a₀ : Array Keyed) (p : Array (Nat × Nat × Nat)) (xs : Array Keyed) (lo x nq : Nat) (st : SortSt) : Prop where
  b : SB a₀ p st
  p : Pre lo xs (arrOf st)
  s : Fall (arrOf st) lo (lo + x)
  q : nq + 1 ≤ x
  f : SFlat (arrOf st) (lo + x - (nq + 1)) (lo + x)
theorem SFlat.one (xs : Array Keyed) (hi : Nat) : SFlat xs (hi - 1) hi := fun i h1 h2 => congrArg (K xs) (Nat.le_antisymm (Nat.le_sub_one_of_lt h2) h1)
theorem wpS_fallL {st : SortSt} {lo n nrem : Nat} {Q : DescSt → SortSt → Prop} (h0 : IntKeys a₀) (hn : lo + nrem ≤ a₀.size) (h1 : 1 ≤ n) (hnn : n ≤ nrem) (hB : SB a₀ p st)
    (hs : Fall (arrOf st) lo (lo + n))
    (h : ∀ m neq st', FallI a₀ p (arrOf st) lo m neq st' → n ≤ m → m ≤ nrem → Q (none, m, neq) st') :
    wpS (model prog w) A E s (fallL lo n nrem) Q st := by
  unfold fallL
  refine wpS_forRange (I := fun x c st' => c.1 = none ∧ c.2.1 = x ∧ FallI a₀ p (arrOf st) lo x c.2.2 st') (fun x c st' hax hxn hI => ?step) (fun c st' hI => ?fin)
    ⟨rfl, rfl, hB, fun _ _ => rfl, hs, h1, SFlat.one _ _⟩
  case fin =>
    rw [Nat.max_eq_right hnn] at hI
    obtain ⟨cn, cx, q⟩ := c
    obtain ⟨e1, e2, g⟩ := hI
    dsimp only at e1 e2 g
    subst e1 e2
    exact h _ q st' g hnn (Nat.le_refl _)
  case step =>
    obtain ⟨cn, cx, neq⟩ := c
    obtain ⟨e1, e2, g⟩ := hI
    dsimp only at e1 e2 g ⊢
    subst e1 e2
    have hx := Nat.lt_of_lt_of_le (Nat.add_lt_add_left hxn lo) hn
    have hx' := Nat.lt_of_le_of_lt (Nat.sub_le (lo + cx) 1) hx
    have hsz : lo + cx ≤ (arrOf st').size := g.b.size ▸ Nat.le_of_lt hx
    refine wpS_bind (wpS_lessK g.b h0 hx hx' ?_)
    dsimp only
    by_cases hless : K (arrOf st') (lo + cx) < K (arrOf st') (lo + cx - 1)
    · rw [decide_eq_true hless, if_pos rfl]
      have step1 : ∀ xs : Array Keyed, (∀ k, K xs k = K (arrOf st') k) → Fall xs lo (lo + (cx + 1)) := fun xs hk =>
        Fall.more (hi := lo + cx) (fun i j a b c => by rw [hk, hk]; exact g.s i j a b c) (fun _ => by rw [hk, hk]; exact Int.le_of_lt hless)
      by_cases hneq : neq > 0
      · rw [if_pos hneq]
        exact wpS_bind (wpS_turn (wpS_pure ⟨rfl, rfl, g.b.set (mirror_perm _ _ _ _), g.p.trans fun i _ => K_turn_flat hsz g.f i, step1 _ (K_turn_flat hsz g.f), Nat.le_add_left _ _, SFlat.one _ _⟩))
      · rw [if_neg hneq]
        exact wpS_pure ⟨rfl, rfl, g.b, g.p, step1 _ (fun _ => rfl), Nat.le_add_left _ _, SFlat.one _ _⟩
    · rw [decide_eq_false hless, if_neg Bool.false_ne_true]
      refine wpS_bind (wpS_lessK g.b h0 hx' hx ?_)
      dsimp only
      by_cases hlarger : K (arrOf st') (lo + cx - 1) < K (arrOf st') (lo + cx)
      · rw [decide_eq_true hlarger, if_pos rfl]
        exact wpS_pure (h cx neq st' g hax (Nat.le_of_lt hxn))
      · rw [decide_eq_false hlarger, if_neg Bool.false_ne_true]
        have heqx : K (arrOf st') (lo + cx) = K (arrOf st') (lo + cx - 1) := Int.le_antisymm (Int.not_lt.mp hlarger) (Int.not_lt.mp hless)
        refine wpS_pure ⟨rfl, rfl, g.b, g.p, Fall.more (hi := lo + cx) g.s (fun _ => Int.le_of_eq heqx), Nat.succ_le_succ g.q, fun i h1 h2 => ?_⟩
        show K (arrOf st') i = K (arrOf st') (lo + cx)
        rcases Nat.eq_or_lt_of_le (Nat.le_of_lt_succ h2) with c | c
        · exact congrArg (K (arrOf st')) c
        · rw [heqx]
          refine g.f i (Nat.le_trans (Nat.le_of_eq ?_) h1) c
          show lo + cx - (neq + 1) = lo + cx + 1 - (neq + 1 + 1)
          exact (Nat.add_sub_add_right _ 1 _).symm
theorem wpS_downL {st : SortSt} {lo n nrem : Nat} {Q : Option Nat → SortSt → Prop} (h0 : IntKeys a₀) (hn : lo + nrem ≤ a₀.size) (hnn : n + 1 ≤ nrem) (hB : SB a₀ p st)
    (hs : Fall (arrOf st) lo (lo + (n + 1))) (h : ∀ m st', SB a₀ p st' → Pre lo (arrOf st) (arrOf st') → 1 ≤ m → m ≤ nrem → Seg (arrOf st') lo (lo + m) → Q (some m) st') : wpS (model prog w) A E s (downL lo n nrem) Q st := by
  unfold downL
  refine wpS_bind (wpS_lift (wpAny_rule ⟨rfl, wpS_bind (wpS_fallL h0 hn (Nat.le_add_left 1 n) hnn hB hs fun m neq st' g hm1 hm2 => ?_)⟩))
  dsimp only
  have hsz : lo + m ≤ (arrOf st').size := g.b.size ▸ Nat.le_trans (Nat.add_le_add_left hm2 lo) hn
  have h1m := Nat.le_trans (Nat.le_add_left 1 n) hm1
  by_cases hneq : neq > 0
  · rw [if_pos hneq]
    exact wpS_bind (wpS_turn (wpS_lastL h0 hn h1m hm2 (g.b.set (mirror_perm _ _ _ _)) (fun i j a b c => by
      show K (mirror (arrOf st') _ _ _) j ≤ K (mirror (arrOf st') _ _ _) i
      rw [K_turn_flat hsz g.f, K_turn_flat hsz g.f]; exact g.s i j a b c) fun m' st'' b1 b2 => h m' st'' b1 ((g.p.trans fun i _ => K_turn_flat hsz g.f i).trans b2)))
  · rw [if_neg hneq]
    exact wpS_lastL h0 hn h1m hm2 g.b g.s fun m' st'' b1 b2 => h m' st'' b1 (g.p.trans b2)
theorem wpS_runL {st : SortSt} {lo nrem : Nat} {Q : Option Nat → SortSt → Prop} (h0 : IntKeys a₀) (hn : lo + nrem ≤ a₀.size) (h1 : 1 ≤ nrem) (hB : SB a₀ p st)
    (h : ∀ m st', SB a₀ p st' → Pre lo (arrOf st) (arrOf st') → 1 ≤ m → m ≤ nrem → Seg (arrOf st') lo (lo + m) → Q (some m) st') : wpS (model prog w) A E s (countRun' lo nrem) Q st := by
  rw [countRun_is]
  refine wpS_bind (wpS_riseL h0 hn h1 hB (Seg.one _ _) fun n hn1 hn2 hsn hor => ?_)
  dsimp only
  by_cases hnn : n = nrem
  · rw [if_pos (beq_iff_eq.mpr hnn)]
    exact wpS_pure (h n st hB (fun _ _ => rfl) hn1 hn2 hsn)
  · rw [if_neg (fun e => hnn (beq_iff_eq.mp e))]
    have hlt : K (arrOf st) (lo + n) < K (arrOf st) (lo + n - 1) := hor.resolve_left hnn
    have hnr := Nat.lt_of_le_of_ne hn2 hnn
    by_cases hgt : n > 1
    · rw [if_pos hgt]
      have hx := Nat.lt_of_lt_of_le (Nat.add_lt_add_left hnr lo) hn
      have hl1 : lo < lo + n := Nat.lt_add_of_pos_right hn1
      refine wpS_bind (wpS_lessK hB h0 (Nat.lt_trans hl1 hx) (Nat.lt_of_le_of_lt (Nat.sub_le _ _) hx) ?_)
      dsimp only
      by_cases hrose : K (arrOf st) lo < K (arrOf st) (lo + n - 1)
      · rw [decide_eq_true hrose, if_pos rfl]
        exact wpS_pure (h n st hB (fun _ _ => rfl) hn1 hn2 hsn)
      · rw [decide_eq_false hrose, if_neg Bool.false_ne_true]
        have hsz : lo + n ≤ (arrOf st).size := hB.size ▸ Nat.le_of_lt hx
        have hall : SFlat (arrOf st) lo (lo + n) := fun k hk1 hk =>
          Int.le_antisymm (hsn k (lo + n - 1) hk1 (Nat.le_sub_one_of_lt hk) (Nat.sub_one_lt_of_lt hl1)) (Int.le_trans (Int.not_lt.mp hrose) (hsn lo k (Nat.le_refl _) hk1 hk))
        refine wpS_bind (wpS_turn (wpS_downL h0 hn hnr (hB.set (mirror_perm _ _ _ _)) ?_ fun m st' b1 b2 => h m st' b1 (Pre.trans (fun i _ => K_turn_flat hsz hall i) b2)))
        refine Fall.more (hi := lo + n) (fun i j a b c => ?_) fun _ => ?_
        · show K (mirror (arrOf st) _ _ _) j ≤ K (mirror (arrOf st) _ _ _) i
          rw [K_turn_flat hsz hall, K_turn_flat hsz hall, hall i a (Nat.lt_of_le_of_lt b c), hall j (Nat.le_trans a b) c]; exact Int.le_refl _
        · show K (mirror (arrOf st) _ _ _) _ ≤ K (mirror (arrOf st) _ _ _) _
          rw [K_turn_flat hsz hall, K_turn_flat hsz hall]; exact Int.le_of_lt hlt
    · rw [if_neg hgt]
      obtain rfl := Nat.le_antisymm (Nat.not_lt.mp hgt) hn1
      refine wpS_downL h0 hn hnr hB (Fall.more (hi := lo + 1) (fun i j a b c => ?_) fun _ => Int.le_of_lt hlt) h
      exact Seg.one (arrOf st) lo j i (Nat.le_trans a b) (Nat.le_trans (Nat.le_of_lt_succ c) a) (Nat.lt_of_le_of_lt b c)
noncomputable abbrev RI := Option Bool × Nat × Nat
noncomputable def insB (lo k l r : Nat) : StateT SortSt Sem (ForInStep RI) :=
  if l ≥ r then pure (.done (none, l, r)) else do
    let some less ← ltAt' (lo + k) (lo + (l + r) / 2) | pure (.done (some false, l, r))
    if less then pure (.yield (none, l, (l + r) / 2)) else pure (.yield (none, (l + r) / 2 + 1, r))
noncomputable def insT (lo k : Nat) : StateT SortSt Sem (ForInStep (Option Bool × PUnit)) := do
  let c ← forIn [0:k] ((none, 0, k) : RI) fun _ c => insB lo k c.2.1 c.2.2
  match c.1 with
  | some b => pure (.done (some b, ⟨⟩))
  | none => do
    moveDown' (lo + k) (lo + c.2.1)
    pure (.yield (none, ⟨⟩))
theorem binL_eq (lo n ok : Nat) : binarySort' lo n ok = (do
  let c ← forIn [max ok 1:n] ((none, ⟨⟩) : Option Bool × PUnit) fun k _ => insT lo k
  match c.1 with
  | some b => pure b
  | none => pure true) := by kernel_rfl
theorem half_eq {l r : Nat} (h : l ≤ r) : (l + r) / 2 = l + (r - l) / 2 := by
  have e : l + r = (r - l) + l * 2 := by rw [Nat.mul_two, ← Nat.add_assoc, Nat.sub_add_cancel h, Nat.add_comm]
  rw [e, Nat.add_mul_div_right _ _ Nat.zero_lt_two, Nat.add_comm]
theorem bub_seg {xs : Array Keyed} {lo k l : Nat} (hk : lo + k < xs.size) (hl : l ≤ k) (hs : Seg xs lo (lo + k)) (h1 : ∀ i, i < l → K xs (lo + i) ≤ K xs (lo + k)) (h2 : ∀ i, l ≤ i → i < k → K xs (lo + k) < K xs (lo + i)) :
    Pre lo xs (bubble xs (lo + k) (lo + k - (lo + l))) ∧ Seg (bubble xs (lo + k) (lo + k - (lo + l))) lo (lo + (k + 1)) := by
  have e : ∀ i, K (bubble xs (lo + k) (lo + k - (lo + l))) i = if i = lo + l then K xs (lo + k) else if lo + l < i ∧ i ≤ lo + k then K xs (i - 1) else K xs i := fun i => by
    have := K_bubble hk (d := lo + k - (lo + l)) (Nat.sub_le _ _) i
    rwa [Nat.sub_sub_self (Nat.add_le_add_left hl lo)] at this
  generalize bubble xs (lo + k) (lo + k - (lo + l)) = ys at e ⊢
  have a1 : ∀ i, i < lo + l → K ys i = K xs i := fun i h => by rw [e, if_neg (Nat.ne_of_lt h), if_neg (fun h' => Nat.lt_asymm h h'.1)]
  have a2 : K ys (lo + l) = K xs (lo + k) := by rw [e, if_pos rfl]
  have a3 : ∀ i, lo + l ≤ i → i < lo + k → K ys (i + 1) = K xs i := fun i h h' => by rw [e, if_neg (Nat.ne_of_gt (Nat.lt_succ_of_le h)), if_pos ⟨Nat.lt_succ_of_le h, h'⟩]; rfl
  have b3 : ∀ j, lo + l < j → j < lo + (k + 1) → ∃ j', j = j' + 1 ∧ lo + l ≤ j' ∧ j' < lo + k ∧ K ys j = K xs j' := fun j h h' => by
    cases j with
    | zero => cases h
    | succ j => exact ⟨j, rfl, Nat.le_of_lt_succ h, Nat.lt_of_succ_lt_succ h', a3 j (Nat.le_of_lt_succ h) (Nat.lt_of_succ_lt_succ h')⟩
  clear e a3
  refine ⟨fun i hi => a1 i (Nat.lt_of_lt_of_le hi (Nat.le_add_right _ _)), fun i j h3 h4 h5 => ?_⟩
  rcases Nat.lt_trichotomy j (lo + l) with d | d | d
  · rw [a1 i (Nat.lt_of_le_of_lt h4 d), a1 j d]
    exact hs i j h3 h4 (Nat.lt_of_lt_of_le d (Nat.add_le_add_left hl lo))
  · subst d
    rw [a2]
    rcases Nat.eq_or_lt_of_le h4 with c | c
    · rw [c, a2]; exact Int.le_refl _
    · rw [a1 i c]
      obtain ⟨i, rfl⟩ := Nat.exists_eq_add_of_le h3
      exact h1 i (Nat.lt_of_add_lt_add_left c)
  · obtain ⟨j', e1, d1, d2, d3⟩ := b3 j d h5
    rw [d3]
    rcases Nat.lt_trichotomy i (lo + l) with c | c | c
    · rw [a1 i c]
      exact hs i j' h3 (Nat.le_of_lt (Nat.lt_of_lt_of_le c d1)) d2
    · rw [c, a2]
      obtain ⟨j', rfl⟩ := Nat.exists_eq_add_of_le (Nat.le_trans (Nat.le_add_right _ _) d1)
      exact Int.le_of_lt (h2 j' (Nat.le_of_add_le_add_left d1) (Nat.lt_of_add_lt_add_left d2))
    · obtain ⟨i', e2, c1, c2, c3⟩ := b3 i c (Nat.lt_of_le_of_lt h4 h5)
      rw [c3]
      subst e1 e2
      exact hs i' j' (Nat.le_trans (Nat.le_add_right _ _) c1) (Nat.le_of_succ_le_succ h4) d2
structure InsI (a₀ : Array Keyed) (p : Array (Nat × Nat × Nat)) (xs : Array Keyed) (lo k : Nat) (st : SortSt) : Prop where
  b : SB a₀ p st
  p : Pre lo xs (arrOf st)
  s : Seg (arrOf st) lo (lo + k)
variable {st : SortSt}
theorem wpS_loopK {β : Type} {n : Nat} {f : β → StateT SortSt Sem (ForInStep β)} (I : Nat → β → Prop) {Q : β → Prop} {R : β → SortSt → Prop}
    (step : ∀ x c, x < n → I x c → wpS (model prog w) A E s (f c) (fun r st' => st' = st ∧ match r with | .done c' => Q c' | .yield c' => I (x + 1) c') st)
    (fin : ∀ c, I n c → Q c) {c : β} (h : I 0 c) (k : ∀ c, Q c → R c st) : wpS (model prog w) A E s (forIn [0:n] c fun _ c => f c) R st :=
  wpS_mono (wpS_forRange (I := fun x c st' => st' = st ∧ I x c) (Q := fun c st' => st' = st ∧ Q c)
    (fun x c st' _ hx hI => by
      obtain ⟨e, hI⟩ := hI
      subst e
      refine wpS_mono (step x c hx hI) fun r st2 h => ?_
      cases r <;> exact h)
    (fun c st' h => ⟨h.1, fin c (Nat.max_eq_right (Nat.zero_le n) ▸ h.2)⟩) ⟨rfl, h⟩) fun c st' h => h.1 ▸ k c h.2
structure GB {α : Type} (T : Nat → Bool) (n x : Nat) (c : Option α × Nat × Nat) : Prop where
  e : c.1 = none
  l : c.2.1 ≤ c.2.2
  h : c.2.2 ≤ n
  m : c.2.2 - c.2.1 ≤ n - x
  t : ∀ i, i < c.2.1 → T i = true
  f : ∀ i, c.2.2 ≤ i → i < n → T i = false
theorem bin_nat {lo hi n x : Nat} (h2 : hi ≤ n) (h3 : hi - lo ≤ n - x) (hx : x < n) (hlt : lo < hi) : lo + (hi - lo) / 2 < hi ∧ hi - (lo + (hi - lo) / 2 + 1) ≤ n - (x + 1) ∧ lo + (hi - lo) / 2 - lo ≤ n - (x + 1) := by
  have h : (hi - lo) / 2 < hi - lo := Nat.div_lt_self (Nat.sub_pos_of_lt hlt) (Nat.le_refl 2)
  revert h
  generalize (hi - lo) / 2 = m
  intro h
  refine ⟨Nat.add_lt_of_lt_sub' h, ?_, ?_⟩
  · rw [Nat.add_assoc, Nat.sub_add_eq]
    exact Nat.le_trans (Nat.sub_le_sub_left (Nat.le_add_left 1 m) _) (Nat.sub_le_sub_right h3 1)
  · rw [Nat.add_sub_cancel_left]
    exact Nat.le_pred_of_lt (Nat.lt_of_lt_of_le h h3)
theorem wpS_insT {xs : Array Keyed} {lo k n : Nat} (h0 : IntKeys a₀) (hn : lo + n ≤ a₀.size) (hkn : k < n) (hI : InsI a₀ p xs lo k st) : wpS (model prog w) A E s (insT lo k) (fun r st' => r = .yield (none, ⟨⟩) ∧ InsI a₀ p xs lo (k + 1) st') st := by
  unfold insT
  obtain ⟨hB, hP, hs⟩ := hI
  have hk : lo + k < a₀.size := Nat.lt_of_lt_of_le (Nat.add_lt_add_left hkn lo) hn
  refine wpS_bind (wpS_loopK (GB (fun i => !decide (K (arrOf st) (lo + k) < K (arrOf st) (lo + i))) k) (Q := fun c => GB (fun i => !decide (K (arrOf st) (lo + k) < K (arrOf st) (lo + i))) k k c) ?_ (fun c h => h)
    ⟨rfl, Nat.zero_le _, Nat.le_refl _, Nat.le_refl _, fun i h => absurd h (Nat.not_lt_zero _), fun i h h' => absurd h' (Nat.not_lt.mpr h)⟩ fun c g => ?_)
  · intro x c hx g
    obtain ⟨cn, l, r⟩ := c
    obtain ⟨g1, g2, g3, g4, g5, g6⟩ := g
    dsimp only at g1 g2 g3 g4 g5 g6 ⊢
    subst g1
    unfold insB
    by_cases hge : l ≥ r
    · rw [if_pos hge]
      exact wpS_pure ⟨rfl, rfl, g2, g3, by show r - l ≤ k - k; rw [Nat.sub_eq_zero_of_le hge]; exact Nat.zero_le _, g5, g6⟩
    · rw [if_neg hge, half_eq g2]
      obtain ⟨m1, m2, m3⟩ := bin_nat g3 g4 hx (Nat.lt_of_not_le hge)
      generalize hmid : l + (r - l) / 2 = m at m1 m2 m3 ⊢
      have hmk := Nat.lt_of_lt_of_le m1 g3
      refine wpS_bind (wpS_lessK hB h0 hk (Nat.lt_trans (Nat.add_lt_add_left hmk lo) hk) ?_)
      dsimp only
      by_cases hless : K (arrOf st) (lo + k) < K (arrOf st) (lo + m)
      · rw [decide_eq_true hless, if_pos rfl]
        exact wpS_pure ⟨rfl, rfl, hmid ▸ Nat.le_add_right _ _, Nat.le_of_lt hmk, m3, g5, fun i h1 h2 => by
          rw [decide_eq_true (Int.lt_of_lt_of_le hless (hs _ _ (Nat.le_add_right _ _) (Nat.add_le_add_left h1 lo) (Nat.add_lt_add_left h2 lo)))]; rfl⟩
      · rw [decide_eq_false hless, if_neg Bool.false_ne_true]
        exact wpS_pure ⟨rfl, rfl, m1, g3, m2, fun i h1 => by
          rw [decide_eq_false (Int.not_lt.mpr (Int.le_trans (hs _ _ (Nat.le_add_right _ _) (Nat.add_le_add_left (Nat.le_of_lt_succ h1) lo) (Nat.add_lt_add_left hmk lo)) (Int.not_lt.mp hless)))]; rfl, g6⟩
  · obtain ⟨cn, l, r⟩ := c
    obtain ⟨g1, g2, g3, g4, g5, g6⟩ := g
    dsimp only at g1 g2 g3 g4 g5 g6 ⊢
    subst g1
    rw [Nat.sub_self, Nat.le_zero, Nat.sub_eq_zero_iff_le] at g4
    obtain rfl := Nat.le_antisymm g2 g4
    dsimp only
    rw [moveDown'_eq]
    obtain ⟨q1, q2⟩ := bub_seg (hB.size ▸ hk) g3 hs (fun i h => Int.not_lt.mp (of_decide_eq_false (Bool.not_eq_true' _ ▸ g5 i h))) (fun i h h' => of_decide_eq_true (Bool.not_eq_false' _ ▸ g6 i h h'))
    exact wpS_bind (wpS_modify (wpS_pure ⟨rfl, hB.set (bubble_perm _ _ _), hP.trans q1, q2⟩))
theorem wpS_insL {lo n ok : Nat} {Q : Bool → SortSt → Prop} (h0 : IntKeys a₀) (hn : lo + n ≤ a₀.size) (hok : ok ≤ n) (h1 : 1 ≤ n) (hB : SB a₀ p st) (hs : Seg (arrOf st) lo (lo + ok))
    (h : ∀ st', SB a₀ p st' → Pre lo (arrOf st) (arrOf st') → Seg (arrOf st') lo (lo + n) → Q true st') : wpS (model prog w) A E s (binarySort' lo n ok) Q st := by
  rw [binL_eq]
  refine wpS_bind (wpS_mono (wpS_forRange (I := fun k c st' => c.1 = none ∧ InsI a₀ p (arrOf st) lo k st') (Q := fun c st' => c.1 = none ∧ InsI a₀ p (arrOf st) lo n st') (fun k c st' _ hkn hI => ?step) (fun c st' hI => ?fin) ⟨rfl, hB, fun _ _ => rfl, ?init⟩) fun c st' hI => ?post)
  case step => exact wpS_mono (wpS_insT h0 hn hkn hI.2) fun r st2 g => by obtain ⟨rfl, g⟩ := g; exact ⟨rfl, g⟩
  case fin => exact Nat.max_eq_right (Nat.max_le.mpr ⟨hok, h1⟩) ▸ hI
  case init =>
    rcases Nat.eq_zero_or_pos ok with e | e
    · subst e; exact Seg.one _ _
    · rw [Nat.max_eq_left e]; exact hs
  case post =>
    obtain ⟨cn, u⟩ := c
    obtain ⟨e, g1, g2, g3⟩ := hI
    dsimp only at e
    subst e
    exact wpS_pure (h st' g1 g2 g3)
end
end Mine
end
section
open PySem PyProof.Rows
namespace Mine
noncomputable abbrev num (p : Keyed) : Int := numOf p.1
noncomputable def gallop' : Bool → Keyed → Array Keyed → Nat → Nat → Nat → StateT SortSt Sem (Option Nat) := sortPriv% PySem.Builtin.gallop
noncomputable def bey' (left : Bool) (key : Keyed) (arr : Array Keyed) (base i : Nat) : StateT SortSt Sem (Option Bool) := do
  let x ← elem' arr (base + i)
  if left then lt' x key else return (← lt' key x).map (!·)
noncomputable abbrev RG := Option (Option Nat) × Nat × Nat
noncomputable def gPos (up : Bool) (hint x : Nat) : Nat := bif up then hint + x else hint - x
noncomputable def gGo (up left : Bool) (key : Keyed) (arr : Array Keyed) (base hint mx la of : Nat) : StateT SortSt Sem (ForInStep RG) :=
  if of ≥ mx then pure (.done (none, la, of)) else do
    let some more ← bey' left key arr base (gPos up hint of) | pure (.done (some none, la, of))
    if (bif up then !more else more) then pure (.done (none, la, of)) else pure (.yield (none, of, 2 * of + 1))
noncomputable def gBin (left : Bool) (key : Keyed) (arr : Array Keyed) (base lo hi : Nat) : StateT SortSt Sem (ForInStep RG) :=
  if lo ≥ hi then pure (.done (none, lo, hi)) else do
    let some more ← bey' left key arr base (lo + (hi - lo) / 2) | pure (.done (some none, lo, hi))
    if more then pure (.yield (none, lo + (hi - lo) / 2 + 1, hi)) else pure (.yield (none, lo, lo + (hi - lo) / 2))
noncomputable def gEnd (left : Bool) (key : Keyed) (arr : Array Keyed) (base n lo hi : Nat) : StateT SortSt Sem (Option Nat) := do
  let c ← forIn [0:n] ((none, lo, hi) : RG) fun _ c => gBin left key arr base c.2.1 c.2.2
  match c.1 with
  | some r => pure r
  | none => pure (some c.2.2)
theorem gallop'_eq (left : Bool) (key : Keyed) (arr : Array Keyed) (base n hint : Nat) : gallop' left key arr base n hint = (do
  let some right ← bey' left key arr base hint | pure none
  if right then do
    let c ← forIn [0:n] ((none, 0, 1) : RG) fun _ c => gGo true left key arr base hint (n - hint) c.2.1 c.2.2
    match c.1 with
    | some r => pure r
    | none => gEnd left key arr base n (hint + c.2.1 + 1) (hint + min c.2.2 (n - hint))
  else do
    let c ← forIn [0:n] ((none, 0, 1) : RG) fun _ c => gGo false left key arr base hint (hint + 1) c.2.1 c.2.2
    match c.1 with
    | some r => pure r
    | none => gEnd left key arr base n (hint + 1 - min c.2.2 (hint + 1)) (hint - c.2.1)) := by kernel_rfl
noncomputable def kb (left : Bool) (x key : Int) : Bool := if left then decide (x < key) else !decide (key < x)
theorem kb_t {x y : Int} (h : kb true x y = true) : x < y := of_decide_eq_true h
theorem kb_f {x y : Int} (h : kb true x y = false) : y ≤ x := Int.not_lt.mp (of_decide_eq_false h)
theorem kb_ft {x y : Int} (h : kb false x y = true) : x ≤ y := Int.not_lt.mp (of_decide_eq_false (Bool.not_eq_true' _ ▸ h))
theorem kb_ff {x y : Int} (h : kb false x y = false) : y < x := of_decide_eq_true (Bool.not_eq_false' _ ▸ h)
theorem kb_mono {left : Bool} {x y key : Int} (h : x ≤ y) (k : kb left y key = true) : kb left x key = true := by
  cases left with
  | true => exact decide_eq_true (Int.lt_of_le_of_lt h (kb_t k))
  | false => exact (congrArg (!·) (decide_eq_false (Int.not_lt.mpr (Int.le_trans h (kb_ft k)))))
theorem key_at {arr : Array Keyed} (h : IntKeys arr) {i : Nat} (hi : i < arr.size) : ∃ t q, arr[i]? = some (.int (K arr i) t, q) := by
  obtain ⟨n, t, hn⟩ := h arr[i] (by simp)
  have e : arr[i]? = some (.int n t, arr[i].2) := (getElem?_pos _ i hi).trans (congrArg some (Prod.ext hn rfl))
  refine ⟨t, arr[i].2, e.trans ?_⟩
  unfold K
  rw [e]
  rfl
section
variable {prog : Program} {w : World} {A : Around} {E : Value → Shared → Prop} {s : Shared} {st : SortSt}
theorem wpS_lt2 {a b : Int} {t u : Tok} {p q : Value} {Q : Option Bool → SortSt → Prop} (hk : kindOf st = oneType') (h : Q (some (decide (a < b))) st) : wpS (model prog w) A E s (lt' (.int a t, p) (.int b u, q)) Q st := by
  rw [lt'_eq]
  refine wpS_bind (wpS_get ?_)
  rw [hk, keyLt'_oneType]
  exact wpS_bind (wpS_lift (wpAny_attempt (oneLt_int ⟨rfl, wpS_pure h⟩)))
theorem wpS_bey {left : Bool} {a : Int} {t : Tok} {p : Value} {arr : Array Keyed} {base i : Nat} {Q : Option Bool → SortSt → Prop} (hk : kindOf st = oneType') (ha : IntKeys arr) (hi : base + i < arr.size)
    (h : Q (some (kb left (K arr (base + i)) a)) st) : wpS (model prog w) A E s (bey' left (.int a t, p) arr base i) Q st := by
  obtain ⟨u, q, e⟩ := key_at ha hi
  unfold bey'
  rw [elem'_eq, e]
  refine wpS_bind (wpS_pure ?_)
  cases left with
  | true => exact wpS_lt2 hk h
  | false => exact wpS_bind (wpS_lt2 hk (wpS_pure h))
structure GI (T : Nat → Prop) (mx x : Nat) (c : RG) : Prop where
  n : c.1 = none
  l : c.2.1 < c.2.2
  x : x < c.2.2
  m : c.2.1 < mx
  t : T c.2.1
structure GQ (T : Nat → Prop) (mx : Nat) (c : RG) : Prop where
  n : c.1 = none
  l : c.2.1 < c.2.2
  m : c.2.1 < mx
  t : T c.2.1
  f : c.2.2 < mx → ¬ T c.2.2
section
variable {left : Bool} {key : Keyed} {arr : Array Keyed} {base n hint : Nat} {T : Nat → Bool}
theorem wpS_gGo {up : Bool} {mx : Nat} {R : RG → SortSt → Prop} (hb : ∀ (i : Nat) (Q : Option Bool → SortSt → Prop), i < n → Q (some (T i)) st → wpS (model prog w) A E s (bey' left key arr base i) Q st)
    (hp : ∀ x, x < mx → gPos up hint x < n) (hmx : mx ≤ n) (h0 : 0 < mx) (ht : T (gPos up hint 0) = up) (k : ∀ c, GQ (fun x => T (gPos up hint x) = up) mx c → R c st) :
    wpS (model prog w) A E s (forIn [0:n] ((none, 0, 1) : RG) fun _ c => gGo up left key arr base hint mx c.2.1 c.2.2) R st := by
  refine wpS_loopK (GI (fun x => T (gPos up hint x) = up) mx) ?_ (fun c h => ⟨h.n, h.l, h.m, h.t, fun h' => absurd (Nat.lt_of_lt_of_le (Nat.lt_trans h.x h') hmx) (Nat.lt_irrefl _)⟩) ⟨rfl, Nat.zero_lt_one, Nat.zero_lt_one, h0, ht⟩ k
  intro x c hx h
  obtain ⟨cn, la, of⟩ := c
  obtain ⟨hn, hl, hx', hm, ht'⟩ := h
  dsimp only at hn hl hx' hm ht' ⊢
  unfold gGo
  by_cases hge : of ≥ mx
  · rw [if_pos hge]
    exact wpS_pure ⟨rfl, rfl, hl, hm, ht', fun h => absurd hge (Nat.not_le.mpr h)⟩
  · rw [if_neg hge]
    have hlt := Nat.lt_of_not_le hge
    refine wpS_bind (hb _ _ (hp _ hlt) ?_)
    dsimp only
    cases e : (bif up then !(T (gPos up hint of)) else T (gPos up hint of)) with
    | true => exact wpS_pure ⟨rfl, rfl, hl, hm, ht', fun _ => by cases up <;> simpa using e⟩
    | false => exact wpS_pure ⟨rfl, rfl, by show of < 2 * of + 1; omega, by show x + 1 < 2 * of + 1; omega, hlt, by cases up <;> simpa using e⟩
theorem wpS_gEnd {lo hi : Nat} {Q : Option Nat → SortSt → Prop} (hb : ∀ (i : Nat) (Q : Option Bool → SortSt → Prop), i < n → Q (some (T i)) st → wpS (model prog w) A E s (bey' left key arr base i) Q st)
    (hm : ∀ i j, i ≤ j → j < n → T j = true → T i = true) (hlh : lo ≤ hi) (hh : hi ≤ n) (ht : ∀ i, i < lo → T i = true) (hf : ∀ i, hi ≤ i → i < n → T i = false)
    (h : ∀ k, k ≤ n → (∀ i, i < k → T i = true) → (∀ i, k ≤ i → i < n → T i = false) → Q (some k) st) : wpS (model prog w) A E s (gEnd left key arr base n lo hi) Q st := by
  unfold gEnd
  refine wpS_bind (wpS_loopK (GB T n) (Q := fun c => GB T n n c) ?_ (fun c h => h) ⟨rfl, hlh, hh, Nat.le_trans (Nat.sub_le _ _) hh, ht, hf⟩ fun c g => ?_)
  · intro x c hx g
    obtain ⟨cn, lo, hi⟩ := c
    obtain ⟨g1, g2, g3, g4, g5, g6⟩ := g
    dsimp only at g1 g2 g3 g4 g5 g6 ⊢
    subst g1
    unfold gBin
    by_cases hge : lo ≥ hi
    · rw [if_pos hge]
      exact wpS_pure ⟨rfl, rfl, g2, g3, by show hi - lo ≤ n - n; rw [Nat.sub_eq_zero_of_le hge]; exact Nat.zero_le _, g5, g6⟩
    · rw [if_neg hge]
      obtain ⟨m1, m2, m3⟩ := bin_nat g3 g4 hx (Nat.lt_of_not_le hge)
      generalize hmid : lo + (hi - lo) / 2 = m at m1 m2 m3 ⊢
      refine wpS_bind (hb m _ (Nat.lt_of_lt_of_le m1 g3) ?_)
      dsimp only
      cases e : T m with
      | true => exact wpS_pure ⟨rfl, rfl, m1, g3, m2, fun i hi' => hm i m (Nat.le_of_lt_succ hi') (Nat.lt_of_lt_of_le m1 g3) e, g6⟩
      | false =>
        refine wpS_pure ⟨rfl, rfl, hmid ▸ Nat.le_add_right _ _, Nat.le_trans (Nat.le_of_lt m1) g3, m3, g5, fun i h1 h2 => ?_⟩
        cases e2 : T i with
        | false => rfl
        | true => exact absurd (hm m i h1 h2 e2) (by rw [e]; exact Bool.false_ne_true)
  · obtain ⟨cn, lo, hi⟩ := c
    obtain ⟨g1, g2, g3, g4, g5, g6⟩ := g
    dsimp only at g1 g2 g3 g4 g5 g6 ⊢
    subst g1
    rw [Nat.sub_self, Nat.le_zero, Nat.sub_eq_zero_iff_le] at g4
    obtain rfl := Nat.le_antisymm g2 g4
    exact wpS_pure (h lo g3 g5 g6)
theorem gal_up {la of : Nat} (h1 : la < of) (h2 : la < n - hint) (h : hint < n) : hint + la + 1 ≤ hint + min of (n - hint) ∧ hint + min of (n - hint) ≤ n ∧ hint + la < n :=
  ⟨Nat.add_le_add_left (Nat.le_min.mpr ⟨h1, h2⟩) hint, Nat.add_le_of_le_sub' (Nat.le_of_lt h) (Nat.min_le_right _ _), Nat.add_lt_of_lt_sub' h2⟩
theorem gal_dn {la of : Nat} (h1 : la < of) (h2 : la < hint + 1) (h : hint < n) : hint + 1 - min of (hint + 1) ≤ hint - la ∧ hint - la ≤ n :=
  ⟨Nat.add_sub_add_right hint 1 la ▸ Nat.sub_le_sub_left (Nat.le_min.mpr ⟨h1, h2⟩) (hint + 1), Nat.le_trans (Nat.sub_le _ _) (Nat.le_of_lt h)⟩
theorem gal_up' {of i : Nat} (h1 : hint + min of (n - hint) ≤ i) (h2 : i < n) (h : hint < n) : of < n - hint ∧ hint + of ≤ i := by
  rcases Nat.lt_or_ge of (n - hint) with k | k
  · rw [Nat.min_eq_left (Nat.le_of_lt k)] at h1
    exact ⟨k, h1⟩
  · rw [Nat.min_eq_right k, Nat.add_sub_of_le (Nat.le_of_lt h)] at h1
    exact absurd h1 (Nat.not_le.mpr h2)
theorem gal_dn' {of i : Nat} (h1 : i < hint + 1 - min of (hint + 1)) : of < hint + 1 ∧ i ≤ hint - of := by
  rcases Nat.lt_or_ge of (hint + 1) with k | k
  · rw [Nat.min_eq_left (Nat.le_of_lt k), Nat.succ_sub (Nat.le_of_lt_succ k)] at h1
    exact ⟨k, Nat.le_of_lt_succ h1⟩
  · rw [Nat.min_eq_right k, Nat.sub_self] at h1
    exact absurd h1 (Nat.not_lt_zero _)
theorem wpS_gal {Q : Option Nat → SortSt → Prop} (hb : ∀ (i : Nat) (Q : Option Bool → SortSt → Prop), i < n → Q (some (T i)) st → wpS (model prog w) A E s (bey' left key arr base i) Q st)
    (hm : ∀ i j, i ≤ j → j < n → T j = true → T i = true) (hn : hint < n)
    (h : ∀ k, k ≤ n → (∀ i, i < k → T i = true) → (∀ i, k ≤ i → i < n → T i = false) → Q (some k) st) : wpS (model prog w) A E s (gallop' left key arr base n hint) Q st := by
  have hm' : ∀ i j, i ≤ j → j < n → T i = false → T j = false := fun i j h1 h2 h3 => by
    cases e : T j with
    | false => rfl
    | true => rw [hm i j h1 h2 e] at h3; cases h3
  rw [gallop'_eq]
  refine wpS_bind (hb _ _ hn ?_)
  cases hr : T hint with
  | true =>
    refine wpS_bind (wpS_gGo (up := true) hb (fun x hx => Nat.add_lt_of_lt_sub' hx) (Nat.sub_le _ _) (Nat.sub_pos_of_lt hn) hr fun c g => ?_)
    obtain ⟨cn, la, of⟩ := c
    obtain ⟨g1, g2, g3, g4, g5⟩ := g
    dsimp only [gPos, cond_true] at g1 g2 g3 g4 g5 ⊢
    subst g1
    obtain ⟨q1, q2, q3⟩ := gal_up g2 g3 hn
    exact wpS_gEnd hb hm q1 q2 (fun i hi => hm i _ (Nat.le_of_lt_succ hi) q3 g4) (fun i h1 h2 => by
      obtain ⟨k1, k2⟩ := gal_up' h1 h2 hn
      exact hm' _ i k2 h2 (Bool.eq_false_iff.mpr (g5 k1))) h
  | false =>
    refine wpS_bind (wpS_gGo (up := false) hb (fun x _ => Nat.lt_of_le_of_lt (Nat.sub_le _ _) hn) hn (Nat.succ_pos _) hr fun c g => ?_)
    obtain ⟨cn, la, of⟩ := c
    obtain ⟨g1, g2, g3, g4, g5⟩ := g
    dsimp only [gPos, cond_false] at g1 g2 g3 g4 g5 ⊢
    subst g1
    obtain ⟨q1, q2⟩ := gal_dn g2 g3 hn
    exact wpS_gEnd hb hm q1 q2 (fun i hi => by
      obtain ⟨k1, k2⟩ := gal_dn' hi
      exact hm i _ k2 (Nat.lt_of_le_of_lt (Nat.sub_le _ _) hn) ((Bool.not_eq_false _).mp (g5 k1))) (fun i h1 h2 => hm' _ i h1 h2 g4) h
end
theorem wpS_gallop {left : Bool} {a : Int} {t : Tok} {p : Value} {arr : Array Keyed} {base n hint : Nat} {Q : Option Nat → SortSt → Prop} (hk : kindOf st = oneType') (ha : IntKeys arr) (hbn : base + n ≤ arr.size) (hn : hint < n) (hs : Seg arr base (base + n))
    (h : ∀ k, k ≤ n → (∀ i, i < k → kb left (K arr (base + i)) a = true) → (∀ i, k ≤ i → i < n → kb left (K arr (base + i)) a = false) → Q (some k) st) :
    wpS (model prog w) A E s (gallop' left (.int a t, p) arr base n hint) Q st :=
  wpS_gal (T := fun i => kb left (K arr (base + i)) a) (fun i Q hi => wpS_bey hk ha (Nat.lt_of_lt_of_le (Nat.add_lt_add_left hi _) hbn))
    (fun i j h1 h2 => kb_mono (hs _ _ (Nat.le_add_right _ _) (Nat.add_le_add_left h1 _) (Nat.add_lt_add_left h2 _))) hn h
end
end Mine
end
section
open PySem PyProof.Rows
namespace Mine
section
variable {r : Keyed → Keyed → Prop}
structure SMInv (r : Keyed → Keyed → Prop) (A B O : List Keyed) (ia ib : Nat) : Prop where
  perm : O.Perm (A.take ia ++ B.take ib)
  srt : O.Pairwise r
  cross : ∀ x ∈ O, (∀ y ∈ A.drop ia, r x y) ∧ (∀ y ∈ B.drop ib, r x y)
theorem SMInv.symm {A B O : List Keyed} {ia ib : Nat} (h : SMInv r A B O ia ib) : SMInv r B A O ib ia := ⟨h.perm.trans List.perm_append_comm, h.srt, fun x hx => ⟨(h.cross x hx).2, (h.cross x hx).1⟩⟩
theorem SMInv.step {A B O : List Keyed} {ia ib : Nat} (h : SMInv r A B O ia ib) (hA : A.Pairwise r) (k : Nat) (hx : ∀ x ∈ (A.drop ia).take k, ∀ y ∈ B.drop ib, r x y) : SMInv r A B (O ++ (A.drop ia).take k) (ia + k) ib := by
  have hd : (A.drop ia).Pairwise r := hA.sublist (List.drop_sublist _ _)
  have e : (A.drop ia).take k ++ A.drop (ia + k) = A.drop ia := by rw [← List.drop_drop]; exact List.take_append_drop _ _
  refine ⟨?_, ?_, ?_⟩
  · rw [List.take_add]
    refine (List.Perm.append_right _ h.perm).trans ?_
    rw [List.append_assoc, List.append_assoc]
    exact List.Perm.append_left _ List.perm_append_comm
  · refine List.pairwise_append.mpr ⟨h.srt, hd.sublist (List.take_sublist _ _), fun x hx' y hy => (h.cross x hx').1 y (List.mem_of_mem_take hy)⟩
  · intro x hx'
    rcases List.mem_append.mp hx' with h1 | h1
    · refine ⟨fun y hy => (h.cross x h1).1 y ?_, (h.cross x h1).2⟩
      rw [← e]; exact List.mem_append_right _ hy
    · refine ⟨fun y hy => ?_, fun y hy => hx x h1 y hy⟩
      rw [← e] at hd
      exact (List.pairwise_append.mp hd).2.2 x h1 y hy
theorem SMInv.finish {A B O : List Keyed} {ia ib : Nat} (h : SMInv r A B O ia ib) (hA : A.Pairwise r) (hB : B.Pairwise r) (hx : ∀ x ∈ A.drop ia, ∀ y ∈ B.drop ib, r x y) : (O ++ A.drop ia ++ B.drop ib).Pairwise r ∧ (O ++ A.drop ia ++ B.drop ib).Perm (A ++ B) := by
  refine ⟨?_, ?_⟩
  · refine List.pairwise_append.mpr ⟨List.pairwise_append.mpr ⟨h.srt, hA.sublist (List.drop_sublist _ _), fun x h1 y hy => (h.cross x h1).1 y hy⟩, hB.sublist (List.drop_sublist _ _), fun x h1 y hy => ?_⟩
    rcases List.mem_append.mp h1 with h1 | h1
    · exact (h.cross x h1).2 y hy
    · exact hx x h1 y hy
  · have e1 : (A.take ia ++ A.drop ia) ++ (B.take ib ++ B.drop ib) = A ++ B := by rw [List.take_append_drop, List.take_append_drop]
    rw [← e1]
    refine (List.Perm.append_right _ (List.Perm.append_right _ h.perm)).trans ?_
    simp only [List.append_assoc]
    refine List.Perm.append_left _ ?_
    rw [← List.append_assoc, ← List.append_assoc]
    exact List.Perm.append_right _ List.perm_append_comm
theorem drop_one {l : List Keyed} {i : Nat} {p : Keyed} (h : l[i]? = some p) : (l.drop i).take 1 = [p] := by
  have hi : i < l.length := by
    rcases Nat.lt_or_ge i l.length with h1 | h1
    · exact h1
    · rw [List.getElem?_eq_none h1] at h; cases h
  rw [List.getElem?_eq_getElem hi] at h
  cases h
  rw [List.drop_eq_getElem_cons hi]
  rfl
theorem drop_head {l : List Keyed} {i : Nat} {p : Keyed} (h : l[i]? = some p) : l.drop i = p :: l.drop (i + 1) := by
  have hi : i < l.length := by
    rcases Nat.lt_or_ge i l.length with h1 | h1
    · exact h1
    · rw [List.getElem?_eq_none h1] at h; cases h
  rw [List.getElem?_eq_getElem hi] at h
  cases h
  exact List.drop_eq_getElem_cons hi
theorem head_le {l : List Keyed} (hl : l.Pairwise r) (hr : ∀ x, r x x) {i : Nat} {p : Keyed} (h : l[i]? = some p) : ∀ y ∈ l.drop i, r p y := by
  intro y hy
  have hd : (l.drop i).Pairwise r := hl.sublist (List.drop_sublist _ _)
  rw [drop_head h] at hd hy
  rcases List.mem_cons.mp hy with rfl | hy
  · exact hr _
  · exact (List.pairwise_cons.mp hd).1 y hy
end
noncomputable def le (x y : Keyed) : Prop := num x ≤ num y
noncomputable def ge (x y : Keyed) : Prop := num y ≤ num x
noncomputable def SameG (st st' : SortSt) : Prop := kindOf st' = kindOf st ∧ arrOf st' = arrOf st ∧ pendingOf st' = pendingOf st ∧ failedOf st' = failedOf st
noncomputable def mergeLo' : Array Keyed → Array Keyed → StateT SortSt Sem (Array Keyed) := sortPriv% PySem.Builtin.mergeLo
noncomputable def setMinGallop' : Nat → StateT SortSt Sem Unit := sortPriv% PySem.Builtin.setMinGallop
theorem setMinGallop'_eq (g : Nat) : setMinGallop' g = modify fun st => SortSt.mk' (kindOf st) (arrOf st) (pendingOf st) g (failedOf st) := rfl
noncomputable abbrev R4 := Option (Array Keyed) × Array Keyed × Nat × Nat × Nat
noncomputable abbrev R6 := Option (Array Keyed) × Array Keyed × Nat × Nat × Nat × Nat
noncomputable abbrev R7 := Option (Array Keyed) × Array Keyed × Nat × Nat × Nat × Nat × Nat
noncomputable def mDone (a b out : Array Keyed) (ia ib : Nat) : Array Keyed := out ++ a.extract ia a.size ++ b.extract ib b.size
noncomputable def mLast (a b out : Array Keyed) (ia ib : Nat) : Array Keyed := out ++ b.extract ib b.size ++ a.extract ia a.size
noncomputable def loI (a b : Array Keyed) (g : Nat) (out : Array Keyed) (ia ib ac bc : Nat) : StateT SortSt Sem (ForInStep R6) := do
  let y ← elem' b ib
  let x ← elem' a ia
  let some w ← lt' y x | pure (.done (some (mDone a b out ia ib), out, ia, ib, ac, bc))
  if w then do
    let p ← elem' b ib
    if ib + 1 == b.size then pure (.done (some (mDone a b (out.push p) ia (ib + 1)), out.push p, ia, ib + 1, 0, bc + 1))
    else if bc + 1 ≥ g then pure (.done (none, out.push p, ia, ib + 1, 0, bc + 1)) else pure (.yield (none, out.push p, ia, ib + 1, 0, bc + 1))
  else do
    let p ← elem' a ia
    if ia + 1 + 1 == a.size then pure (.done (some (mLast a b (out.push p) (ia + 1) ib), out.push p, ia + 1, ib, ac + 1, 0))
    else if ac + 1 ≥ g then pure (.done (none, out.push p, ia + 1, ib, ac + 1, 0)) else pure (.yield (none, out.push p, ia + 1, ib, ac + 1, 0))
noncomputable def loD (a b out : Array Keyed) (ia ib g ac bc : Nat) : StateT SortSt Sem (ForInStep R7) := do
  let p ← elem' a ia
  if ia + 1 + 1 == a.size then pure (.done (some (mLast a b (out.push p) (ia + 1) ib), out.push p, ia + 1, ib, g, ac, bc))
  else if ac < 7 && bc < 7 then pure (.done (none, out.push p, ia + 1, ib, g, ac, bc)) else pure (.yield (none, out.push p, ia + 1, ib, g, ac, bc))
noncomputable def loC' (a b out : Array Keyed) (ia ib g ac k : Nat) : StateT SortSt Sem (ForInStep R7) :=
  if k > 0 then
    if ib + k == b.size then pure (.done (some (mDone a b (out ++ b.extract ib (ib + k)) ia (ib + k)), out ++ b.extract ib (ib + k), ia, ib + k, g, ac, k))
    else loD a b (out ++ b.extract ib (ib + k)) ia (ib + k) g ac k
  else loD a b out ia ib g ac k
noncomputable def loC (a b out : Array Keyed) (ia ib g ac bc : Nat) : StateT SortSt Sem (ForInStep R7) := do
  let p ← elem' a ia
  let some k ← gallop' true p b ib (b.size - ib) 0 | pure (.done (some (mDone a b out ia ib), out, ia, ib, g, ac, bc))
  loC' a b out ia ib g ac k
noncomputable def loB (a b out : Array Keyed) (ia ib g ac bc : Nat) : StateT SortSt Sem (ForInStep R7) := do
  let p ← elem' b ib
  if ib + 1 == b.size then pure (.done (some (mDone a b (out.push p) ia (ib + 1)), out.push p, ia, ib + 1, g, ac, bc))
  else loC a b (out.push p) ia (ib + 1) g ac bc
noncomputable def loA' (a b out : Array Keyed) (ia ib g k bc : Nat) : StateT SortSt Sem (ForInStep R7) :=
  if k > 0 then
    if ia + k + 1 == a.size then pure (.done (some (mLast a b (out ++ a.extract ia (ia + k)) (ia + k) ib), out ++ a.extract ia (ia + k), ia + k, ib, g, k, bc))
    else if ia + k == a.size then pure (.done (some (mDone a b (out ++ a.extract ia (ia + k)) (ia + k) ib), out ++ a.extract ia (ia + k), ia + k, ib, g, k, bc))
    else loB a b (out ++ a.extract ia (ia + k)) (ia + k) ib g k bc
  else loB a b out ia ib g k bc
noncomputable def loA (a b out : Array Keyed) (ia ib ac bc g : Nat) : StateT SortSt Sem (ForInStep R7) := do
  setMinGallop' g
  let p ← elem' b ib
  let some k ← gallop' false p a ia (a.size - ia) 0 | pure (.done (some (mDone a b out ia ib), out, ia, ib, g, ac, bc))
  loA' a b out ia ib g k bc
noncomputable def loO (a b out : Array Keyed) (ia ib g : Nat) : StateT SortSt Sem (ForInStep R4) := do
  let c ← forIn [0:a.size + b.size] ((none, out, ia, ib, 0, 0) : R6) fun _ c => loI a b g c.2.1 c.2.2.1 c.2.2.2.1 c.2.2.2.2.1 c.2.2.2.2.2
  match c.1 with
  | some r => pure (.done (some r, c.2.1, c.2.2.1, c.2.2.2.1, g))
  | none => do
    rule "list.sort.gallop"
    let d ← forIn [0:a.size + b.size] ((none, c.2.1, c.2.2.1, c.2.2.2.1, g + 1, c.2.2.2.2.1, c.2.2.2.2.2) : R7) fun _ d => if d.2.2.2.2.1 > 1 then loA a b d.2.1 d.2.2.1 d.2.2.2.1 d.2.2.2.2.2.1 d.2.2.2.2.2.2 (d.2.2.2.2.1 - 1) else loA a b d.2.1 d.2.2.1 d.2.2.2.1 d.2.2.2.2.2.1 d.2.2.2.2.2.2 d.2.2.2.2.1
    match d.1 with
    | some r => pure (.done (some r, d.2.1, d.2.2.1, d.2.2.2.1, d.2.2.2.2.1))
    | none => do
      setMinGallop' (d.2.2.2.2.1 + 1)
      pure (.yield (none, d.2.1, d.2.2.1, d.2.2.2.1, d.2.2.2.2.1 + 1))
theorem mergeLo'_eq (a b : Array Keyed) : mergeLo' a b = (do
  rule "list.sort.merge-lo"
  let p ← elem' b 0
  if 1 == b.size then pure (mDone a b #[p] 0 1)
  else if 0 + 1 == a.size then pure (mLast a b #[p] 0 1)
  else do
    let st ← get
    let c ← forIn [0:a.size + b.size] ((none, #[p], 0, 1, gallopOf st) : R4) fun _ c => loO a b c.2.1 c.2.2.1 c.2.2.2.1 c.2.2.2.2
    match c.1 with
    | some r => pure r
    | none => unsupported "internal:list.sort.merge-bound") := by kernel_rfl
section
variable {r : Keyed → Keyed → Prop}
theorem mov1 (hr : ∀ x, r x x) (ht : ∀ x y z, r x y → r y z → r x z) {A B O : List Keyed} {ia ib : Nat} {p y : Keyed} (h : SMInv r A B O ia ib) (sa : A.Pairwise r) (sb : B.Pairwise r) (e : A[ia]? = some p) (f : B[ib]? = some y) (hle : r p y) : SMInv r A B (O ++ [p]) (ia + 1) ib := by
  have k := h.step sa 1 (fun x hx z hz => by
    rw [drop_one e] at hx
    rw [List.mem_singleton.mp hx]
    exact ht _ _ _ hle (head_le sb hr f z hz))
  rwa [drop_one e] at k
theorem movk (hr : ∀ x, r x x) (ht : ∀ x y z, r x y → r y z → r x z) {A B O : List Keyed} {ia ib k : Nat} {y : Keyed} (h : SMInv r A B O ia ib) (sa : A.Pairwise r) (sb : B.Pairwise r) (f : B[ib]? = some y) (hle : ∀ x ∈ (A.drop ia).take k, r x y) : SMInv r A B (O ++ (A.drop ia).take k) (ia + k) ib :=
  h.step sa k fun x hx z hz => ht _ _ _ (hle x hx) (head_le sb hr f z hz)
end
theorem le_refl' (x : Keyed) : le x x := Int.le_refl _
theorem le_trans' (x y z : Keyed) (h : le x y) (k : le y z) : le x z := Int.le_trans h k
theorem ext_all (a : Array Keyed) (i : Nat) : (a.extract i a.size).toList = a.toList.drop i := by
  rw [Array.toList_extract]
  simp only [List.extract]
  exact List.take_of_length_le (by simp)
theorem ext_k (a : Array Keyed) (i k : Nat) : (a.extract i (i + k)).toList = (a.toList.drop i).take k := by
  rw [Array.toList_extract]
  simp [List.extract]
theorem K_get {a : Array Keyed} {i : Nat} {p : Keyed} (h : a[i]? = some p) : K a i = num p := by unfold K; rw [h]
theorem mem_seg {a : Array Keyed} {i k : Nat} {x : Keyed} (hx : x ∈ (a.toList.drop i).take k) (hk : i + k ≤ a.size) : ∃ j, j < k ∧ K a (i + j) = num x := by
  obtain ⟨j, hj, e⟩ := List.getElem_of_mem hx
  rw [List.length_take, List.length_drop, Array.length_toList] at hj
  refine ⟨j, Nat.lt_of_lt_of_le hj (Nat.min_le_left _ _), K_get ?_⟩
  rw [List.getElem_take, List.getElem_drop] at e
  rw [← e, ← Array.getElem?_toList, List.getElem?_eq_getElem]
section
variable {prog : Program} {w : World} {A : Around} {E : Value → Shared → Prop} {s : Shared} {st : SortSt}
theorem wpS_elem {a : Array Keyed} {i : Nat} {p : Keyed} {Q : Keyed → SortSt → Prop} (e : a[i]? = some p) (h : Q p st) : wpS (model prog w) A E s (elem' a i) Q st := by
  rw [elem'_eq, e]; exact wpS_pure h
theorem wpS_setG {g : Nat} {Q : Unit → SortSt → Prop} (h : ∀ st', SameG st st' → Q () st') : wpS (model prog w) A E s (setMinGallop' g) Q st := by
  rw [setMinGallop'_eq]; exact wpS_modify (h _ ⟨rfl, rfl, rfl, rfl⟩)
theorem SameG.trans {st st' st'' : SortSt} (h : SameG st st') (k : SameG st' st'') : SameG st st'' := ⟨k.1.trans h.1, k.2.1.trans h.2.1, k.2.2.1.trans h.2.2.1, k.2.2.2.trans h.2.2.2⟩
noncomputable def Merged (a b : Array Keyed) (st : SortSt) (R : Array Keyed) (st' : SortSt) : Prop := SameG st st' ∧ R.toList.Perm (a.toList ++ b.toList) ∧ R.toList.Pairwise le
theorem done_lo {a b out : Array Keyed} {ia ib : Nat} {st' : SortSt} (hs : SameG st st') (h : SMInv le a.toList b.toList out.toList ia ib) (sa : a.toList.Pairwise le) (sb : b.toList.Pairwise le) (hx : ∀ x ∈ a.toList.drop ia, ∀ y ∈ b.toList.drop ib, le x y) :
    Merged a b st (out ++ a.extract ia a.size ++ b.extract ib b.size) st' := by
  have k := h.finish sa sb hx
  refine ⟨hs, ?_, ?_⟩
  · rw [Array.toList_append, Array.toList_append, ext_all, ext_all]; exact k.2
  · rw [Array.toList_append, Array.toList_append, ext_all, ext_all]; exact k.1
theorem last_lo {a b out : Array Keyed} {ia ib : Nat} {st' : SortSt} (hs : SameG st st') (h : SMInv le a.toList b.toList out.toList ia ib) (sa : a.toList.Pairwise le) (sb : b.toList.Pairwise le) (hi : ia + 1 = a.size) (hL : ∀ y ∈ b.toList, ∀ x ∈ a.toList.drop (a.size - 1), le y x) :
    Merged a b st (out ++ b.extract ib b.size ++ a.extract ia a.size) st' := by
  have k := h.symm.finish sb sa (fun y hy x hx => hL y (List.mem_of_mem_drop hy) x (by rw [← hi]; exact hx))
  refine ⟨hs, ?_, ?_⟩
  · rw [Array.toList_append, Array.toList_append, ext_all, ext_all]; exact k.2.trans List.perm_append_comm
  · rw [Array.toList_append, Array.toList_append, ext_all, ext_all]; exact k.1
theorem drop_none {b : Array Keyed} {ib : Nat} (h : ib = b.size) {P : Keyed → Prop} : ∀ y ∈ b.toList.drop ib, P y := by
  intro y hy
  rw [h, ← Array.length_toList, List.drop_length] at hy
  cases hy
structure JLo (a b : Array Keyed) (st : SortSt) (out : Array Keyed) (ia ib : Nat) (st' : SortSt) : Prop where
  same : SameG st st'
  inv : SMInv le a.toList b.toList out.toList ia ib
  la : ia + 1 < a.size
  lb : ib < b.size
theorem wpS_if {α : Type} {c : Prop} [Decidable c] {x y : StateT SortSt Sem α} {Q : α → SortSt → Prop} (h1 : c → wpS (model prog w) A E s x Q st) (h2 : ¬c → wpS (model prog w) A E s y Q st) : wpS (model prog w) A E s (if c then x else y) Q st := by
  by_cases hc : c
  · rw [if_pos hc]; exact h1 hc
  · rw [if_neg hc]; exact h2 hc
theorem wpS_ifb {α : Type} {m n : Nat} {x y : StateT SortSt Sem α} {Q : α → SortSt → Prop} (h1 : m = n → wpS (model prog w) A E s x Q st) (h2 : m ≠ n → wpS (model prog w) A E s y Q st) : wpS (model prog w) A E s (if m == n then x else y) Q st :=
  wpS_if (fun e => h1 (beq_iff_eq.mp e)) (fun e => h2 fun q => e (beq_iff_eq.mpr q))
theorem getT {a : Array Keyed} {i : Nat} {p : Keyed} (h : a[i]? = some p) : a.toList[i]? = some p := by rw [Array.getElem?_toList]; exact h
structure LoH (a b : Array Keyed) (st : SortSt) : Prop where
  hk : kindOf st = oneType'
  ha : IntKeys a
  hb : IntKeys b
  sa : a.toList.Pairwise le
  sb : b.toList.Pairwise le
  ga : Seg a 0 a.size
  gb : Seg b 0 b.size
  hL : ∀ y ∈ b.toList, ∀ x ∈ a.toList.drop (a.size - 1), le y x
structure MZ {T : Type} (M : Array Keyed → SortSt → Prop) (B G : T → SortSt → Prop) (Z : ForInStep (Option (Array Keyed) × T) → SortSt → Prop) : Prop where
  fin : ∀ R t st', M R st' → Z (.done (some R, t)) st'
  brk : ∀ t st', B t st' → Z (.done (none, t)) st'
  go : ∀ t st', G t st' → Z (.yield (none, t)) st'
noncomputable def MQ {T : Type} (M : Array Keyed → SortSt → Prop) (B : T → SortSt → Prop) (c : Option (Array Keyed) × T) (st' : SortSt) : Prop := match c.1 with
  | some R => M R st'
  | none => B c.2 st'
theorem wpS_mloop {T : Type} {N : Nat} {f : Option (Array Keyed) × T → StateT SortSt Sem (ForInStep (Option (Array Keyed) × T))} {M : Array Keyed → SortSt → Prop} {B : T → SortSt → Prop} (G : Nat → T → SortSt → Prop) {Q : Option (Array Keyed) × T → SortSt → Prop} {t : T}
    (turn : ∀ x t st' Z, G x t st' → MZ M B (G (x + 1)) Z → wpS (model prog w) A E s (f (none, t)) Z st') (fin : ∀ t st', G N t st' → B t st') (h : G 0 t st)
    (k1 : ∀ R t st', M R st' → Q (some R, t) st') (k2 : ∀ t st', B t st' → Q (none, t) st') : wpS (model prog w) A E s (forIn [0:N] (none, t) fun _ c => f c) Q st :=
  wpS_mono (wpS_forRange (I := fun x c st' => c.1 = none ∧ G x c.2 st') (Q := MQ M B) (fun x c st' _ _ h => by
      obtain ⟨cn, t⟩ := c
      obtain ⟨e, h⟩ := h
      dsimp only at e h
      subst e
      exact turn x t st' _ h ⟨fun _ _ _ h => h, fun _ _ h => h, fun _ _ h => ⟨rfl, h⟩⟩)
    (fun c st' h => by
      obtain ⟨cn, t⟩ := c
      obtain ⟨e, h⟩ := h
      dsimp only at e h
      subst e
      exact fin t st' (Nat.max_eq_right (Nat.zero_le N) ▸ h)) ⟨rfl, h⟩) fun c st' h => by
    obtain ⟨cn, t⟩ := c
    cases cn with
    | some R => exact k1 R t st' h
    | none => exact k2 t st' h
noncomputable def GLo {T : Type} (a b : Array Keyed) (st : SortSt) (n : Nat) (t : Array Keyed × Nat × Nat × T) (st' : SortSt) : Prop := JLo a b st t.1 t.2.1 t.2.2.1 st' ∧ n ≤ t.2.1 + t.2.2.1
noncomputable abbrev LoZ {T : Type} (a b : Array Keyed) (st : SortSt) (m n : Nat) (Z : ForInStep (Option (Array Keyed) × Array Keyed × Nat × Nat × T) → SortSt → Prop) : Prop := MZ (Merged a b st) (GLo a b st m) (GLo a b st n) Z
section
variable {a b out : Array Keyed} {ia ib g ac bc m n k : Nat} {st' : SortSt}
theorem JLo.sel (H : LoH a b st) (J : JLo a b st out ia ib st') (hlt : K a ia ≤ K b ib) {p : Keyed} (ea : a[ia]? = some p) : SMInv le a.toList b.toList (out.push p).toList (ia + 1) ib := by
  rw [Array.toList_push]
  obtain ⟨tb, qb, eb⟩ := key_at H.hb J.lb
  exact mov1 le_refl' le_trans' J.inv H.sa H.sb (getT ea) (getT eb) (show num p ≤ K b ib from K_get ea ▸ hlt)
theorem JLo.selb (H : LoH a b st) (J : JLo a b st out ia ib st') (hlt : K b ib ≤ K a ia) {p : Keyed} (eb : b[ib]? = some p) : SMInv le a.toList b.toList (out.push p).toList ia (ib + 1) := by
  rw [Array.toList_push]
  obtain ⟨ta, qa, ea⟩ := key_at H.ha (Nat.lt_of_succ_lt J.la)
  exact (mov1 le_refl' le_trans' J.inv.symm H.sb H.sa (getT eb) (getT ea) (show num p ≤ K a ia from K_get eb ▸ hlt)).symm
theorem wpS_loI (H : LoH a b st) {Z : ForInStep R6 → SortSt → Prop} (hZ : LoZ a b st m n Z) (J : JLo a b st out ia ib st') (hm : m ≤ n) (hn : n ≤ ia + ib) : wpS (model prog w) A E s (loI a b g out ia ib ac bc) Z st' := by
  obtain ⟨tb, qb, eb⟩ := key_at H.hb J.lb
  obtain ⟨ta, qa, ea⟩ := key_at H.ha (Nat.lt_of_succ_lt J.la)
  refine wpS_bind (wpS_elem eb (wpS_bind (wpS_elem ea (wpS_bind (wpS_lt2 (J.same.1.trans H.hk) (wpS_if (fun hlt => wpS_bind (wpS_elem eb ?_)) (fun hlt => wpS_bind (wpS_elem ea ?_))))))))
  · have iv := J.selb H (Int.le_of_lt (of_decide_eq_true hlt)) eb
    refine wpS_ifb (fun q => wpS_pure (hZ.fin _ _ _ (done_lo J.same iv H.sa H.sb fun x hx => drop_none q))) (fun q => ?_)
    have J3 : JLo a b st _ ia (ib + 1) st' := ⟨J.same, iv, J.la, Nat.lt_of_le_of_ne J.lb q⟩
    have h3 := Nat.le_succ_of_le hn
    exact wpS_if (fun _ => wpS_pure (hZ.brk _ _ ⟨J3, Nat.le_trans hm h3⟩)) (fun _ => wpS_pure (hZ.go _ _ ⟨J3, h3⟩))
  · have iv := J.sel H (Int.not_lt.mp fun e => hlt (decide_eq_true e)) ea
    refine wpS_ifb (fun q => wpS_pure (hZ.fin _ _ _ (last_lo J.same iv H.sa H.sb q H.hL))) (fun q => ?_)
    have J3 : JLo a b st _ (ia + 1) ib st' := ⟨J.same, iv, Nat.lt_of_le_of_ne J.la q, J.lb⟩
    have h3 : n ≤ ia + 1 + ib := Nat.le_trans hn (Nat.add_le_add_right (Nat.le_succ ia) ib)
    exact wpS_if (fun _ => wpS_pure (hZ.brk _ _ ⟨J3, Nat.le_trans hm h3⟩)) (fun _ => wpS_pure (hZ.go _ _ ⟨J3, h3⟩))
variable {Z : ForInStep R7 → SortSt → Prop}
theorem wpS_loD (H : LoH a b st) (hZ : LoZ a b st m n Z) (J : JLo a b st out ia ib st') (hge : K a ia ≤ K b ib) (hm : m ≤ n) (hn : n ≤ ia + 1 + ib) : wpS (model prog w) A E s (loD a b out ia ib g ac bc) Z st' := by
  obtain ⟨ta, qa, ea⟩ := key_at H.ha (Nat.lt_of_succ_lt J.la)
  refine wpS_bind (wpS_elem ea ?_)
  have iv := J.sel H hge ea
  refine wpS_ifb (fun q => wpS_pure (hZ.fin _ _ _ (last_lo J.same iv H.sa H.sb q H.hL))) (fun q => ?_)
  have J3 : JLo a b st _ (ia + 1) ib st' := ⟨J.same, iv, Nat.lt_of_le_of_ne J.la q, J.lb⟩
  exact wpS_if (fun _ => wpS_pure (hZ.brk _ _ ⟨J3, Nat.le_trans hm hn⟩)) (fun _ => wpS_pure (hZ.go _ _ ⟨J3, hn⟩))
theorem seg_end {b : Array Keyed} {ib : Nat} (lb : ib < b.size) (h : Seg b 0 b.size) : Seg b ib (ib + (b.size - ib)) := fun i j p1 p2 p3 => h i j (Nat.zero_le _) p2 (Nat.add_sub_cancel' (Nat.le_of_lt lb) ▸ p3)
theorem lt_rest {n i k : Nat} (h : i + k < n) : k < n - i := Nat.lt_sub_of_add_lt (Nat.add_comm i k ▸ h)
theorem wpS_loC (H : LoH a b st) (hZ : LoZ a b st m n Z) (J : JLo a b st out ia ib st') (hm : m ≤ n) (hn : n ≤ ia + 1 + ib) : wpS (model prog w) A E s (loC a b out ia ib g ac bc) Z st' := by
  obtain ⟨ta, qa, ea⟩ := key_at H.ha (Nat.lt_of_succ_lt J.la)
  have lb := J.lb
  have hle := Nat.le_of_lt lb
  refine wpS_bind (wpS_elem ea (wpS_bind (wpS_gallop (J.same.1.trans H.hk) H.hb (Nat.le_of_eq (Nat.add_sub_cancel' hle)) (Nat.sub_pos_of_lt lb) (seg_end lb H.gb) fun k hk hb5 hc5 => ?_)))
  have hk' := Nat.add_le_of_le_sub' hle hk
  refine wpS_if (fun k0 => ?_) (fun k0 => ?_)
  · have iv : SMInv le a.toList b.toList (out ++ b.extract ib (ib + k)).toList ia (ib + k) := by
      rw [Array.toList_append, ext_k]
      refine (movk le_refl' le_trans' J.inv.symm H.sb H.sa (getT ea) fun x hx => ?_).symm
      obtain ⟨j, hj, e⟩ := mem_seg hx hk'
      show num x ≤ K a ia
      rw [← e]
      exact Int.le_of_lt (kb_t (hb5 j hj))
    refine wpS_ifb (fun q => wpS_pure (hZ.fin _ _ _ (done_lo J.same iv H.sa H.sb fun x hx => drop_none q))) (fun q => ?_)
    have hlt := Nat.lt_of_le_of_ne hk' q
    exact wpS_loD H hZ ⟨J.same, iv, J.la, hlt⟩ (kb_f (hc5 k (Nat.le_refl _) (lt_rest hlt))) hm (Nat.le_trans hn (Nat.add_le_add_left (Nat.le_add_right _ _) _))
  · exact wpS_loD H hZ J (kb_f (hc5 0 (Nat.not_lt.mp k0) (Nat.sub_pos_of_lt lb))) hm hn
theorem wpS_loB (H : LoH a b st) (hZ : LoZ a b st m n Z) (J : JLo a b st out ia ib st') (hgt : K b ib ≤ K a ia) (hm : m ≤ n) (hn : n ≤ ia + ib + 1) : wpS (model prog w) A E s (loB a b out ia ib g ac bc) Z st' := by
  obtain ⟨tb, qb, eb⟩ := key_at H.hb J.lb
  refine wpS_bind (wpS_elem eb ?_)
  have iv := J.selb H hgt eb
  refine wpS_ifb (fun q => wpS_pure (hZ.fin _ _ _ (done_lo J.same iv H.sa H.sb fun x hx => drop_none q))) (fun q => ?_)
  exact wpS_loC H hZ ⟨J.same, iv, J.la, Nat.lt_of_le_of_ne J.lb q⟩ hm (Nat.le_trans hn (Nat.succ_le_succ (Nat.add_le_add_right (Nat.le_succ ia) ib)))
theorem wpS_loA (H : LoH a b st) (hZ : LoZ a b st m n Z) (J : JLo a b st out ia ib st') (hm : m ≤ n) (hn : n ≤ ia + ib + 1) : wpS (model prog w) A E s (loA a b out ia ib ac bc g) Z st' := by
  obtain ⟨tb, qb, eb⟩ := key_at H.hb J.lb
  have la := J.la
  have la' := Nat.lt_of_succ_lt la
  have hle := Nat.le_of_lt la'
  refine wpS_bind (wpS_setG fun st4 h4 => ?_)
  have J4 : JLo a b st out ia ib st4 := ⟨J.same.trans h4, J.inv, la, J.lb⟩
  clear J
  refine wpS_bind (wpS_elem eb (wpS_bind (wpS_gallop (J4.same.1.trans H.hk) H.ha (Nat.le_of_eq (Nat.add_sub_cancel' hle)) (Nat.sub_pos_of_lt la') (seg_end la' H.ga) fun k hk hb5 hc5 => ?_)))
  have hk' := Nat.add_le_of_le_sub' hle hk
  refine wpS_if (fun k0 => ?_) (fun k0 => ?_)
  · have iv : SMInv le a.toList b.toList (out ++ a.extract ia (ia + k)).toList (ia + k) ib := by
      rw [Array.toList_append, ext_k]
      refine movk le_refl' le_trans' J4.inv H.sa H.sb (getT eb) fun x hx => ?_
      obtain ⟨j, hj, e⟩ := mem_seg hx hk'
      show num x ≤ K b ib
      rw [← e]
      exact kb_ft (hb5 j hj)
    refine wpS_ifb (fun q => wpS_pure (hZ.fin _ _ _ (last_lo J4.same iv H.sa H.sb q H.hL))) (fun q => ?_)
    refine wpS_ifb (fun q => wpS_pure (hZ.fin _ _ _ (done_lo J4.same iv H.sa H.sb (drop_none q)))) (fun q' => ?_)
    have hlt := Nat.lt_of_le_of_ne hk' q'
    exact wpS_loB H hZ ⟨J4.same, iv, Nat.lt_of_le_of_ne hlt q, J4.lb⟩ (Int.le_of_lt (kb_ff (hc5 k (Nat.le_refl _) (lt_rest hlt)))) hm (Nat.le_trans hn (Nat.succ_le_succ (Nat.add_le_add_right (Nat.le_add_right _ _) _)))
  · exact wpS_loB H hZ J4 (Int.le_of_lt (kb_ff (hc5 0 (Nat.not_lt.mp k0) (Nat.sub_pos_of_lt la')))) hm hn
theorem wpS_loO (H : LoH a b st) {Z : ForInStep R4 → SortSt → Prop} (hZ : MZ (Merged a b st) (fun _ _ => False) (GLo a b st (n + 1)) Z)
    (J : JLo a b st out ia ib st') (hn : n ≤ ia + ib) : wpS (model prog w) A E s (loO a b out ia ib g) Z st' := by
  refine wpS_bind (wpS_mloop (M := Merged a b st) (B := GLo a b st n) (fun _ => GLo a b st n) (fun x t st2 Z h hZ => wpS_loI H hZ h.1 (Nat.le_refl n) h.2) (fun _ _ h => h) ⟨J, hn⟩ (fun R t st2 h => wpS_pure (hZ.fin _ _ _ h)) fun t st2 h => ?_)
  refine wpS_bind (wpS_lift (wpAny_rule ⟨rfl, wpS_bind (wpS_mloop (M := Merged a b st) (B := GLo a b st (n + 1)) (fun x => GLo a b st (n + x)) (fun x t st3 Z h hZ => ?_) (fun t st3 h => ⟨h.1, Nat.le_trans (Nat.add_le_add_left ?_ n) h.2⟩) h (fun R t st3 h => wpS_pure (hZ.fin _ _ _ h)) fun t st3 h => ?_)⟩))
  · have hm := Nat.add_le_add_left (Nat.le_add_left 1 x) n
    exact wpS_if (fun _ => wpS_loA H hZ h.1 hm (Nat.succ_le_succ h.2)) (fun _ => wpS_loA H hZ h.1 hm (Nat.succ_le_succ h.2))
  · exact Nat.le_trans (Nat.lt_of_le_of_lt (Nat.zero_le _) J.lb) (Nat.le_add_left _ _)
  · exact wpS_bind (wpS_setG fun st4 h4 => wpS_pure (hZ.go _ _ ⟨⟨h.1.same.trans h4, h.1.inv, h.1.la, h.1.lb⟩, h.2⟩))
end
theorem wpS_mergeLo {a b : Array Keyed} {Q : Array Keyed → SortSt → Prop} (hk : kindOf st = oneType') (ha : IntKeys a) (hb : IntKeys b) (h1 : 1 ≤ a.size) (h2 : 1 ≤ b.size) (sa : a.toList.Pairwise le) (sb : b.toList.Pairwise le)
    (ga : Seg a 0 a.size) (gb : Seg b 0 b.size) (hF : ∀ y ∈ b.toList.take 1, ∀ x ∈ a.toList, le y x) (hL : ∀ y ∈ b.toList, ∀ x ∈ a.toList.drop (a.size - 1), le y x)
    (h : ∀ R st', Merged a b st R st' → Q R st') : wpS (model prog w) A E s (mergeLo' a b) Q st := by
  rw [mergeLo'_eq]
  refine wpS_bind (wpS_lift (wpAny_rule ⟨rfl, ?_⟩))
  obtain ⟨tb, qb, eb⟩ := key_at hb (i := 0) h2
  refine wpS_bind (wpS_elem eb ?_)
  have i0 : SMInv le a.toList b.toList #[((.int (K b 0) tb, qb) : Keyed)].toList 0 1 := by
    have z : SMInv le b.toList a.toList ([] : List Keyed) 0 0 := ⟨.nil, .nil, fun x hx => nomatch hx⟩
    have k := z.step sb 1 (fun x hx y hy => hF x hx y hy)
    rw [drop_one (getT eb)] at k
    exact k.symm
  have r0 : SameG st st := ⟨rfl, rfl, rfl, rfl⟩
  refine wpS_ifb (fun e => wpS_pure (h _ _ (done_lo r0 i0 sa sb fun x hx => drop_none e))) (fun e1 => ?_)
  refine wpS_ifb (fun e => wpS_pure (h _ _ (last_lo r0 i0 sa sb e hL))) (fun e2 => ?_)
  refine wpS_bind (wpS_get ?_)
  refine wpS_bind (wpS_mloop (M := Merged a b st) (B := fun _ _ => False) (fun x => GLo a b st (x + 1)) (fun x t st2 Z g hZ => wpS_loO ⟨hk, ha, hb, sa, sb, ga, gb, hL⟩ hZ g.1 g.2) (fun t st2 g => ?_) ⟨⟨r0, i0, Nat.lt_of_le_of_ne h1 e2, Nat.lt_of_le_of_ne h2 e1⟩, Nat.le_refl _⟩ (fun R t st2 g => wpS_pure (h _ _ g)) fun t st2 g => g.elim)
  exact Nat.lt_irrefl _ (Nat.lt_trans g.2 (Nat.add_lt_add (Nat.lt_of_succ_lt g.1.la) g.1.lb))
end
end Mine
end
section
open PySem PyProof.Rows
namespace Mine
noncomputable def mergeHi' : Array Keyed → Array Keyed → StateT SortSt Sem (Array Keyed) := sortPriv% PySem.Builtin.mergeHi
noncomputable abbrev H4 := Option (Array Keyed) × Nat × Nat × Array Keyed × Nat
noncomputable abbrev H6 := Option (Array Keyed) × Nat × Nat × Array Keyed × Nat × Nat
noncomputable abbrev H7 := Option (Array Keyed) × Nat × Nat × Array Keyed × Nat × Nat × Nat
noncomputable def hDone (a b out : Array Keyed) (na nb : Nat) : Array Keyed := a.extract 0 na ++ b.extract 0 nb ++ out.reverse
noncomputable def hFirst (a b out : Array Keyed) (na nb : Nat) : Array Keyed := b.extract 0 nb ++ a.extract 0 na ++ out.reverse
noncomputable def hiI (a b : Array Keyed) (g na nb : Nat) (out : Array Keyed) (ac bc : Nat) : StateT SortSt Sem (ForInStep H6) := do
  let y ← elem' b (nb - 1)
  let x ← elem' a (na - 1)
  let some w ← lt' y x | pure (.done (some (hDone a b out na nb), na, nb, out, ac, bc))
  if w then do
    let p ← elem' a (na - 1)
    if na - 1 == 0 then pure (.done (some (hDone a b (out.push p) (na - 1) nb), na - 1, nb, out.push p, ac + 1, 0))
    else if ac + 1 ≥ g then pure (.done (none, na - 1, nb, out.push p, ac + 1, 0)) else pure (.yield (none, na - 1, nb, out.push p, ac + 1, 0))
  else do
    let p ← elem' b (nb - 1)
    if nb - 1 == 1 then pure (.done (some (hFirst a b (out.push p) na (nb - 1)), na, nb - 1, out.push p, 0, bc + 1))
    else if bc + 1 ≥ g then pure (.done (none, na, nb - 1, out.push p, 0, bc + 1)) else pure (.yield (none, na, nb - 1, out.push p, 0, bc + 1))
noncomputable def hiD (a b : Array Keyed) (na nb : Nat) (out : Array Keyed) (g ac bc : Nat) : StateT SortSt Sem (ForInStep H7) := do
  let p ← elem' a (na - 1)
  if na - 1 == 0 then pure (.done (some (hDone a b (out.push p) (na - 1) nb), na - 1, nb, out.push p, g, ac, bc))
  else if ac < 7 && bc < 7 then pure (.done (none, na - 1, nb, out.push p, g, ac, bc)) else pure (.yield (none, na - 1, nb, out.push p, g, ac, bc))
noncomputable def hiC' (a b : Array Keyed) (na nb : Nat) (out : Array Keyed) (g ac t : Nat) : StateT SortSt Sem (ForInStep H7) :=
  if nb - t > 0 then
    if t == 1 then pure (.done (some (hFirst a b (out ++ (b.extract t nb).reverse) na t), na, t, out ++ (b.extract t nb).reverse, g, ac, nb - t))
    else if t == 0 then pure (.done (some (hDone a b (out ++ (b.extract t nb).reverse) na t), na, t, out ++ (b.extract t nb).reverse, g, ac, nb - t))
    else hiD a b na t (out ++ (b.extract t nb).reverse) g ac (nb - t)
  else hiD a b na nb out g ac (nb - t)
noncomputable def hiC (a b : Array Keyed) (na nb : Nat) (out : Array Keyed) (g ac bc : Nat) : StateT SortSt Sem (ForInStep H7) := do
  let p ← elem' a (na - 1)
  let some t ← gallop' true p b 0 nb (nb - 1) | pure (.done (some (hDone a b out na nb), na, nb, out, g, ac, bc))
  hiC' a b na nb out g ac t
noncomputable def hiB (a b : Array Keyed) (na nb : Nat) (out : Array Keyed) (g ac bc : Nat) : StateT SortSt Sem (ForInStep H7) := do
  let p ← elem' b (nb - 1)
  if nb - 1 == 1 then pure (.done (some (hFirst a b (out.push p) na (nb - 1)), na, nb - 1, out.push p, g, ac, bc))
  else hiC a b na (nb - 1) (out.push p) g ac bc
noncomputable def hiA' (a b : Array Keyed) (na nb : Nat) (out : Array Keyed) (g t bc : Nat) : StateT SortSt Sem (ForInStep H7) :=
  if na - t > 0 then
    if t == 0 then pure (.done (some (hDone a b (out ++ (a.extract t na).reverse) t nb), t, nb, out ++ (a.extract t na).reverse, g, na - t, bc))
    else hiB a b t nb (out ++ (a.extract t na).reverse) g (na - t) bc
  else hiB a b na nb out g (na - t) bc
noncomputable def hiA (a b : Array Keyed) (na nb : Nat) (out : Array Keyed) (ac bc g : Nat) : StateT SortSt Sem (ForInStep H7) := do
  setMinGallop' g
  let p ← elem' b (nb - 1)
  let some t ← gallop' false p a 0 na (na - 1) | pure (.done (some (hDone a b out na nb), na, nb, out, g, ac, bc))
  hiA' a b na nb out g t bc
noncomputable def hiO (a b : Array Keyed) (na nb : Nat) (out : Array Keyed) (g : Nat) : StateT SortSt Sem (ForInStep H4) := do
  let c ← forIn [0:a.size + b.size] ((none, na, nb, out, 0, 0) : H6) fun _ c => hiI a b g c.2.1 c.2.2.1 c.2.2.2.1 c.2.2.2.2.1 c.2.2.2.2.2
  match c.1 with
  | some r => pure (.done (some r, c.2.1, c.2.2.1, c.2.2.2.1, g))
  | none => do
    rule "list.sort.gallop"
    let d ← forIn [0:a.size + b.size] ((none, c.2.1, c.2.2.1, c.2.2.2.1, g + 1, c.2.2.2.2.1, c.2.2.2.2.2) : H7) fun _ d => if d.2.2.2.2.1 > 1 then hiA a b d.2.1 d.2.2.1 d.2.2.2.1 d.2.2.2.2.2.1 d.2.2.2.2.2.2 (d.2.2.2.2.1 - 1) else hiA a b d.2.1 d.2.2.1 d.2.2.2.1 d.2.2.2.2.2.1 d.2.2.2.2.2.2 d.2.2.2.2.1
    match d.1 with
    | some r => pure (.done (some r, d.2.1, d.2.2.1, d.2.2.2.1, d.2.2.2.2.1))
    | none => do
      setMinGallop' (d.2.2.2.2.1 + 1)
      pure (.yield (none, d.2.1, d.2.2.1, d.2.2.2.1, d.2.2.2.2.1 + 1))
theorem mergeHi'_eq (a b : Array Keyed) : mergeHi' a b = (do
  rule "list.sort.merge-hi"
  let p ← elem' a (a.size - 1)
  if a.size - 1 == 0 then pure (hDone a b #[p] (a.size - 1) b.size)
  else if b.size == 1 then pure (hFirst a b #[p] (a.size - 1) b.size)
  else do
    let st ← get
    let c ← forIn [0:a.size + b.size] ((none, a.size - 1, b.size, #[p], gallopOf st) : H4) fun _ c => hiO a b c.2.1 c.2.2.1 c.2.2.2.1 c.2.2.2.2
    match c.1 with
    | some r => pure r
    | none => unsupported "internal:list.sort.merge-bound") := by kernel_rfl
theorem ge_refl' (x : Keyed) : ge x x := Int.le_refl _
theorem ge_trans' (x y z : Keyed) (h : ge x y) (k : ge y z) : ge x z := Int.le_trans k h
theorem rev_at {a : Array Keyed} {na : Nat} {p : Keyed} (h : a[na - 1]? = some p) (h1 : 1 ≤ na) (h2 : na ≤ a.size) : a.toList.reverse[a.size - na]? = some p := by
  rw [List.getElem?_reverse (by rw [Array.length_toList]; exact Nat.sub_lt (Nat.le_trans h1 h2) h1), Array.length_toList, Nat.sub_right_comm, Nat.sub_sub_self h2, Array.getElem?_toList]
  exact h
theorem rev_drop (a : Array Keyed) {na : Nat} (h2 : na ≤ a.size) : a.toList.reverse.drop (a.size - na) = (a.toList.take na).reverse := by
  rw [List.drop_reverse, Array.length_toList, Nat.sub_sub_self h2]
theorem ext_0 (a : Array Keyed) (na : Nat) : (a.extract 0 na).toList = a.toList.take na := by
  rw [Array.toList_extract]; rfl
theorem ext_rev (a : Array Keyed) {na i : Nat} (h1 : i ≤ na) (h2 : na ≤ a.size) : (a.extract i na).reverse.toList = (a.toList.reverse.drop (a.size - na)).take (na - i) := by
  rw [rev_drop a h2, List.take_reverse, Array.toList_reverse, Array.toList_extract, List.length_take, Array.length_toList, Nat.min_eq_left h2, Nat.sub_sub_self h1, List.drop_take]
theorem srt_rev {l : List Keyed} (h : l.Pairwise le) : l.reverse.Pairwise ge := List.pairwise_reverse.mpr h
section
variable {prog : Program} {w : World} {A : Around} {E : Value → Shared → Prop} {s : Shared} {st : SortSt}
noncomputable abbrev HInv (a b out : Array Keyed) (na nb : Nat) : Prop := SMInv ge a.toList.reverse b.toList.reverse out.toList (a.size - na) (b.size - nb)
theorem rev3 (x y z : List Keyed) : (x ++ y ++ z).reverse = z.reverse ++ y.reverse ++ x.reverse := by simp
theorem done_hi {a b out : Array Keyed} {na nb : Nat} {st' : SortSt} (hs : SameG st st') (h : HInv a b out na nb) (hna : na ≤ a.size) (hnb : nb ≤ b.size) (sa : a.toList.Pairwise le) (sb : b.toList.Pairwise le) (hx : ∀ y ∈ b.toList.take nb, ∀ x ∈ a.toList.take na, ge y x) :
    Merged a b st (a.extract 0 na ++ b.extract 0 nb ++ out.reverse) st' := by
  have k := h.symm.finish (srt_rev sb) (srt_rev sa) (by rw [rev_drop a hna, rev_drop b hnb]; intro y hy x hx'; exact hx y (List.mem_reverse.mp hy) x (List.mem_reverse.mp hx'))
  rw [rev_drop a hna, rev_drop b hnb] at k
  have e : (a.extract 0 na ++ b.extract 0 nb ++ out.reverse).toList = (out.toList ++ (b.toList.take nb).reverse ++ (a.toList.take na).reverse).reverse := by
    rw [rev3, Array.toList_append, Array.toList_append, ext_0, ext_0, Array.toList_reverse, List.reverse_reverse, List.reverse_reverse]
  refine ⟨hs, ?_, ?_⟩
  · rw [e]
    refine (List.reverse_perm _).trans (k.2.trans ?_)
    exact (List.perm_append_comm).trans ((List.reverse_perm _).append (List.reverse_perm _))
  · rw [e]; exact List.pairwise_reverse.mpr k.1
theorem first_hi {a b out : Array Keyed} {na nb : Nat} {st' : SortSt} (hs : SameG st st') (h : HInv a b out na nb) (hna : na ≤ a.size) (hnb : nb ≤ b.size) (sa : a.toList.Pairwise le) (sb : b.toList.Pairwise le) (h1 : nb = 1) (hF : ∀ y ∈ b.toList.take 1, ∀ x ∈ a.toList, le y x) :
    Merged a b st (b.extract 0 nb ++ a.extract 0 na ++ out.reverse) st' := by
  have k := h.finish (srt_rev sa) (srt_rev sb) (by rw [rev_drop a hna, rev_drop b hnb]; intro x hx y hy; rw [h1] at hy; exact hF y (List.mem_reverse.mp hy) x (List.mem_of_mem_take (List.mem_reverse.mp hx)))
  rw [rev_drop a hna, rev_drop b hnb] at k
  have e : (b.extract 0 nb ++ a.extract 0 na ++ out.reverse).toList = (out.toList ++ (a.toList.take na).reverse ++ (b.toList.take nb).reverse).reverse := by
    rw [rev3, Array.toList_append, Array.toList_append, ext_0, ext_0, Array.toList_reverse, List.reverse_reverse, List.reverse_reverse]
  refine ⟨hs, ?_, ?_⟩
  · rw [e]
    exact (List.reverse_perm _).trans (k.2.trans ((List.reverse_perm _).append (List.reverse_perm _)))
  · rw [e]; exact List.pairwise_reverse.mpr k.1
theorem hi_a {a b out : Array Keyed} {na nb : Nat} {p y : Keyed} (h : HInv a b out na nb) (sa : a.toList.Pairwise le) (sb : b.toList.Pairwise le) (h1 : 1 ≤ na) (h2 : na ≤ a.size) (h3 : 1 ≤ nb) (h4 : nb ≤ b.size) (ea : a[na - 1]? = some p) (eb : b[nb - 1]? = some y) (hle : num y ≤ num p) : HInv a b (out.push p) (na - 1) nb := by
  have k := mov1 ge_refl' ge_trans' h (srt_rev sa) (srt_rev sb) (rev_at ea h1 h2) (rev_at eb h3 h4) hle
  have e : a.size - (na - 1) = a.size - na + 1 := (Nat.sub_add_sub_cancel h2 (Nat.sub_le na 1)).symm.trans (by rw [Nat.sub_sub_self h1])
  unfold HInv
  rw [e, Array.toList_push]
  exact k
theorem hi_b {a b out : Array Keyed} {na nb : Nat} {p y : Keyed} (h : HInv a b out na nb) (sa : a.toList.Pairwise le) (sb : b.toList.Pairwise le) (h1 : 1 ≤ na) (h2 : na ≤ a.size) (h3 : 1 ≤ nb) (h4 : nb ≤ b.size) (ea : a[na - 1]? = some p) (eb : b[nb - 1]? = some y) (hle : num p ≤ num y) : HInv a b (out.push y) na (nb - 1) := by
  have k := mov1 ge_refl' ge_trans' h.symm (srt_rev sb) (srt_rev sa) (rev_at eb h3 h4) (rev_at ea h1 h2) hle
  have e : b.size - (nb - 1) = b.size - nb + 1 := (Nat.sub_add_sub_cancel h4 (Nat.sub_le nb 1)).symm.trans (by rw [Nat.sub_sub_self h3])
  unfold HInv
  rw [e, Array.toList_push]
  exact k.symm
theorem mem_ext {a : Array Keyed} {i na : Nat} {x : Keyed} (hx : x ∈ (a.toList.reverse.drop (a.size - na)).take (na - i)) (h1 : i ≤ na) (hna : na ≤ a.size) : ∃ j, i ≤ j ∧ j < na ∧ K a j = num x := by
  rw [← ext_rev a h1 hna, Array.toList_reverse, List.mem_reverse, Array.toList_extract] at hx
  have hx' : x ∈ (a.toList.drop i).take (na - i) := hx
  obtain ⟨j, hj, e⟩ := mem_seg hx' (Nat.le_trans (Nat.le_of_eq (Nat.add_sub_of_le h1)) hna)
  exact ⟨i + j, Nat.le_add_right _ _, Nat.add_lt_of_lt_sub' hj, e⟩
theorem hi_ak {a b out : Array Keyed} {na nb i : Nat} {y : Keyed} (h : HInv a b out na nb) (sa : a.toList.Pairwise le) (sb : b.toList.Pairwise le) (h1 : i ≤ na) (h2 : na ≤ a.size) (h3 : 1 ≤ nb) (h4 : nb ≤ b.size) (eb : b[nb - 1]? = some y) (hle : ∀ j, i ≤ j → j < na → num y ≤ K a j) : HInv a b (out ++ (a.extract i na).reverse) i nb := by
  have k := movk ge_refl' ge_trans' (k := na - i) h (srt_rev sa) (srt_rev sb) (rev_at eb h3 h4) (fun x hx => by
    obtain ⟨j, j1, j2, e⟩ := mem_ext hx h1 h2
    show num y ≤ num x
    rw [← e]; exact hle j j1 j2)
  have e : a.size - i = a.size - na + (na - i) := (Nat.sub_add_sub_cancel h2 h1).symm
  unfold HInv
  rw [e, Array.toList_append, ext_rev a h1 h2]
  exact k
theorem hi_bk {a b out : Array Keyed} {na nb i : Nat} {y : Keyed} (h : HInv a b out na nb) (sa : a.toList.Pairwise le) (sb : b.toList.Pairwise le) (h1 : i ≤ nb) (h2 : nb ≤ b.size) (h3 : 1 ≤ na) (h4 : na ≤ a.size) (ea : a[na - 1]? = some y) (hle : ∀ j, i ≤ j → j < nb → num y ≤ K b j) : HInv a b (out ++ (b.extract i nb).reverse) na i := by
  have k := movk ge_refl' ge_trans' (k := nb - i) h.symm (srt_rev sb) (srt_rev sa) (rev_at ea h3 h4) (fun x hx => by
    obtain ⟨j, j1, j2, e⟩ := mem_ext hx h1 h2
    show num y ≤ num x
    rw [← e]; exact hle j j1 j2)
  have e : b.size - i = b.size - nb + (nb - i) := (Nat.sub_add_sub_cancel h2 h1).symm
  unfold HInv
  rw [e, Array.toList_append, ext_rev b h1 h2]
  exact k.symm
theorem take_none {b : Array Keyed} {n : Nat} (h : n = 0) {P : Keyed → Prop} : ∀ y ∈ b.toList.take n, P y := by
  intro y hy
  rw [h] at hy
  cases hy
structure JHi (a b : Array Keyed) (st : SortSt) (out : Array Keyed) (na nb : Nat) (st' : SortSt) : Prop where
  same : SameG st st'
  inv : HInv a b out na nb
  la : 1 ≤ na
  lb : 2 ≤ nb
  ua : na ≤ a.size
  ub : nb ≤ b.size
structure HiH (a b : Array Keyed) (st : SortSt) : Prop where
  hk : kindOf st = oneType'
  ha : IntKeys a
  hb : IntKeys b
  sa : a.toList.Pairwise le
  sb : b.toList.Pairwise le
  ga : Seg a 0 a.size
  gb : Seg b 0 b.size
  hF : ∀ y ∈ b.toList.take 1, ∀ x ∈ a.toList, le y x
noncomputable def GHi {T : Type} (a b : Array Keyed) (st : SortSt) (n m : Nat) (t : Nat × Nat × Array Keyed × T) (st' : SortSt) : Prop := JHi a b st t.2.2.1 t.1 t.2.1 st' ∧ t.1 + t.2.1 + m ≤ n
noncomputable abbrev HiZ {T : Type} (a b : Array Keyed) (st : SortSt) (l m n : Nat) (Z : ForInStep (Option (Array Keyed) × Nat × Nat × Array Keyed × T) → SortSt → Prop) : Prop := MZ (Merged a b st) (GHi a b st n l) (GHi a b st n m) Z
section
variable {a b out : Array Keyed} {na nb g ac bc l m n t : Nat} {st' : SortSt}
theorem JHi.one (J : JHi a b st out na nb st') : 1 ≤ nb := Nat.le_of_succ_le J.lb
theorem lt1 {k n : Nat} (h1 : 1 ≤ k) (h2 : k ≤ n) : k - 1 < n := Nat.lt_of_lt_of_le (Nat.sub_lt h1 Nat.one_pos) h2
theorem JHi.sela (H : HiH a b st) (J : JHi a b st out na nb st') (hlt : K b (nb - 1) ≤ K a (na - 1)) {p : Keyed} (ea : a[na - 1]? = some p) : HInv a b (out.push p) (na - 1) nb := by
  obtain ⟨tb, qb, eb⟩ := key_at H.hb (lt1 J.one J.ub)
  exact hi_a J.inv H.sa H.sb J.la J.ua J.one J.ub ea eb (show K b (nb - 1) ≤ num p from K_get ea ▸ hlt)
theorem JHi.selb (H : HiH a b st) (J : JHi a b st out na nb st') (hlt : K a (na - 1) ≤ K b (nb - 1)) {p : Keyed} (eb : b[nb - 1]? = some p) : HInv a b (out.push p) na (nb - 1) := by
  obtain ⟨ta, qa, ea⟩ := key_at H.ha (lt1 J.la J.ua)
  exact hi_b J.inv H.sa H.sb J.la J.ua J.one J.ub ea eb (show K a (na - 1) ≤ num p from K_get eb ▸ hlt)
theorem pos_of {k : Nat} (h : 1 ≤ k) (q : k - 1 ≠ 0) : 1 ≤ k - 1 := Nat.pos_of_ne_zero q
theorem two_of {k : Nat} (h : 2 ≤ k) (q : k - 1 ≠ 1) : 2 ≤ k - 1 := Nat.lt_of_le_of_ne (Nat.le_sub_one_of_lt h) (Ne.symm q)
theorem two_of' {k : Nat} (h0 : k ≠ 0) (h1 : k ≠ 1) : 2 ≤ k := Nat.lt_of_le_of_ne (Nat.pos_of_ne_zero h0) (Ne.symm h1)
theorem sub_le1 {k n : Nat} (h : k ≤ n) : k - 1 ≤ n := Nat.le_trans (Nat.sub_le _ _) h
theorem dec_l {x y m n x' : Nat} (h : x + y + m ≤ n) (k : x' ≤ x) : x' + y + m ≤ n := Nat.le_trans (Nat.add_le_add_right (Nat.add_le_add_right k _) _) h
theorem dec_r {x y m n y' : Nat} (h : x + y + m ≤ n) (k : y' ≤ y) : x + y' + m ≤ n := Nat.le_trans (Nat.add_le_add_right (Nat.add_le_add_left k _) _) h
theorem dec_m {x m n m' : Nat} (h : x + m ≤ n) (k : m' ≤ m) : x + m' ≤ n := Nat.le_trans (Nat.add_le_add_left k _) h
theorem wpS_hiI (H : HiH a b st) {Z : ForInStep H6 → SortSt → Prop} (hZ : HiZ a b st l m n Z) (J : JHi a b st out na nb st') (hl : l ≤ m) (hn : na + nb + m ≤ n) : wpS (model prog w) A E s (hiI a b g na nb out ac bc) Z st' := by
  obtain ⟨tb, qb, eb⟩ := key_at H.hb (lt1 J.one J.ub)
  obtain ⟨ta, qa, ea⟩ := key_at H.ha (lt1 J.la J.ua)
  refine wpS_bind (wpS_elem eb (wpS_bind (wpS_elem ea (wpS_bind (wpS_lt2 (J.same.1.trans H.hk) (wpS_if (fun hlt => wpS_bind (wpS_elem ea ?_)) (fun hlt => wpS_bind (wpS_elem eb ?_))))))))
  · have iv := J.sela H (Int.le_of_lt (of_decide_eq_true hlt)) ea
    refine wpS_ifb (fun q => wpS_pure (hZ.fin _ _ _ (done_hi J.same iv (sub_le1 J.ua) J.ub H.sa H.sb fun x hx => take_none q))) (fun q => ?_)
    have J3 : JHi a b st _ (na - 1) nb st' := ⟨J.same, iv, pos_of J.la q, J.lb, sub_le1 J.ua, J.ub⟩
    have h3 := dec_l hn (Nat.sub_le na 1)
    exact wpS_if (fun _ => wpS_pure (hZ.brk _ _ ⟨J3, dec_m h3 hl⟩)) (fun _ => wpS_pure (hZ.go _ _ ⟨J3, h3⟩))
  · have iv := J.selb H (Int.not_lt.mp fun e => hlt (decide_eq_true e)) eb
    refine wpS_ifb (fun q => wpS_pure (hZ.fin _ _ _ (first_hi J.same iv J.ua (sub_le1 J.ub) H.sa H.sb q H.hF))) (fun q => ?_)
    have J3 : JHi a b st _ na (nb - 1) st' := ⟨J.same, iv, J.la, two_of J.lb q, J.ua, sub_le1 J.ub⟩
    have h3 := dec_r hn (Nat.sub_le nb 1)
    exact wpS_if (fun _ => wpS_pure (hZ.brk _ _ ⟨J3, dec_m h3 hl⟩)) (fun _ => wpS_pure (hZ.go _ _ ⟨J3, h3⟩))
variable {Z : ForInStep H7 → SortSt → Prop}
theorem wpS_hiD (H : HiH a b st) (hZ : HiZ a b st l m n Z) (J : JHi a b st out na nb st') (hge : K b (nb - 1) ≤ K a (na - 1)) (hl : l ≤ m) (hn : na - 1 + nb + m ≤ n) : wpS (model prog w) A E s (hiD a b na nb out g ac bc) Z st' := by
  obtain ⟨ta, qa, ea⟩ := key_at H.ha (lt1 J.la J.ua)
  refine wpS_bind (wpS_elem ea ?_)
  have iv := J.sela H hge ea
  refine wpS_ifb (fun q => wpS_pure (hZ.fin _ _ _ (done_hi J.same iv (sub_le1 J.ua) J.ub H.sa H.sb fun x hx => take_none q))) (fun q => ?_)
  have J3 : JHi a b st _ (na - 1) nb st' := ⟨J.same, iv, pos_of J.la q, J.lb, sub_le1 J.ua, J.ub⟩
  exact wpS_if (fun _ => wpS_pure (hZ.brk _ _ ⟨J3, dec_m hn hl⟩)) (fun _ => wpS_pure (hZ.go _ _ ⟨J3, hn⟩))
theorem seg_first {b : Array Keyed} {nb : Nat} (ub : nb ≤ b.size) (h : Seg b 0 b.size) : Seg b 0 (0 + nb) := fun i j p1 p2 p3 => h i j p1 p2 (Nat.lt_of_lt_of_le p3 ((Nat.zero_add nb).symm ▸ ub))
theorem not_rest {n k : Nat} (h1 : 1 ≤ n) (h : ¬ n - k > 0) : n - 1 < k := Nat.lt_of_lt_of_le (Nat.sub_lt h1 Nat.one_pos) (Nat.le_of_sub_eq_zero (Nat.eq_zero_of_not_pos h))
theorem wpS_hiC (H : HiH a b st) (hZ : HiZ a b st l m n Z) (J : JHi a b st out na nb st') (hl : l ≤ m) (hn : na - 1 + nb + m ≤ n) : wpS (model prog w) A E s (hiC a b na nb out g ac bc) Z st' := by
  obtain ⟨ta, qa, ea⟩ := key_at H.ha (lt1 J.la J.ua)
  have ub := J.ub
  refine wpS_bind (wpS_elem ea (wpS_bind (wpS_gallop (J.same.1.trans H.hk) H.hb ((Nat.zero_add nb).symm ▸ ub) (Nat.sub_lt J.one Nat.one_pos) (seg_first ub H.gb) fun t hk hb5 hc5 => ?_)))
  have up : ∀ i, i < t → K b i ≤ K a (na - 1) := fun i hi => Nat.zero_add i ▸ Int.le_of_lt (kb_t (hb5 i hi))
  refine wpS_if (fun k0 => ?_) (fun k0 => ?_)
  · have iv := hi_bk (i := t) J.inv H.sa H.sb hk ub J.la J.ua ea (fun j j1 j2 => Nat.zero_add j ▸ kb_f (hc5 j j1 j2))
    refine wpS_ifb (fun q => wpS_pure (hZ.fin _ _ _ (first_hi J.same iv J.ua (Nat.le_trans hk ub) H.sa H.sb q H.hF))) (fun q => ?_)
    refine wpS_ifb (fun q => wpS_pure (hZ.fin _ _ _ (done_hi J.same iv J.ua (Nat.le_trans hk ub) H.sa H.sb (take_none q)))) (fun q' => ?_)
    exact wpS_hiD H hZ ⟨J.same, iv, J.la, two_of' q' q, J.ua, Nat.le_trans hk ub⟩ (up _ (Nat.sub_lt (Nat.pos_of_ne_zero q') Nat.one_pos)) hl (dec_r hn hk)
  · exact wpS_hiD H hZ J (up _ (not_rest J.one k0)) hl hn
theorem wpS_hiB (H : HiH a b st) (hZ : HiZ a b st l m n Z) (J : JHi a b st out na nb st') (hgt : K a (na - 1) ≤ K b (nb - 1)) (hl : l ≤ m) (hn : na - 1 + nb + m ≤ n) : wpS (model prog w) A E s (hiB a b na nb out g ac bc) Z st' := by
  obtain ⟨tb, qb, eb⟩ := key_at H.hb (lt1 J.one J.ub)
  refine wpS_bind (wpS_elem eb ?_)
  have iv := J.selb H hgt eb
  refine wpS_ifb (fun q => wpS_pure (hZ.fin _ _ _ (first_hi J.same iv J.ua (sub_le1 J.ub) H.sa H.sb q H.hF))) (fun q => ?_)
  exact wpS_hiC H hZ ⟨J.same, iv, J.la, two_of J.lb q, J.ua, sub_le1 J.ub⟩ hl (dec_r hn (Nat.sub_le nb 1))
theorem wpS_hiA (H : HiH a b st) (hZ : HiZ a b st l m n Z) (J : JHi a b st out na nb st') (hl : l ≤ m) (hn : na - 1 + nb + m ≤ n) : wpS (model prog w) A E s (hiA a b na nb out ac bc g) Z st' := by
  obtain ⟨tb, qb, eb⟩ := key_at H.hb (lt1 J.one J.ub)
  have la := J.la
  have ua := J.ua
  refine wpS_bind (wpS_setG fun st4 h4 => ?_)
  have J4 : JHi a b st out na nb st4 := ⟨J.same.trans h4, J.inv, la, J.lb, ua, J.ub⟩
  clear J
  refine wpS_bind (wpS_elem eb (wpS_bind (wpS_gallop (J4.same.1.trans H.hk) H.ha ((Nat.zero_add na).symm ▸ ua) (Nat.sub_lt la Nat.one_pos) (seg_first ua H.ga) fun t hk hb5 hc5 => ?_)))
  have up : ∀ i, i < t → K a i ≤ K b (nb - 1) := fun i hi => Nat.zero_add i ▸ kb_ft (hb5 i hi)
  refine wpS_if (fun k0 => ?_) (fun k0 => ?_)
  · have iv := hi_ak (i := t) J4.inv H.sa H.sb hk ua J4.one J4.ub eb (fun j j1 j2 => Nat.zero_add j ▸ Int.le_of_lt (kb_ff (hc5 j j1 j2)))
    refine wpS_ifb (fun q => wpS_pure (hZ.fin _ _ _ (done_hi J4.same iv (Nat.le_trans hk ua) J4.ub H.sa H.sb fun y hy => take_none q))) (fun q => ?_)
    exact wpS_hiB H hZ ⟨J4.same, iv, Nat.pos_of_ne_zero q, J4.lb, Nat.le_trans hk ua, J4.ub⟩ (up _ (Nat.sub_lt (Nat.pos_of_ne_zero q) Nat.one_pos)) hl (dec_l hn (Nat.sub_le_sub_right hk 1))
  · exact wpS_hiB H hZ J4 (up _ (not_rest la k0)) hl hn
theorem hi_next {x na nb n : Nat} (h1 : 1 ≤ na) (h : na + nb + x ≤ n) : na - 1 + nb + (x + 1) ≤ n := by
  cases na with
  | zero => cases h1
  | succ k => rw [Nat.succ_add, Nat.succ_add] at h; exact h
theorem hi_sub {s x n : Nat} (h0 : x + 1 ≤ n) (h : s + 1 ≤ n - (x + 1)) : s + (x + 1 + 1) ≤ n := by
  have z := Nat.add_le_of_le_sub h0 h
  rw [Nat.add_assoc, Nat.add_comm 1] at z
  exact z
theorem wpS_hiO (H : HiH a b st) {Z : ForInStep H4 → SortSt → Prop} (hZ : MZ (Merged a b st) (fun _ _ => False) (GHi a b st n 1) Z)
    (J : JHi a b st out na nb st') (hn : na + nb ≤ n) : wpS (model prog w) A E s (hiO a b na nb out g) Z st' := by
  refine wpS_bind (wpS_mloop (M := Merged a b st) (B := GHi a b st n 0) (fun _ => GHi a b st n 0) (fun x t st2 Z h hZ => wpS_hiI H hZ h.1 (Nat.le_refl 0) h.2) (fun _ _ h => h) ⟨J, hn⟩ (fun R t st2 h => wpS_pure (hZ.fin _ _ _ h)) fun t st2 h => ?_)
  refine wpS_bind (wpS_lift (wpAny_rule ⟨rfl, wpS_bind (wpS_mloop (M := Merged a b st) (B := GHi a b st n 1) (fun x => GHi a b st n x) (fun x t st3 Z h hZ => ?_) (fun t st3 h => ⟨h.1, dec_m h.2 ?_⟩) h (fun R t st3 h => wpS_pure (hZ.fin _ _ _ h)) fun t st3 h => ?_)⟩))
  · have hm := hi_next h.1.la h.2
    exact wpS_if (fun _ => wpS_hiA H hZ h.1 (Nat.le_add_left 1 x) hm) (fun _ => wpS_hiA H hZ h.1 (Nat.le_add_left 1 x) hm)
  · exact Nat.le_trans (Nat.le_trans J.la J.ua) (Nat.le_add_right _ _)
  · exact wpS_bind (wpS_setG fun st4 h4 => wpS_pure (hZ.go _ _ ⟨⟨h.1.same.trans h4, h.1.inv, h.1.la, h.1.lb, h.1.ua, h.1.ub⟩, h.2⟩))
end
theorem wpS_mergeHi {a b : Array Keyed} {Q : Array Keyed → SortSt → Prop} (hk : kindOf st = oneType') (ha : IntKeys a) (hb : IntKeys b) (h1 : 1 ≤ a.size) (h2 : 1 ≤ b.size) (sa : a.toList.Pairwise le) (sb : b.toList.Pairwise le)
    (ga : Seg a 0 a.size) (gb : Seg b 0 b.size) (hF : ∀ y ∈ b.toList.take 1, ∀ x ∈ a.toList, le y x) (hL : ∀ y ∈ b.toList, ∀ x ∈ a.toList.drop (a.size - 1), le y x)
    (h : ∀ R st', Merged a b st R st' → Q R st') : wpS (model prog w) A E s (mergeHi' a b) Q st := by
  rw [mergeHi'_eq]
  refine wpS_bind (wpS_lift (wpAny_rule ⟨rfl, ?_⟩))
  obtain ⟨ta, qa, ea⟩ := key_at ha (i := a.size - 1) (Nat.sub_lt h1 Nat.one_pos)
  refine wpS_bind (wpS_elem ea ?_)
  have i0 : HInv a b #[((.int (K a (a.size - 1)) ta, qa) : Keyed)] (a.size - 1) b.size := by
    have z : SMInv ge a.toList.reverse b.toList.reverse ([] : List Keyed) 0 0 := ⟨.nil, .nil, fun x hx => nomatch hx⟩
    have eA := rev_at ea h1 (Nat.le_refl _)
    rw [Nat.sub_self] at eA
    have k := z.step (srt_rev sa) 1 (fun x hx y hy => by
      rw [drop_one eA] at hx
      rw [List.mem_singleton.mp hx]
      refine hL y (List.mem_reverse.mp hy) _ ?_
      have e3 : a.toList[a.size - 1]? = some (.int (K a (a.size - 1)) ta, qa) := by rw [Array.getElem?_toList]; exact ea
      rw [drop_head e3]; exact List.mem_cons_self)
    rw [drop_one eA] at k
    have e1 : a.size - (a.size - 1) = 0 + 1 := Nat.sub_sub_self h1
    unfold HInv
    rw [e1, Nat.sub_self]
    exact k
  have r0 : SameG st st := ⟨rfl, rfl, rfl, rfl⟩
  refine wpS_ifb (fun e => wpS_pure (h _ _ (done_hi r0 i0 (Nat.sub_le _ _) (Nat.le_refl _) sa sb fun y hy => take_none e))) (fun e1 => ?_)
  refine wpS_ifb (fun e => wpS_pure (h _ _ (first_hi r0 i0 (Nat.sub_le _ _) (Nat.le_refl _) sa sb e hF))) (fun e2 => ?_)
  refine wpS_bind (wpS_get ?_)
  refine wpS_bind (wpS_mloop (M := Merged a b st) (B := fun _ _ => False) (fun x => GHi a b st (a.size + b.size) (x + 1)) (fun x t st2 Z g hZ => wpS_hiO (n := a.size + b.size - (x + 1)) ⟨hk, ha, hb, sa, sb, ga, gb, hF⟩ ⟨hZ.fin, hZ.brk, fun t st' h => hZ.go t st' ⟨h.1, hi_sub (Nat.le_trans (Nat.le_add_left _ _) g.2) h.2⟩⟩ g.1 (Nat.le_sub_of_add_le g.2)) (fun t st2 g => ?_)
    ⟨⟨r0, i0, Nat.pos_of_ne_zero e1, Nat.lt_of_le_of_ne h2 (Ne.symm e2), Nat.sub_le _ _, Nat.le_refl _⟩, hi_next h1 (Nat.le_refl _)⟩ (fun R t st2 g => wpS_pure (h _ _ g)) fun t st2 g => g.elim)
  exact Nat.not_succ_le_self _ (Nat.le_trans (Nat.le_add_left _ _) g.2)
end
end Mine
end
section
open PySem PyProof.Rows
namespace Mine
noncomputable def jFin (sa : Nat) (R : Array Keyed) : StateT SortSt Sem Bool := do
  modify fun s => setArr s (R.toList.zipIdx.foldl (fun a x => a.setIfInBounds (sa + x.2) x.1) (arrOf s))
  let t ← get
  pure (failedOf t).isNone
noncomputable def jTwo (xs : Array Keyed) (sb nb sa na : Nat) : StateT SortSt Sem Bool :=
  if na == 0 then pure true else do
    let p ← elem' xs (sa + na - 1)
    let some nb ← gallop' true p xs sb nb (nb - 1) | pure false
    if nb == 0 then pure true else if na ≤ nb then do
      let R ← mergeLo' (xs.extract sa sb) (xs.extract sb (sb + nb))
      jFin sa R
    else do
      let R ← mergeHi' (xs.extract sa sb) (xs.extract sb (sb + nb))
      jFin sa R
theorem mergeAt_is (i : Nat) : mergeAt' i = (do
  let s ← get
  let (some (sa, na, power), some (sb, nb, _)) := ((pendingOf s)[i]?, (pendingOf s)[i + 1]?) | unsupported "internal:list.sort.pending"
  set (setPending s (((pendingOf s).setIfInBounds i (sa, na + nb, power)).eraseIdxIfInBounds (i + 1)))
  let p ← elem' (arrOf s) sb
  let some k ← gallop' false p (arrOf s) sa na 0 | pure false
  jTwo (arrOf s) sb nb (sa + k) (na - k)) := by kernel_rfl
theorem fold_set (sa : Nat) : ∀ (R : List Keyed) (n : Nat) (xs : Array Keyed), sa + n + R.length ≤ xs.size →
    ((R.zipIdx n).foldl (fun a x => a.setIfInBounds (sa + x.2) x.1) xs).toList = xs.toList.take (sa + n) ++ R ++ xs.toList.drop (sa + n + R.length)
  | [], n, xs, h => by simp
  | p :: R, n, xs, h => by
    simp only [List.length_cons] at h
    rw [List.zipIdx_cons, List.foldl_cons, fold_set sa R (n + 1) _ (by simp; omega)]
    have e1 : sa + (n + 1) = sa + n + 1 := rfl
    simp only [Array.toList_setIfInBounds, List.length_cons, e1]
    have e2 : (xs.toList.set (sa + n) p).take (sa + n + 1) = xs.toList.take (sa + n) ++ [p] := by
      have e : xs.toList.set (sa + n) p = (xs.toList.take (sa + n) ++ [p]) ++ xs.toList.drop (sa + n + 1) := by
        rw [List.set_eq_take_append_cons_drop, if_pos (by simp; omega)]; simp
      rw [e]
      exact List.take_left' (by simp; omega)
    have e3 : (xs.toList.set (sa + n) p).drop (sa + n + 1 + R.length) = xs.toList.drop (sa + n + (R.length + 1)) := by
      rw [List.drop_set_of_lt (by omega)]
      congr 1
      omega
    rw [e2, e3]
    simp
theorem keys_of_perm {a₀ xs : Array Keyed} (h0 : IntKeys a₀) (h : xs.Perm a₀) : IntKeys xs := fun p hp => h0 p ((Array.perm_iff_toList_perm.mp h).mem_iff.mp hp)
theorem keys_ext {xs : Array Keyed} (h : IntKeys xs) (i j : Nat) : IntKeys (xs.extract i j) := fun p hp => by
  rw [Array.toList_extract] at hp
  exact h p (List.mem_of_mem_drop (List.mem_of_mem_take hp))
theorem K_ext (xs : Array Keyed) {i j m : Nat} (h : m < j - i) (hj : j ≤ xs.size) : K (xs.extract i j) m = K xs (i + m) := by
  refine K_congr ?_
  rw [Array.getElem?_extract, if_pos (by rw [Nat.min_eq_left hj]; exact h)]
theorem size_ext (xs : Array Keyed) {i j : Nat} (hj : j ≤ xs.size) : (xs.extract i j).size = j - i := by
  rw [Array.size_extract, Nat.min_eq_left hj]
theorem seg_ext {xs : Array Keyed} {i j : Nat} (h : Seg xs i j) (hj : j ≤ xs.size) : Seg (xs.extract i j) 0 (xs.extract i j).size := by
  intro a b _ h2 h3
  rw [size_ext xs hj] at h3
  rw [K_ext xs (Nat.lt_of_le_of_lt h2 h3) hj, K_ext xs h3 hj]
  exact h _ _ (Nat.le_add_right _ _) (Nat.add_le_add_left h2 i) (Nat.add_lt_of_lt_sub' h3)
theorem K_pos {xs : Array Keyed} {i : Nat} (h : i < xs.size) : K xs i = num xs[i] := K_get (getElem?_pos xs i h)
theorem pw_of_seg {xs : Array Keyed} (h : Seg xs 0 xs.size) : xs.toList.Pairwise le := by
  rw [List.pairwise_iff_getElem]
  intro i j hi hj hij
  have z := h i j (Nat.zero_le _) (Nat.le_of_lt hij) hj
  rw [K_pos hi, K_pos hj] at z
  exact z
theorem sorted_of_pw {xs : Array Keyed} (h : xs.toList.Pairwise le) : SortedTo xs xs.size := by
  intro i j hij hj
  have hi := Nat.lt_of_le_of_lt hij hj
  rcases Nat.eq_or_lt_of_le hij with hl | hl
  · rw [hl]; exact Int.le_refl _
  · have z := List.pairwise_iff_getElem.mp h i j hi hj hl
    rw [K_pos hi, K_pos hj]
    exact z
theorem pw_ext {xs : Array Keyed} {i j : Nat} (h : Seg xs i j) (hj : j ≤ xs.size) : (xs.extract i j).toList.Pairwise le := pw_of_seg (seg_ext h hj)
theorem ext_app (xs : Array Keyed) {i j l : Nat} (h1 : i ≤ j) (h2 : j ≤ l) : (xs.extract i j).toList ++ (xs.extract j l).toList = (xs.extract i l).toList := by
  rw [← Array.toList_append, Array.extract_append_extract, Nat.min_eq_left h1, Nat.max_eq_right h2]
theorem ext_take (a : Array Keyed) (k : Nat) : (a.extract 0 k).toList = a.toList.take k := by rw [Array.toList_extract]; rfl
theorem mem_ext_K {xs : Array Keyed} {i j : Nat} {x : Keyed} (hx : x ∈ (xs.extract i j).toList) (hj : j ≤ xs.size) : ∃ m, i ≤ m ∧ m < j ∧ K xs m = num x := by
  obtain ⟨n, hn, e⟩ := List.getElem_of_mem hx
  have hn' : n < j - i := size_ext xs hj ▸ hn
  exact ⟨i + n, Nat.le_add_right _ _, Nat.add_lt_of_lt_sub' hn', by rw [← K_ext xs hn' hj, K_pos hn]; exact congrArg num e⟩
theorem take1_K {xs : Array Keyed} {x : Keyed} (hx : x ∈ xs.toList.take 1) : K xs 0 = num x := by
  obtain ⟨j, h1, h2⟩ := mem_seg (a := xs) (i := 0) (k := 1) hx (by
    rcases Nat.eq_zero_or_pos xs.size with e | e
    · rw [List.length_eq_zero_iff.mp (Array.length_toList.trans e)] at hx; cases hx
    · exact e)
  rw [Nat.lt_one_iff.mp h1] at h2
  exact h2
theorem last_K {xs : Array Keyed} {x : Keyed} (h : 1 ≤ xs.size) (hx : x ∈ xs.toList.drop (xs.size - 1)) : K xs (xs.size - 1) = num x := by
  obtain ⟨j, h1, h2⟩ := mem_seg (a := xs) (i := xs.size - 1) (k := 1) (by rw [List.take_of_length_le (by rw [List.length_drop, Array.length_toList, Nat.sub_sub_self h]; exact Nat.le_refl _)]; exact hx) (Nat.le_of_eq (Nat.sub_add_cancel h))
  rw [Nat.lt_one_iff.mp h1] at h2
  exact h2
theorem seg_glue {xs : Array Keyed} {n1 N : Nat} (s1 : Seg xs 0 n1) (s2 : Seg xs n1 N) (h : K xs (n1 - 1) ≤ K xs n1) : SortedTo xs N := fun i j hij hj => by
  rcases Nat.lt_or_ge j n1 with c1 | c1
  · exact s1 i j (Nat.zero_le _) hij c1
  · rcases Nat.lt_or_ge i n1 with c2 | c2
    · exact Int.le_trans (s1 i (n1 - 1) (Nat.zero_le _) (Nat.le_sub_one_of_lt c2) (Nat.sub_one_lt_of_lt c2)) (Int.le_trans h (s2 n1 j (Nat.le_refl _) c1 hj))
    · exact s2 i j c2 hij hj
theorem join_pw {P X Y Z R : List Keyed} (h1 : (P ++ X).Pairwise le) (h2 : (Y ++ Z).Pairwise le) (hp : R.Perm (X ++ Y)) (hr : R.Pairwise le) (a : ∀ x ∈ P, ∀ y ∈ Y ++ Z, le x y) (b : ∀ x ∈ X, ∀ z ∈ Z, le x z) : (P ++ R ++ Z).Pairwise le := by
  rw [List.pairwise_append] at h1 h2 ⊢
  rw [List.pairwise_append]
  exact ⟨⟨h1.1, hr, fun x hx y hy => (List.mem_append.mp (hp.mem_iff.mp hy)).elim (fun hy => h1.2.2 x hx y hy) (fun hy => a x hx y (List.mem_append_left _ hy))⟩, h2.2.1,
    fun x hx z hz => (List.mem_append.mp hx).elim (fun hx => a x hx z (List.mem_append_right _ hz)) (fun hx => (List.mem_append.mp (hp.mem_iff.mp hx)).elim (fun hx => b x hx z hz) (fun hx => h2.2.2 x hx z hz))⟩
theorem join_arr {xs ys : Array Keyed} {k n1 m : Nat} (hk : k ≤ n1) (hm : n1 + m ≤ xs.size) (s1 : Seg xs 0 n1) (s2 : Seg xs n1 xs.size) (hP : ∀ i, i < k → K xs i ≤ K xs n1) (hZ : ∀ j, n1 + m ≤ j → j < xs.size → K xs (n1 - 1) ≤ K xs j)
    {R : List Keyed} (hp : R.Perm ((xs.extract k n1).toList ++ (xs.extract n1 (n1 + m)).toList)) (hr : R.Pairwise le) (es : ys.toList = (xs.extract 0 k).toList ++ R ++ (xs.extract (n1 + m) xs.size).toList) : ys.Perm xs ∧ SortedTo ys ys.size := by
  have hn1 := Nat.le_trans (Nat.le_add_right n1 m) hm
  refine ⟨?_, sorted_of_pw ?_⟩
  · rw [Array.perm_iff_toList_perm, es]
    refine (List.Perm.append_right _ (List.Perm.append_left _ hp)).trans (List.Perm.of_eq ?_)
    rw [← List.append_assoc, ext_app xs (Nat.zero_le _) hk, ext_app xs (Nat.zero_le _) (Nat.le_add_right _ _), ext_app xs (Nat.zero_le _) hm, ext_all, List.drop_zero]
  · rw [es]
    refine join_pw (X := (xs.extract k n1).toList) (Y := (xs.extract n1 (n1 + m)).toList) ?_ ?_ hp hr (fun x hx y hy => ?_) (fun x hx z hz => ?_)
    · rw [ext_app xs (Nat.zero_le _) hk]; exact pw_ext s1 hn1
    · rw [ext_app xs (Nat.le_add_right _ _) hm]; exact pw_ext s2 (Nat.le_refl _)
    · rw [ext_app xs (Nat.le_add_right _ _) hm] at hy
      obtain ⟨i, _, i2, i3⟩ := mem_ext_K hx (Nat.le_trans hk hn1)
      obtain ⟨j, j1, j2, j3⟩ := mem_ext_K hy (Nat.le_refl _)
      show num x ≤ num y
      rw [← i3, ← j3]
      exact Int.le_trans (hP i i2) (s2 n1 j (Nat.le_refl _) j1 j2)
    · obtain ⟨i, _, i2, i3⟩ := mem_ext_K hx hn1
      obtain ⟨j, j1, j2, j3⟩ := mem_ext_K hz (Nat.le_refl _)
      show num x ≤ num z
      rw [← i3, ← j3]
      exact Int.le_trans (s1 i (n1 - 1) (Nat.zero_le _) (Nat.le_sub_one_of_lt i2) (Nat.sub_one_lt_of_lt i2)) (hZ j j1 j2)
section
variable {prog : Program} {w : World} {A : Around} {E : Value → Shared → Prop} {s : Shared} {st : SortSt} {a₀ : Array Keyed}
theorem wpS_set {st' : SortSt} {Q : PUnit → SortSt → Prop} (h : Q ⟨⟩ st') : wpS (model prog w) A E s (set st' : StateT SortSt Sem PUnit) Q st := by
  unfold wpS; rw [StateT.run_set]; exact wpAny_pure ⟨rfl, h⟩
structure JS (a₀ : Array Keyed) (st : SortSt) : Prop where
  p : (arrOf st).Perm a₀
  f : failedOf st = none
  n : (pendingOf st).size = 1
theorem wpS_jFin {k n1 m : Nat} {R : Array Keyed} {xs : Array Keyed} {st st' : SortSt} {Q : Bool → SortSt → Prop} (J : JS a₀ st) (ex : arrOf st = xs) (hk : k ≤ n1) (hm : n1 + m ≤ xs.size) (s1 : Seg xs 0 n1) (s2 : Seg xs n1 xs.size) (hP : ∀ i, i < k → K xs i ≤ K xs n1) (hZ : ∀ j, n1 + m ≤ j → j < xs.size → K xs (n1 - 1) ≤ K xs j)
    (hM : Merged (xs.extract k n1) (xs.extract n1 (n1 + m)) st R st') (h : ∀ st', JS a₀ st' → SortedTo (arrOf st') (arrOf st').size → Q true st') : wpS (model prog w) A E s (jFin k R) Q st' := by
  obtain ⟨⟨r1, r2, r3, r4⟩, hp, hs⟩ := hM
  unfold jFin
  refine wpS_bind (wpS_modify (wpS_bind (wpS_get ?_)))
  have hn1 := Nat.le_trans (Nat.le_add_right n1 m) hm
  have lR : k + R.toList.length = n1 + m := by
    have z := hp.length_eq
    rw [List.length_append, Array.length_toList, Array.length_toList, Array.length_toList, size_ext _ hn1, size_ext _ hm, Nat.add_sub_cancel_left] at z
    rw [Array.length_toList, z, ← Nat.add_assoc, Nat.add_sub_of_le hk]
  have ef := fold_set k R.toList 0 xs (by rw [Nat.add_zero, lR]; exact hm)
  rw [Nat.add_zero, lR, ← ext_all, ← ext_take] at ef
  show wpS _ _ _ _ (pure (failedOf st').isNone) Q _
  rw [show failedOf st' = none from r4.trans J.f, show arrOf st' = xs from r2.trans ex]
  generalize R.toList.zipIdx.foldl (fun a x => a.setIfInBounds (k + x.2) x.1) xs = ys at ef ⊢
  obtain ⟨q1, q2⟩ := join_arr hk hm s1 s2 hP hZ hp hs ef
  exact wpS_pure (h _ ⟨q1.trans (ex ▸ J.p), r4.trans J.f, (congrArg Array.size r3).trans J.n⟩ q2)
theorem wpS_jTwo {n1 n2 k : Nat} {xs : Array Keyed} {Q : Bool → SortSt → Prop} (hK : kindOf st = oneType') (J : JS a₀ st) (ex : arrOf st = xs) (kx : IntKeys xs) (hN : n1 + n2 = xs.size) (h1 : 1 ≤ n1) (h2 : 1 ≤ n2) (s1 : Seg xs 0 n1) (s2 : Seg xs n1 xs.size) (hk : k ≤ n1)
    (hP : ∀ i, i < k → K xs i ≤ K xs n1) (hX : ∀ i, k ≤ i → i < n1 → K xs n1 ≤ K xs i) (h : ∀ st', JS a₀ st' → SortedTo (arrOf st') (arrOf st').size → Q true st') :
    wpS (model prog w) A E s (jTwo xs n1 n2 k (n1 - k)) Q st := by
  unfold jTwo
  have hn1 : n1 ≤ xs.size := hN ▸ Nat.le_add_right _ _
  by_cases e1 : n1 - k = 0
  · rw [if_pos (beq_iff_eq.mpr e1)]
    exact wpS_pure (h _ J (by rw [ex]; exact seg_glue s1 s2 (hP _ (Nat.lt_of_lt_of_le (Nat.sub_one_lt_of_lt h1) (Nat.le_of_sub_eq_zero e1)))))
  have hkn := Nat.sub_ne_zero_iff_lt.mp e1
  rw [if_neg (fun e => e1 (beq_iff_eq.mp e)), Nat.add_sub_of_le hk]
  have hl1 : n1 - 1 < n1 := Nat.sub_one_lt_of_lt h1
  obtain ⟨ta, qa, ea⟩ := key_at kx (Nat.lt_of_lt_of_le hl1 hn1)
  refine wpS_bind (wpS_elem ea (wpS_bind (wpS_gallop hK kx (Nat.le_of_eq hN) (Nat.sub_one_lt_of_lt h2) (hN.symm ▸ s2) fun m hm1 hm2 hm3 => ?_)))
  dsimp only
  by_cases e2 : m = 0
  · rw [if_pos (beq_iff_eq.mpr e2)]
    exact wpS_pure (h _ J (by rw [ex]; exact seg_glue s1 s2 (kb_f (hm3 0 (Nat.le_of_eq e2) h2))))
  rw [if_neg (fun e => e2 (beq_iff_eq.mp e))]
  have hm : n1 + m ≤ xs.size := hN ▸ Nat.add_le_add_left hm1 n1
  have hZ : ∀ j, n1 + m ≤ j → j < xs.size → K xs (n1 - 1) ≤ K xs j := fun j j1 j2 => by
    obtain ⟨i, rfl⟩ := Nat.exists_eq_add_of_le (Nat.le_trans (Nat.le_add_right n1 m) j1)
    exact kb_f (hm3 i (Nat.le_of_add_le_add_left j1) (Nat.lt_of_add_lt_add_left (hN ▸ j2)))
  have fin : ∀ R st2, Merged (xs.extract k n1) (xs.extract n1 (n1 + m)) st R st2 → wpS (model prog w) A E s (jFin k R) Q st2 := fun R st2 hM => wpS_jFin J ex hk hm s1 s2 hP hZ hM h
  have zx : 1 ≤ (xs.extract k n1).size := size_ext xs hn1 ▸ Nat.sub_pos_of_lt hkn
  have zy : 1 ≤ (xs.extract n1 (n1 + m)).size := by rw [size_ext xs hm, Nat.add_sub_cancel_left]; exact Nat.pos_of_ne_zero e2
  have sx : Seg xs k n1 := fun i j _ p2 p3 => s1 i j (Nat.zero_le _) p2 p3
  have sy : Seg xs n1 (n1 + m) := fun i j p1 p2 p3 => s2 i j p1 p2 (Nat.lt_of_lt_of_le p3 hm)
  have hF : ∀ y ∈ (xs.extract n1 (n1 + m)).toList.take 1, ∀ x ∈ (xs.extract k n1).toList, le y x := fun y hy x hx => by
    have j2 := take1_K hy
    obtain ⟨i, i1, i2, i3⟩ := mem_ext_K hx hn1
    rw [K_ext _ (size_ext xs hm ▸ zy) hm] at j2
    show num y ≤ num x
    rw [← j2, ← i3]
    exact hX i i1 i2
  have hL : ∀ y ∈ (xs.extract n1 (n1 + m)).toList, ∀ x ∈ (xs.extract k n1).toList.drop ((xs.extract k n1).size - 1), le y x := fun y hy x hx => by
    have j3 := last_K zx hx
    obtain ⟨i, i1, i2, i3⟩ := mem_ext_K hy hm
    rw [size_ext xs hn1, K_ext _ (Nat.sub_one_lt_of_lt (Nat.sub_pos_of_lt hkn)) hn1, ← Nat.add_sub_assoc (Nat.sub_pos_of_lt hkn), Nat.add_sub_of_le hk] at j3
    show num y ≤ num x
    rw [← i3, ← j3]
    obtain ⟨i, rfl⟩ := Nat.exists_eq_add_of_le i1
    exact Int.le_of_lt (kb_t (hm2 i (Nat.lt_of_add_lt_add_left i2)))
  by_cases e3 : n1 - k ≤ m
  · rw [if_pos e3]
    exact wpS_bind (wpS_mergeLo hK (keys_ext kx _ _) (keys_ext kx _ _) zx zy (pw_ext sx hn1) (pw_ext sy hm) (seg_ext sx hn1) (seg_ext sy hm) hF hL fin)
  · rw [if_neg e3]
    exact wpS_bind (wpS_mergeHi hK (keys_ext kx _ _) (keys_ext kx _ _) zx zy (pw_ext sx hn1) (pw_ext sy hm) (seg_ext sx hn1) (seg_ext sy hm) hF hL fin)
theorem wpS_join {n1 n2 pw p2 : Nat} {Q : Bool → SortSt → Prop} (h0 : IntKeys a₀) (hB : SB a₀ #[(0, n1, pw), (n1, n2, p2)] st) (hn : n1 + n2 = a₀.size) (h1 : 1 ≤ n1) (h2 : 1 ≤ n2) (s1 : Seg (arrOf st) 0 n1) (s2 : Seg (arrOf st) n1 (n1 + n2))
    (h : ∀ st', JS a₀ st' → SortedTo (arrOf st') (arrOf st').size → Q true st') : wpS (model prog w) A E s (mergeAt' 0) Q st := by
  rw [mergeAt_is]
  refine wpS_bind (wpS_get ?_)
  have hsz := hn.trans hB.size.symm
  have kx := keys_of_perm h0 hB.perm
  rw [hB.pend]
  rw [show (#[(0, n1, pw), (n1, n2, p2)] : Array (Nat × Nat × Nat))[0]? = some (0, n1, pw) from rfl, show (#[(0, n1, pw), (n1, n2, p2)] : Array (Nat × Nat × Nat))[0 + 1]? = some (n1, n2, p2) from rfl]
  dsimp only
  obtain ⟨tb, qb, eb⟩ := key_at kx (hsz ▸ Nat.lt_add_of_pos_right h2)
  refine wpS_bind (wpS_set (wpS_bind (wpS_elem eb (wpS_bind (wpS_gallop hB.kind kx (Nat.le_trans (Nat.le_of_eq (Nat.zero_add n1)) (hsz ▸ Nat.le_add_right _ _)) h1 ((Nat.zero_add n1).symm ▸ s1) fun k hk1 hk2 hk3 => ?_)))))
  dsimp only
  rw [Nat.zero_add]
  exact wpS_jTwo hB.kind ⟨hB.perm, hB.failed, by kernel_rfl⟩ rfl kx hsz h1 h2 s1 (hsz ▸ s2) hk1 (fun i hi => Nat.zero_add i ▸ kb_ft (hk2 i hi)) (fun i hi hi' => Nat.zero_add i ▸ Int.le_of_lt (kb_ff (hk3 i hi hi'))) h
end
end Mine
end
section
open PySem PyProof.Rows
namespace Mine
noncomputable abbrev RS := Option PUnit × Nat
noncomputable abbrev RU := Option PUnit × PUnit
noncomputable def sCol (pw : Nat) : StateT SortSt Sem (ForInStep RU) := do
  let s ← get
  let some (_, _, older) := (if (pendingOf s).size > 1 then (pendingOf s)[(pendingOf s).size - 2]? else none) | pure (.done (none, ⟨⟩))
  if older ≤ pw then pure (.done (none, ⟨⟩)) else do
    let b ← mergeAt' ((pendingOf s).size - 2)
    if !b then pure (.done (some ⟨⟩, ⟨⟩)) else pure (.yield (none, ⟨⟩))
noncomputable def sPush (size lo n : Nat) : StateT SortSt Sem (ForInStep RS) := do
  let s ← get
  if let some (s1, n1, _) := (pendingOf s).back? then
    let c ← forIn [0:size] ((none, ⟨⟩) : RU) fun _ _ => sCol (power' size (2 * s1 + n1) (2 * s1 + n1 + n1 + n) size)
    match c.1 with
    | some r => pure (.done (some r, lo))
    | none => do
      modify fun s => setPending s ((pendingOf s).modify ((pendingOf s).size - 1) fun (st, len, _) => (st, len, power' size (2 * s1 + n1) (2 * s1 + n1 + n1 + n) size))
      modify fun s => setPending s ((pendingOf s).push (lo, n, 0))
      pure (.yield (none, lo + n))
  else do
    modify fun s => setPending s ((pendingOf s).push (lo, n, 0))
    pure (.yield (none, lo + n))
noncomputable def sTurn (size minrun lo : Nat) : StateT SortSt Sem (ForInStep RS) :=
  if lo ≥ size then pure (.done (none, lo)) else do
    let some found ← countRun' lo (size - lo) | pure (.done (some ⟨⟩, lo))
    if found < minrun then do
      rule "list.sort.binary-insertion"
      let b ← binarySort' lo (min (size - lo) minrun) found
      if !b then pure (.done (some ⟨⟩, lo)) else sPush size lo (min (size - lo) minrun)
    else sPush size lo found
noncomputable def sIx (p : Array (Nat × Nat × Nat)) : Nat :=
  if (if p.size - 2 > 0 then p[p.size - 2 - 1]?.map (·.2.1) else none).any (· < (p[p.size - 2 + 1]?.elim 0 (·.2.1))) then p.size - 2 - 1 else p.size - 2
noncomputable def sEnd : StateT SortSt Sem (ForInStep RU) := do
  let s ← get
  if (pendingOf s).size ≤ 1 then pure (.done (none, ⟨⟩)) else do
    let b ← mergeAt' (sIx (pendingOf s))
    if !b then pure (.done (some ⟨⟩, ⟨⟩)) else pure (.yield (none, ⟨⟩))
theorem sortRuns_is : sortRuns' = (do
  let s ← get
  let c ← forIn [0:(arrOf s).size] ((none, 0) : RS) fun _ c => sTurn (arrOf s).size (minRun' (arrOf s).size (arrOf s).size 0) c.2
  match c.1 with
  | some r => pure r
  | none => do
    let c ← forIn [0:(arrOf s).size] ((none, ⟨⟩) : RU) fun _ _ => sEnd
    match c.1 with
    | some r => pure r
    | none => pure ⟨⟩) := by kernel_rfl
section
variable {prog : Program} {w : World} {A : Around} {E : Value → Shared → Prop} {s : Shared} {st : SortSt} {a₀ : Array Keyed}
theorem loop_len {β : Type} {f : β → StateT SortSt Sem (ForInStep β)} : ∀ (l l' : List Nat) (c : β), l.length = l'.length → forIn l c (fun _ c => f c) = forIn l' c (fun _ c => f c)
  | [], [], c, _ => rfl
  | _ :: l, _ :: l', c, h => by
    rw [List.forIn_cons, List.forIn_cons]
    refine bind_congr fun r => ?_
    cases r with
    | done b => rfl
    | yield b => exact loop_len l l' b (Nat.succ.inj h)
theorem wpS_loop1 {β : Type} {n : Nat} {f : β → StateT SortSt Sem (ForInStep β)} {Q : β → SortSt → Prop} {c : β}
    (h : wpS (model prog w) A E s (f c) (fun r st' => match r with | .done c' => Q c' st' | .yield c' => wpS (model prog w) A E s (forIn [0:n] c' fun _ c => f c) Q st') st) : wpS (model prog w) A E s (forIn [0:n + 1] c fun _ c => f c) Q st := by
  rw [Std.Legacy.Range.forIn_eq_forIn_range', loop_len _ (0 :: List.range' 0 n) c (by simp [Std.Legacy.Range.size]), List.forIn_cons]
  refine wpS_bind (wpS_mono h fun r st' h' => ?_)
  cases r with
  | done c' => exact wpS_pure h'
  | yield c' =>
    dsimp only at h' ⊢
    rw [Std.Legacy.Range.forIn_eq_forIn_range', loop_len _ (List.range' 0 n) c' (by simp [Std.Legacy.Range.size])] at h'
    exact h'
theorem wpS_sPush0 {size n : Nat} {Q : ForInStep RS → SortSt → Prop} (hB : SB a₀ #[] st) (h : ∀ st', SB a₀ #[(0, n, 0)] st' → arrOf st' = arrOf st → Q (.yield (none, n)) st') : wpS (model prog w) A E s (sPush size 0 n) Q st := by
  unfold sPush
  refine wpS_bind (wpS_get ?_)
  rw [hB.pend, show (#[] : Array (Nat × Nat × Nat)).back? = none from rfl]
  refine wpS_bind (wpS_modify (wpS_pure ?_))
  rw [Nat.zero_add]
  exact h _ ⟨hB.perm, hB.kind, hB.failed, congrArg (fun q => q.push (0, n, 0)) hB.pend⟩ rfl
theorem wpS_sPush1 {n n1 : Nat} {Q : ForInStep RS → SortSt → Prop} (hB : SB a₀ #[(0, n1, 0)] st) (h : ∀ pw st', SB a₀ #[(0, n1, pw), (n1, n, 0)] st' → arrOf st' = arrOf st → Q (.yield (none, n1 + n)) st') : wpS (model prog w) A E s (sPush 81 n1 n) Q st := by
  unfold sPush
  refine wpS_bind (wpS_get ?_)
  rw [hB.pend, show (#[(0, n1, 0)] : Array (Nat × Nat × Nat)).back? = some (0, n1, 0) from rfl]
  dsimp only
  generalize power' 81 (2 * 0 + n1) (2 * 0 + n1 + n1 + n) 81 = pw
  refine wpS_bind (wpS_loop1 (n := 80) ?_)
  unfold sCol
  refine wpS_bind (wpS_get ?_)
  rw [hB.pend, if_neg (show ¬ (#[(0, n1, 0)] : Array (Nat × Nat × Nat)).size > 1 from Nat.lt_irrefl 1)]
  refine wpS_pure (wpS_bind (wpS_modify (wpS_bind (wpS_modify (wpS_pure (h pw _ ⟨hB.perm, hB.kind, hB.failed, ?_⟩ rfl))))))
  exact (congrArg (fun q : Array (Nat × Nat × Nat) => (q.modify (q.size - 1) fun (st, len, _) => (st, len, pw)).push (n1, n, 0)) hB.pend).trans (by kernel_rfl)
theorem wpS_sTurn {lo : Nat} {p : Array (Nat × Nat × Nat)} {Q : ForInStep RS → SortSt → Prop} (h0 : IntKeys a₀) (hB : SB a₀ p st) (hlo : lo < 81) (h81 : a₀.size = 81)
    (k : ∀ m st', SB a₀ p st' → Pre lo (arrOf st) (arrOf st') → Seg (arrOf st') lo (lo + m) → 1 ≤ m → lo + m ≤ 81 → min (81 - lo) 41 ≤ m → wpS (model prog w) A E s (sPush 81 lo m) Q st') : wpS (model prog w) A E s (sTurn 81 41 lo) Q st := by
  unfold sTurn
  rw [if_neg (Nat.not_le.mpr hlo)]
  have hle := Nat.le_of_lt hlo
  refine wpS_bind (wpS_runL h0 (h81.symm ▸ Nat.le_of_eq (Nat.add_sub_of_le hle)) (Nat.sub_pos_of_lt hlo) hB fun m st2 hB2 hP2 hm1 hm2 hs2 => ?_)
  dsimp only
  by_cases hlt : m < 41
  · rw [if_pos hlt]
    have hmin := Nat.add_le_of_le_sub' hle (Nat.min_le_left (81 - lo) 41)
    have hone : 1 ≤ min (81 - lo) 41 := Nat.le_min.mpr ⟨Nat.sub_pos_of_lt hlo, by decide⟩
    refine wpS_bind (wpS_lift (wpAny_rule ⟨rfl, wpS_bind (wpS_insL h0 (h81.symm ▸ hmin) (Nat.le_min.mpr ⟨hm2, Nat.le_of_lt hlt⟩) hone hB2 hs2 fun st3 hB3 hP3 hs3 => ?_)⟩))
    exact k _ st3 hB3 (hP2.trans hP3) hs3 hone hmin (Nat.le_refl _)
  · rw [if_neg hlt]
    exact k m st2 hB2 hP2 hs2 hm1 (Nat.add_le_of_le_sub' hle hm2) (Nat.le_trans (Nat.min_le_right _ _) (Nat.not_lt.mp hlt))
theorem wpS_sOver {Q : ForInStep RS → SortSt → Prop} (h : Q (.done (none, 81)) st) : wpS (model prog w) A E s (sTurn 81 41 81) Q st := by
  unfold sTurn
  rw [if_pos (Nat.le_refl 81)]
  exact wpS_pure h
theorem wpS_sEnd1 {Q : ForInStep RU → SortSt → Prop} (e : (pendingOf st).size = 1) (h : Q (.done (none, ⟨⟩)) st) : wpS (model prog w) A E s sEnd Q st := by
  unfold sEnd
  refine wpS_bind (wpS_get ?_)
  rw [if_pos (Nat.le_of_eq e)]
  exact wpS_pure h
theorem wpS_sEnd2 {n1 n2 pw : Nat} {Q : ForInStep RU → SortSt → Prop} (h0 : IntKeys a₀) (hB : SB a₀ #[(0, n1, pw), (n1, n2, 0)] st) (hn : n1 + n2 = a₀.size) (h1 : 1 ≤ n1) (h2 : 1 ≤ n2) (s1 : Seg (arrOf st) 0 n1) (s2 : Seg (arrOf st) n1 (n1 + n2))
    (h : ∀ st', JS a₀ st' → SortedTo (arrOf st') (arrOf st').size → Q (.yield (none, ⟨⟩)) st') : wpS (model prog w) A E s sEnd Q st := by
  unfold sEnd
  refine wpS_bind (wpS_get ?_)
  rw [hB.pend, if_neg (show ¬ (#[(0, n1, pw), (n1, n2, 0)] : Array (Nat × Nat × Nat)).size ≤ 1 from Nat.not_succ_le_self 1), show sIx #[(0, n1, pw), (n1, n2, 0)] = 0 by kernel_rfl]
  exact wpS_bind (wpS_join h0 hB hn h1 h2 s1 s2 fun st' J hs => wpS_pure (h st' J hs))
theorem wpS_sFin {Q : PUnit → SortSt → Prop} {m : Nat} (J : JS a₀ st) (h : Q ⟨⟩ st) : wpS (model prog w) A E s (do
    let c ← forIn [0:m + 1] ((none, ⟨⟩) : RU) fun _ _ => sEnd
    match c.1 with
    | some r => pure r
    | none => pure ⟨⟩) Q st := wpS_bind (wpS_loop1 (wpS_sEnd1 J.n (wpS_pure h)))
theorem wpS_sort81 {Q : Unit → SortSt → Prop} (h0 : IntKeys a₀) (hB : SB a₀ #[] st) (h81 : a₀.size = 81)
    (h : ∀ st', (arrOf st').Perm a₀ → failedOf st' = none → SortedTo (arrOf st') (arrOf st').size → Q () st') : wpS (model prog w) A E s sortRuns' Q st := by
  rw [sortRuns_is]
  refine wpS_bind (wpS_get ?_)
  rw [show (arrOf st).size = 81 from hB.size.trans h81, show minRun' 81 81 0 = 41 from rfl]
  refine wpS_bind (wpS_loop1 (n := 80) (wpS_sTurn h0 hB (by decide) h81 fun n1 st1 B1 _ g1 _ g2 g3 => wpS_sPush0 B1 fun st2 B2 e2 => ?_))
  rw [Nat.zero_add] at g1 g2
  rw [← e2] at g1
  dsimp only
  rcases Nat.eq_or_lt_of_le g2 with e | hlt
  · subst e
    refine wpS_loop1 (n := 79) (wpS_sOver (wpS_sFin (m := 80) ⟨B2.perm, B2.failed, congrArg Array.size B2.pend⟩ (h _ B2.perm B2.failed ?_)))
    rw [B2.size, h81]
    exact fun i j p1 p2 => g1 i j (Nat.zero_le _) p1 p2
  · refine wpS_loop1 (n := 79) (wpS_sTurn h0 B2 hlt h81 fun n2 st3 B3 hP g4 g5 g6 g7 => wpS_sPush1 B3 fun pw st4 B4 e4 => ?_)
    have e : n1 + n2 = 81 := Nat.le_antisymm g6 (Nat.sub_le_iff_le_add'.mp (Nat.le_trans (Nat.le_min.mpr ⟨Nat.le_refl _, Nat.le_trans (Nat.sub_le_sub_left g3 81) (by decide)⟩) g7))
    rw [← e4] at g4 hP
    dsimp only
    rw [show (none, n1 + n2) = ((none, 81) : RS) from congrArg _ e]
    refine wpS_loop1 (n := 78) (wpS_sOver (wpS_bind (wpS_loop1 (n := 80) (wpS_sEnd2 h0 B4 (e.trans h81.symm) (Nat.le_trans (by decide) g3) g5 (fun i j p1 p2 p3 => ?_) g4 fun st5 J hs => wpS_loop1 (n := 79) (wpS_sEnd1 J.n (wpS_pure (h _ J.p J.f hs)))))))
    rw [hP i (Nat.lt_of_le_of_lt p2 p3), hP j p3]
    exact g1 i j p1 p2 p3
end
end Mine
end
section
open PySem PyProof.Rows PySem.Calls
namespace Mine
section
variable {prog : Program} {w : World} {A : Around} {E : Value → Shared → Prop} {s : Shared}
theorem sort81_tree {a : Addr} {vs : List Value} {ns : List Int} {n : Nat} {P : Fin → Shared → Prop} (ho : s.heap.get? a = some (seqObj "list" vs.toArray n)) (hI : IntsAre vs ns) (h81 : vs.length = 81)
    (h : ∀ (out : Array Value) (ns' : List Int), IntsAre out.toList ns' → ns'.Perm ns → ns'.Pairwise (· ≤ ·) → P (.done (.ret .none)) { s with heap := sortedHeap s.heap a vs out }) :
    wpAny (model prog w) A (Builtin.«list.sort» ⟨[.ref a], []⟩) P E s := by
  rw [list_sort_plain]
  have ha : a < s.heap.objs.size := Heap.lt_size ho
  have hsz : vs.toArray.size = 81 := by simpa using h81
  refine wpAny_bind (listItems_at ho rfl (wpAny_bind (listUpdate_at ho rfl ?_)))
  obtain ⟨e1, ho1⟩ : ∃ e1, (s.heap.update a (Obj.mapSeq fun _ => #[])).get? a = some (seqObj "list" #[] e1) := ⟨_, get?_update_seq ho (fun _ => #[])⟩
  refine wpAny_bind (seqEpoch_at ho1 rfl (wpAny_bind (wpAny_newTuple (wpAny_bind (wpAny_newList (wpAny_holding ?_))))))
  have ho6 : (((s.heap.update a (Obj.mapSeq fun _ => #[])).push (seqObj "tuple" vs.toArray 0)).push (seqObj "list" #[] 0)).get? a = some (seqObj "list" #[] e1) := by
    rw [Heap.get?_push_ne _ _ _ (by rw [size_push', Heap.size_update]; exact Nat.ne_of_lt (Nat.lt_succ_of_lt ha)), Heap.get?_push_ne _ _ _ (by rw [Heap.size_update]; exact Nat.ne_of_lt ha)]
    exact ho1
  show wpAny (model prog w) A _ P E { s with heap := ((s.heap.update a (Obj.mapSeq fun _ => #[])).push (seqObj "tuple" vs.toArray 0)).push (seqObj "list" #[] 0) }
  dsimp only
  rw [if_neg (by omega), if_neg (by omega)]
  obtain ⟨v₁, v₂, rest, rfl⟩ : ∃ v₁ v₂ rest, vs = v₁ :: v₂ :: rest := by
    match vs, h81 with
    | v₁ :: v₂ :: rest, _ => exact ⟨v₁, v₂, rest, rfl⟩
  rw [keyKind_ints hI]
  refine wpAny_bind (wpAny_pure ?_)
  refine wpAny_bind (wpAny_mono (wpS_sort81 (a₀ := pairsOf (v₁ :: v₂ :: rest)) (st := SortSt.mk' oneType' ((v₁ :: v₂ :: rest).toArray.zip (v₁ :: v₂ :: rest).toArray) #[] 7 none)
    (Q := fun _ st' => (arrOf st').Perm (pairsOf (v₁ :: v₂ :: rest)) ∧ failedOf st' = none ∧ SortedTo (arrOf st') (pairsOf (v₁ :: v₂ :: rest)).size)
    hI.intKeys ⟨Array.Perm.refl _, rfl, rfl, rfl⟩ (by rw [pairsOf_size]; exact h81) fun st' a1 a2 a3 => ⟨a1, a2, a1.size_eq ▸ a3⟩) ?_ fun _ _ e => e)
  rintro ⟨⟨⟩, st'⟩ s' ⟨rfl, hp, hf, hs⟩
  dsimp only
  refine wpAny_bind (seqEpoch_at ho6 rfl (wpAny_bind (listUpdate_at ho6 rfl ?_ (hsz2 := by refine Nat.le_trans (Nat.le_of_eq ((Array.size_map ..).trans (hp.size_eq.trans (pairsOf_size _)))) ?_; rw [sizeLine_eq]; omega))))
  rw [hf]
  simp only [bne_self_eq_false, Bool.false_eq_true, if_false]
  obtain ⟨ns', h1, h2, h3⟩ := sorted_out hI hp hs
  exact wpAny_pure (h _ ns' h1 h2 h3)
theorem sorted81 {h₀ : Heap} {L : Addr} {m : Str → Option Value} {news : List (Addr × Obj)} {l : Addr} {vs : List Value} {ns : List Int} {Q : Value → Shared → Prop}
    (F : Fr h₀ L s.heap m) (N : News h₀ L s.heap news) (hl : s.heap.IsList l vs.toArray) (hI : IntsAre vs ns) (h81 : vs.length = 81)
    (h : ∀ D vs' ns' c h', Fr h₀ L h' m → News h₀ L h' ((D, PySem.W.listOf vs'.toArray c) :: news) → (∀ q ∈ news, q.1 < D) → IntsAre vs' ns' → ns'.Perm ns → ns'.Pairwise (· ≤ ·) → Q (.ref D) { s with heap := h' }) :
    wpAny (model prog w) A (call (.builtin "sorted") [.ref l]) Q E s := by
  refine Calls.call_function_entry kind_sorted plain_sorted entry_sorted (args_sorted1 _) ?_
  unfold Builtin.«sorted»
  have hline : vs.length ≤ sizeLine := by rw [sizeLine_eq]; omega
  refine wpAny_bind (m := checkCount "sorted" 1 1 _) (wpAny_pure (wpAny_bind (collect_list hl (wpAny_bind (wpAny_newList ?_ (hsz := hline))) hline)))
  have hsz : ((s.heap.push (seqObj "list" #[] 0)).update s.heap.objs.size (Obj.mapSeq (· ++ vs.toArray))).objs.size = s.heap.objs.size + 1 := by
    rw [Heap.size_update, size_push']
  have hoL : (((s.heap.push (seqObj "list" #[] 0)).update s.heap.objs.size (Obj.mapSeq (· ++ vs.toArray))).push (seqObj "list" vs.toArray 0)).get? (s.heap.objs.size + 1) = some (seqObj "list" vs.toArray 0) := by
    rw [← hsz]; exact Heap.get?_push_size _ rfl
  show wpAny _ _ _ _ _ { s with heap := ((s.heap.push (seqObj "list" #[] 0)).update s.heap.objs.size (Obj.mapSeq (· ++ vs.toArray))).push (seqObj "list" vs.toArray 0) }
  rw [hsz]
  refine wpAny_bind (wpAny_holding (wpAny_call_entry PyProof.Rows.slot_list_sort ⟨_, hoL, rfl⟩ PyProof.Rows.entry_list_sort (sort81_tree hoL hI h81 fun out ns' a1 a2 a3 => ⟨_, rfl, ?_⟩) (PyProof.Rows.args_list_sort _)))
  obtain ⟨e, he⟩ := sortedAll_at s.heap vs out
  exact wpAny_pure ⟨_, rfl, h _ out.toList ns' e _ (F.kept fun _ _ => sortedAll_old) (by rw [Array.toArray_toList]; exact N.kept_cons F (fun _ _ => sortedAll_old) (Nat.le_succ _) he) (fun p hp => Nat.lt_succ_of_lt (Heap.lt_size (N p hp).1)) a1 a2 a3⟩
end
end Mine
end
section
open PySem PySem.W PyProof.Rows PySem.Spec PySem.Calls PyProof.V
namespace Mine
theorem ints_of_mem {vs : List Value} {ns : List Int} (h : IntsAre vs ns) : ∀ v ∈ vs, ∃ n t, v = .int n t := by
  induction h with
  | nil => intro v hv; nomatch hv
  | cons n t _ ih =>
    intro v hv
    rcases List.mem_cons.mp hv with e | hv
    · exact ⟨_, _, e⟩
    · exact ih v hv
theorem ints_from : ∀ {vs : List Value}, (∀ v ∈ vs, ∃ n t, v = .int n t) → ∃ ns, IntsAre vs ns
  | [], _ => ⟨[], .nil⟩
  | v :: r, h => by
    obtain ⟨n, t, e⟩ := h v (.head _)
    obtain ⟨ns, hn⟩ := ints_from (vs := r) fun x hx => h x (.tail _ hx)
    subst e
    exact ⟨n :: ns, .cons _ _ hn⟩
theorem pick_ints {vs : List Value} {ns : List Int} (h : IntsAre vs ns) (lo hi st : Option Int) : ∃ ms, IntsAre (slicePick vs.toArray lo hi st).toList ms := by
  refine ints_from fun v hv => ints_of_mem h v ?_
  unfold slicePick at hv
  rw [List.toList_toArray] at hv
  obtain ⟨i, _, hi⟩ := List.mem_filterMap.mp hv
  rw [List.getElem?_toArray] at hi
  exact List.mem_of_getElem? hi
section
variable {prog : Program} {w : World} {A : Around} {E : Value → Shared → Prop} {s : Shared} {h₀ : Heap} {L l : Addr} {m : Str → Option Value} {news : List (Addr × Obj)} {value slice : PySem.Expr} {its : Array Value} {vs zs : List Value} {ns : List Int} {vl vu : Value} {lo hi : Option Int} {x y : Int} {Q : Value → Shared → Prop}
theorem slice3_any {vk : Value} {st : Option Int} {ops : List Value} (F : Fr h₀ L s.heap m) (N : News h₀ L s.heap news) (hl : s.heap.IsList l vs.toArray) (hi' : IntsAre vs ns) (pl : IsPart vl lo) (pu : IsPart vu hi) (pk : IsPart vk st) (h0 : st ≠ some 0)
    (h : ∀ D ws ms h', Fr h₀ L h' m → News h₀ L h' ((D, listOf (List.toArray ws) 0) :: news) → (∀ p ∈ news, p.1 < D) → IntsAre ws ms → Q (.ref D) { s with heap := h' })
    (hs : subscripted slice false (.ref l) (.ref s.heap.objs.size) = operate ops (getItem (.ref l) (.ref s.heap.objs.size))) (ht : ∀ r, letTemporaryGo value (.ref l) r = pure ()) (hz : ns.length ≤ 63) :
    wpAny (model prog w) A (subscriptTail value slice (.ref l) (.ref s.heap.objs.size)) Q E { s with heap := s.heap.push { cls := .type "slice", data := .fields #[vl, vu, vk] } } := by
  obtain ⟨ms, hm⟩ := pick_ints hi' lo hi st
  exact kmk_slice3_lit F N hl pl pu pk h0 rfl (fun D h' F' N' l1 => h D _ ms h' F' N' l1 hm) hs ht (by rw [sizeLine_eq, List.size_toArray, hi'.length]; omega)
end
noncomputable def LawIs (w : World) (nm : Str) (body : List Stmt) (scope : Scope) : Prop :=
  ∃ oc od osl name params dV kV doc pm an cdv ct, (hd.heap_1 w.params).lookup 224 = some ⟨oc, od, .func (fnOf name nm params body scope dV kV doc pm an cdv ct), osl⟩
theorem LawIs.intro {w : World} {nm : Str} {body : List Stmt} {scope : Scope} {oc od osl name params dV kV doc pm an cdv ct} (h : (hd.heap_1 w.params).lookup 224 = some ⟨oc, od, .func (fnOf name nm params body scope dV kV doc pm an cdv ct), osl⟩) : LawIs w nm body scope := ⟨_, _, _, _, _, _, _, _, _, _, _, _, h⟩
theorem LawIs.ofIn {w : World} {h : Heap} {nm : Str} {body : List Stmt} {scope : Scope} {oc od osl name params dV kV doc pm an cdv ct} (_X : (hd.heap_1 w.params).In h) (e : (hd.heap_1 w.params).lookup 224 = some ⟨oc, od, .func (fnOf name nm params body scope dV kV doc pm an cdv ct), osl⟩) : LawIs w nm body scope := ⟨_, _, _, _, _, _, _, _, _, _, _, _, e⟩
theorem LawIs.same {w : World} {nm nm' : Str} {b b' : List Stmt} {s s' : Scope} (h : LawIs w nm b s) (h' : LawIs w nm' b' s') : nm = nm' ∧ b = b' ∧ s = s' := by
  refine byG (fun P9 hP9 => ?_)
  obtain ⟨_, _, _, _, _, _, _, _, _, _, _, _, e⟩ := h
  obtain ⟨_, _, _, _, _, _, _, _, _, _, _, _, e'⟩ := h'
  refine hP9 ?_
  clear hP9 P9
  rw [e] at e'
  have := congrArg Obj.data (Option.some.inj e')
  simp only [Data.func.injEq, FuncData.mk.injEq, FuncBody.stmts.injEq] at this
  refine ⟨?_, ?_, ?_⟩ <;> simp_all
end Mine
end
section
open PySem PySem.W PyProof.Rows PySem.Spec PySem.Calls PyProof.V
namespace Mine
noncomputable abbrev LawWp (w : World) (nm : Str) (sc : Scope) (L f : Addr) (cd : Value) (b : List Stmt) (Q : Flow → Shared → Prop) (E : Value → Shared → Prop) (s : Shared) : Prop :=
  wpAny (model PySem.Challenge.pw_xg0033_01 w) (callerA.deeper (envOfC nm sc L f cd)) (execs b (envOfC nm sc L f cd)) Q E s
noncomputable def LawEnd (h₀ : Heap) (L : Addr) (s : Shared) (Q : Flow → Shared → Prop) : Prop :=
  ∀ h' tk' m' news', Fr h₀ L h' m' → News h₀ L h' news' → Q (.ret (.bool true)) { s with heap := h', toks := tk' }
noncomputable abbrev cel (L : Addr) (c1 c2 c3 c4 c5 c6 : Obj) : List (Addr × Obj) := [(L + 1 + 1 + 1 + 1 + 1 + 1, c6), (L + 1 + 1 + 1 + 1 + 1, c5), (L + 1 + 1 + 1 + 1, c4), (L + 1 + 1 + 1, c3), (L + 1 + 1, c2), (L + 1, c1)]
noncomputable abbrev celA (L : Addr) : List Addr := [L + 1 + 1 + 1 + 1 + 1 + 1, L + 1 + 1 + 1 + 1 + 1, L + 1 + 1 + 1 + 1, L + 1 + 1 + 1, L + 1 + 1, L + 1]
structure CelIs (c1 c2 c3 c4 c5 c6 : Obj) (v1 v2 v3 v4 v5 v6 : Option Value) : Prop where
  h1 : c1.data = .cell v1
  h2 : c2.data = .cell v2
  h3 : c3.data = .cell v3
  h4 : c4.data = .cell v4
  h5 : c5.data = .cell v5
  h6 : c6.data = .cell v6
noncomputable def Seg0 (w : World) : Prop :=
  ∀ nm body sc loose mean mg mb (h₀ : Heap) (L f : Addr) cd (m0 : Str → Option Value) (s : Shared) Q E, LawIs w nm body sc → (hd.heap_1 w.params).In h₀ → Top vw loose mean mg mb h₀ → LawEnd h₀ L s Q →
  ∀ (l : Addr) (vs : List Value) (ns : List Int) (c1 c2 c3 c4 c5 c6 : Obj) (v2 v3 v4 v5 v6 : Option Value), h₀.IsList l vs.toArray → IntsAre vs ns → ns.length ≤ 63 → CelIs c1 c2 c3 c4 c5 c6 (some (.ref l)) v2 v3 v4 v5 v6 →
  Fr h₀ L s.heap m0 → News h₀ L s.heap (cel L c1 c2 c3 c4 c5 c6) → LawWp w nm sc L f cd body Q E s
theorem Seg0.go {w : World} (S : Seg0 w) (prog : Program) (nm : Str) (body : List Stmt) (sc : Scope) {loose mean mg mb} {h₀ : Heap} {L f : Addr} {cd} {m0 : Str → Option Value} {s : Shared} {Q E} (hB : LawIs w nm body sc) (e : prog = PySem.Challenge.pw_xg0033_01) (X : (hd.heap_1 w.params).In h₀) (T : Top vw loose mean mg mb h₀) (hQ : LawEnd h₀ L s Q)
  {l : Addr} {vs : List Value} {ns : List Int} {c1 c2 c3 c4 c5 c6 : Obj} {v2 v3 v4 v5 v6 : Option Value} (F : Fr h₀ L s.heap m0) (N : News h₀ L s.heap (cel L c1 c2 c3 c4 c5 c6)) (hl : h₀.IsList l vs.toArray) (hI : IntsAre vs ns) (hn : ns.length ≤ 63) (hC : CelIs c1 c2 c3 c4 c5 c6 (some (.ref l)) v2 v3 v4 v5 v6) :
  wpAny (model prog w) (callerA.deeper (envOfC nm sc L f cd)) (execs body (envOfC nm sc L f cd)) Q E s := by
  subst e
  exact S nm body sc loose mean mg mb h₀ L f cd m0 s Q E hB X T hQ l vs ns c1 c2 c3 c4 c5 c6 v2 v3 v4 v5 v6 hl hI hn hC F N
end Mine
end
section
open PySem PySem.W PyProof.Rows PySem.Spec PySem.Calls PyProof.V
namespace Mine
theorem progE : PySem.Challenge.rw_xg0033_01.row.prog = PySem.Challenge.pw_xg0033_01 := by
  delta PySem.Challenge.rw_xg0033_01; rfl
theorem endFirst {M : Model} {A : Around} {t : Sem Flow} {Q : Flow → Shared → Prop} {E : Value → Shared → Prop} {s : Shared} {h₀ h : Heap} {L : Addr} {m : Str → Option Value} (_F : Fr h₀ L h m) (a : LawEnd h₀ L s Q) (k : LawEnd h₀ L s Q → wpAny M A t Q E s) : wpAny M A t Q E s := k a
theorem iteF {P R : Prop} (h : R) : if false = true then P else R := by simpa using h
theorem iteT {P R : Prop} (h : P) : if true = true then P else R := by simpa using h
section
variable {prog : Program} {w : World} {A : Around} {E : Value → Shared → Prop} {s : Shared} {Q : Value → Shared → Prop}
end
theorem fr_two {h₀ h : Heap} {L : Addr} {m : Str → Option Value} {x y : Str} {v u : Option Value} (F : Fr h₀ L h m) (hy : m y = u) (hx : m x = v) : Fr h₀ L h (fun z => if z = y then u else if z = x then v else m z) := by
  have e : (fun z => if z = y then u else if z = x then v else m z) = m := by
    funext z
    by_cases h1 : z = y
    · subst h1; simp [hy]
    · by_cases h2 : z = x
      · subst h2; simp [h1, hx]
      · simp [h1, h2]
  rw [e]; exact F
theorem fr_three {h₀ h : Heap} {L : Addr} {m : Str → Option Value} {x y z' : Str} {v u r : Option Value} (F : Fr h₀ L h m) (hz : m z' = r) (hy : m y = u) (hx : m x = v) : Fr h₀ L h (fun z => if z = z' then r else if z = y then u else if z = x then v else m z) := by
  have e : (fun z => if z = z' then r else if z = y then u else if z = x then v else m z) = m := by
    funext z
    by_cases h0 : z = z'
    · subst h0; simp [hz]
    · by_cases h1 : z = y
      · subst h1; simp [h0, hy]
      · by_cases h2 : z = x
        · subst h2; simp [h0, h1, hx]
        · simp [h0, h1, h2]
  rw [e]; exact F
theorem sg_bd (x : Int) (c : Nat) : 0 ≤ sg x c ∧ sg x c ≤ 5 := by
  unfold sg
  have a := fun y : Int => Int.fmod_nonneg_of_pos y (b := 6) (by decide)
  have b := fun y : Int => Int.fmod_lt_of_pos y (b := 6) (by decide)
  split
  · have := a (x.fdiv (6 ^ c)); have := b (x.fdiv (6 ^ c)); omega
  · have := a ((x - 256).fdiv (6 ^ (2 - c))); have := b ((x - 256).fdiv (6 ^ (2 - c))); omega
end Mine
end
section
open PySem PySem.W PyProof.Rows PySem.Spec PySem.Calls PyProof.V
namespace Mine
section
variable {prog : Program} {w : World} {A : Around} {E : Value → Shared → Prop} {s : Shared} {Q : Value → Shared → Prop} {h₀ : Heap} {L : Addr} {news : List (Addr × Obj)}
noncomputable def row3D (x y z : Int) : PyData := .list [.int x, .int y, .int z]
theorem reads_row {a : Addr} {x y z : Int} {t u v : Tok} {n : Nat} (N : News h₀ L s.heap news) (h : (a, listOf #[.int x t, .int y u, .int z v] n) ∈ news) : ∃ as, Reads s.heap (.ref a) (row3D x y z) as :=
  ⟨_, reads_list_at (N.get h) rfl rfl (.cons (.int _ _) (.cons (.int _ _) (.cons (.int _ _) .nil)))⟩
theorem reads_four {a a0 a1 a2 a3 : Addr} {n n0 n1 n2 n3 : Nat} {x0 y0 z0 x1 y1 z1 x2 y2 z2 x3 y3 z3 : Int} {t0 u0 v0 t1 u1 v1 t2 u2 v2 t3 u3 v3 : Tok} (N : News h₀ L s.heap news) (h : (a, listOf #[.ref a0, .ref a1, .ref a2, .ref a3] n) ∈ news)
    (h0 : (a0, listOf #[.int x0 t0, .int y0 u0, .int z0 v0] n0) ∈ news) (h1 : (a1, listOf #[.int x1 t1, .int y1 u1, .int z1 v1] n1) ∈ news) (h2 : (a2, listOf #[.int x2 t2, .int y2 u2, .int z2 v2] n2) ∈ news) (h3 : (a3, listOf #[.int x3 t3, .int y3 u3, .int z3 v3] n3) ∈ news) :
    ∃ as, Reads s.heap (.ref a) (.list [row3D x0 y0 z0, row3D x1 y1 z1, row3D x2 y2 z2, row3D x3 y3 z3]) as := by
  obtain ⟨_, r0⟩ := reads_row N h0
  obtain ⟨_, r1⟩ := reads_row N h1
  obtain ⟨_, r2⟩ := reads_row N h2
  obtain ⟨_, r3⟩ := reads_row N h3
  exact ⟨_, reads_list_at (N.get h) rfl rfl (.cons r0 (.cons r1 (.cons r2 (.cons r3 .nil))))⟩
theorem ne44 {a a0 a1 a2 a3 b b0 b1 b2 b3 : Addr} {n n0 n1 n2 n3 l l0 l1 l2 l3 : Nat} {x0 y0 z0 x1 y1 z1 x2 y2 z2 x3 y3 z3 x0' y0' z0' x1' y1' z1' x2' y2' z2' x3' y3' z3' : Int} {t0 u0 v0 t1 u1 v1 t2 u2 v2 t3 u3 v3 t0' u0' v0' t1' u1' v1' t2' u2' v2' t3' u3' v3' : Tok} (N : News h₀ L s.heap news) (h : (a, listOf #[.ref a0, .ref a1, .ref a2, .ref a3] n) ∈ news)
    (h0 : (a0, listOf #[.int x0 t0, .int y0 u0, .int z0 v0] n0) ∈ news) (h1 : (a1, listOf #[.int x1 t1, .int y1 u1, .int z1 v1] n1) ∈ news) (h2 : (a2, listOf #[.int x2 t2, .int y2 u2, .int z2 v2] n2) ∈ news) (h3 : (a3, listOf #[.int x3 t3, .int y3 u3, .int z3 v3] n3) ∈ news)
    (g : (b, listOf #[.ref b0, .ref b1, .ref b2, .ref b3] l) ∈ news)
    (g0 : (b0, listOf #[.int x0' t0', .int y0' u0', .int z0' v0'] l0) ∈ news) (g1 : (b1, listOf #[.int x1' t1', .int y1' u1', .int z1' v1'] l1) ∈ news) (g2 : (b2, listOf #[.int x2' t2', .int y2' u2', .int z2' v2'] l2) ∈ news) (g3 : (b3, listOf #[.int x3' t3', .int y3' u3', .int z3' v3'] l3) ∈ news)
    (e0 : x0 = x0' ∧ y0 = y0' ∧ z0 = z0') (e1 : x1 = x1' ∧ y1 = y1' ∧ z1 = z1') (e2 : x2 = x2' ∧ y2 = y2' ∧ z2 = z2') (e3 : x3 = x3' ∧ y3 = y3' ∧ z3 = z3') (hu : A.units + 64 < cLine) (hq : Q (.bool false) s) :
    wpAny (model prog w) A (compareOp .NotEq (.ref a) (.ref b)) Q E s := by
  refine byG (fun P9 hP9 => ?_)
  obtain ⟨rfl, rfl, rfl⟩ := e0
  obtain ⟨rfl, rfl, rfl⟩ := e1
  obtain ⟨rfl, rfl, rfl⟩ := e2
  obtain ⟨rfl, rfl, rfl⟩ := e3
  obtain ⟨_, ra⟩ := reads_four N h h0 h1 h2 h3
  obtain ⟨_, rb⟩ := reads_four N g g0 g1 g2 g3
  refine hP9 ?_
  clear hP9 P9
  refine ne_dataH ra rb rfl rfl hu ?_
  have e : PyData.eqv (.list [row3D x0 y0 z0, row3D x1 y1 z1, row3D x2 y2 z2, row3D x3 y3 z3]) (.list [row3D x0 y0 z0, row3D x1 y1 z1, row3D x2 y2 z2, row3D x3 y3 z3]) = true := by
    simp [row3D, PyData.eqv, PyData.eqvAll]
  rw [e]
  exact hq
end
end Mine
end
section
open PySem PySem.W PyProof.Rows PySem.Spec PySem.Calls PyProof.V
namespace Mine
structure BkA where
  t : Addr
  d : Addr
  o : Obj
  x1 : Tok
  x2 : Tok
  x3 : Tok
  x4 : Tok
noncomputable abbrev BkA.row (a : BkA) (b : Book) : Addr × Obj := (a.t, tupO [.int b.cc a.x1, .int b.nc a.x2, .int b.tt a.x3, .int b.ct a.x4, .ref a.d])
structure LvA where
  B : Addr
  n : Nat
  a0 : BkA
  a1 : BkA
  a2 : BkA
noncomputable abbrev LvA.led (l : LvA) (L : Lev) : List (Addr × Obj) := [(l.B, listOf #[.ref l.a0.t, .ref l.a1.t, .ref l.a2.t] l.n), l.a0.row L.1, l.a1.row L.2.1, l.a2.row L.2.2]
noncomputable abbrev LvA.dics (l : LvA) : List (Addr × Obj) := [(l.a0.d, l.a0.o), (l.a1.d, l.a1.o), (l.a2.d, l.a2.o)]
structure TrA where
  R : Addr
  n : Nat
  t0 : Tok
  t1 : Tok
  t2 : Tok
noncomputable abbrev TrA.row (r : TrA) (T : T3) : Addr × Obj := (r.R, listOf #[.int T.1 r.t0, .int T.2.1 r.t1, .int T.2.2 r.t2] r.n)
theorem BookIn.get {w : World} {extra : List (Addr × Obj)} {v : Value} {b : Book} (h : BookIn w extra v b) : ∃ a : BkA, v = .ref a.t ∧ a.row b ∈ extra ∧ (a.d, a.o) ∈ extra ∧ DictIs w a.d a.o b.D := by
  refine byG (fun P9 hP9 => ?_)
  obtain ⟨t, d, o, x1, x2, x3, x4, e, h1, h2, h3⟩ := h
  refine hP9 ?_
  clear hP9 P9
  exact ⟨⟨t, d, o, x1, x2, x3, x4⟩, e, h1, h2, h3⟩
theorem LevIn.get {w : World} {extra : List (Addr × Obj)} {v : Value} {L : Lev} (h : LevIn w extra v L) : ∃ l : LvA, v = .ref l.B ∧ (∀ p ∈ l.led L, p ∈ extra) ∧ (∀ p ∈ l.dics, p ∈ extra) ∧ DictIs w l.a0.d l.a0.o L.1.D ∧ DictIs w l.a1.d l.a1.o L.2.1.D ∧ DictIs w l.a2.d l.a2.o L.2.2.D := by
  refine byG (fun P9 hP9 => ?_)
  obtain ⟨B, n, v0, v1, v2, e, hB, b0, b1, b2⟩ := h
  obtain ⟨a0, rfl, r0, d0, i0⟩ := b0.get
  obtain ⟨a1, rfl, r1, d1, i1⟩ := b1.get
  obtain ⟨a2, rfl, r2, d2, i2⟩ := b2.get
  refine hP9 ?_
  clear hP9 P9
  refine ⟨⟨B, n, a0, a1, a2⟩, e, ?_, ?_, i0, i1, i2⟩
  · exact List.forall_mem_cons.mpr ⟨hB, List.forall_mem_cons.mpr ⟨r0, List.forall_mem_cons.mpr ⟨r1, List.forall_mem_cons.mpr ⟨r2, List.forall_mem_nil _⟩⟩⟩⟩
  · exact List.forall_mem_cons.mpr ⟨d0, List.forall_mem_cons.mpr ⟨d1, List.forall_mem_cons.mpr ⟨d2, List.forall_mem_nil _⟩⟩⟩
theorem KeptIn.get {extra : List (Addr × Obj)} {v : Value} {T : T3} (h : KeptIn extra v T) : ∃ r : TrA, v = .ref r.R ∧ r.row T ∈ extra := by
  obtain ⟨R, n, t0, t1, t2, e, h1⟩ := h
  exact ⟨⟨R, n, t0, t1, t2⟩, e, h1⟩
theorem TripIn.get {extra : List (Addr × Obj)} {v : Value} {T : T3} (h : TripIn extra v T) : ∃ r : TrA, v = .ref r.R ∧ r.row T ∈ extra := by
  refine byG (fun P9 hP9 => ?_)
  obtain ⟨R, n, t0, t1, t2, e, h1⟩ := h
  refine hP9 ?_
  clear hP9 P9
  exact ⟨⟨R, n, t0, t1, t2⟩, e, h1⟩
noncomputable abbrev forthLed (l0 l1 l2 l3 : LvA) (k0 k1 k2 : TrA) (L0 L1 L2 L3 : Lev) (T0 T1 T2 : T3) : List (Addr × Obj) := l0.led L0 ++ (l1.led L1 ++ (l2.led L2 ++ (l3.led L3 ++ (l3.dics ++ [k0.row T0, k1.row T1, k2.row T2]))))
theorem len3 {α : Type} {l : List α} (h : l.length = 3) : ∃ a b c, l = [a, b, c] := by
  match l, h with
  | [a, b, c], _ => exact ⟨a, b, c, rfl⟩
theorem FC_len {p : PM} {sm : SM} : ∀ {Ls : List Lev} {ts : List T3}, FC p sm Ls ts → Ls.length = ts.length + 1
  | [_], [], _ => rfl
  | _ :: _ :: _, _ :: _, h => by have := FC_len h.2; simp at this ⊢; omega
  | [], [], h => h.elim
  | [], _ :: _, h => h.elim
  | [_], _ :: _, h => h.elim
  | _ :: _ :: _, [], h => h.elim
theorem forth_open {w : World} {extra : List (Addr × Obj)} {lv ks : List Value} {Ls : List Lev} {ts : List T3} {p : PM} {sm : SM} (h1 : All2 (LevIn w extra) lv (List.reverse Ls)) (h2 : All2 (KeptIn extra) ks (List.reverse ts)) (h3 : FC p sm Ls ts) (h4 : ts.length = 3) :
    ∃ (l0 l1 l2 l3 : LvA) (k0 k1 k2 : TrA) (L0 L1 L2 L3 : Lev) (T0 T1 T2 : T3), lv = [.ref l0.B, .ref l1.B, .ref l2.B, .ref l3.B] ∧ ks = [.ref k0.R, .ref k1.R, .ref k2.R] ∧ FC p sm [L3, L2, L1, L0] [T2, T1, T0] ∧
      (∀ q ∈ forthLed l0 l1 l2 l3 k0 k1 k2 L0 L1 L2 L3 T0 T1 T2, q ∈ extra) ∧ DictIs w l3.a0.d l3.a0.o L3.1.D ∧ DictIs w l3.a1.d l3.a1.o L3.2.1.D ∧ DictIs w l3.a2.d l3.a2.o L3.2.2.D := by
  refine byP (fun P9 hP9 => ?_)
  obtain ⟨T2, T1, T0, rfl⟩ := len3' h4
  obtain ⟨L3, L2, L1, L0, rfl⟩ := len4' (FC_len h3)
  obtain ⟨v0, v1, v2, v3, rfl, r0, r1, r2, r3⟩ := All2.inv4 (a := L0) (b := L1) (c := L2) (d := L3) h1
  obtain ⟨u0, u1, u2, rfl, s0, s1, s2⟩ := All2.inv3 (a := T0) (b := T1) (c := T2) h2
  obtain ⟨l0, rfl, g0, _⟩ := r0.get
  obtain ⟨l1, rfl, g1, _⟩ := r1.get
  obtain ⟨l2, rfl, g2, _⟩ := r2.get
  obtain ⟨l3, rfl, g3, f3, i0, i1, i2⟩ := r3.get
  obtain ⟨k0, rfl, j0⟩ := s0.get
  obtain ⟨k1, rfl, j1⟩ := s1.get
  obtain ⟨k2, rfl, j2⟩ := s2.get
  refine hP9 ⟨l0, l1, l2, l3, k0, k1, k2, L0, L1, L2, L3, T0, T1, T2, rfl, rfl, h3, ?_, i0, i1, i2⟩
  intro q hq
  rcases List.mem_append.mp hq with hq | hq; · exact g0 q hq
  rcases List.mem_append.mp hq with hq | hq; · exact g1 q hq
  rcases List.mem_append.mp hq with hq | hq; · exact g2 q hq
  rcases List.mem_append.mp hq with hq | hq; · exact g3 q hq
  rcases List.mem_append.mp hq with hq | hq; · exact f3 q hq
  rcases List.mem_cons.mp hq with rfl | hq; · exact j0
  rcases List.mem_cons.mp hq with rfl | hq; · exact j1
  rcases List.mem_cons.mp hq with rfl | hq; · exact j2
  exact nomatch hq
theorem ahead_open {extra : List (Addr × Obj)} {vs : List Value} {done : List T3} (h : All2 (TripIn extra) vs done) (h4 : done.length = 4) :
    ∃ (a0 a1 a2 a3 : TrA) (A0 A1 A2 A3 : T3), vs = [.ref a0.R, .ref a1.R, .ref a2.R, .ref a3.R] ∧ done = [A0, A1, A2, A3] ∧ (∀ q ∈ [a0.row A0, a1.row A1, a2.row A2, a3.row A3], q ∈ extra) := by
  refine byP (fun P9 hP9 => ?_)
  obtain ⟨A0, A1, A2, A3, rfl⟩ := len4' h4
  obtain ⟨v0, v1, v2, v3, rfl, r0, r1, r2, r3⟩ := h.inv4
  obtain ⟨a0, rfl, g0⟩ := r0.get
  obtain ⟨a1, rfl, g1⟩ := r1.get
  obtain ⟨a2, rfl, g2⟩ := r2.get
  obtain ⟨a3, rfl, g3⟩ := r3.get
  exact hP9 ⟨a0, a1, a2, a3, A0, A1, A2, A3, rfl, rfl, List.forall_mem_cons.mpr ⟨g0, List.forall_mem_cons.mpr ⟨g1, List.forall_mem_cons.mpr ⟨g2, List.forall_mem_cons.mpr ⟨g3, List.forall_mem_nil _⟩⟩⟩⟩⟩
structure PA where
  P : Addr
  p0 : Addr
  p1 : Addr
  p2 : Addr
  n : Nat
  n0 : Nat
  n1 : Nat
  n2 : Nat
  t1 : Tok
  t2 : Tok
  t3 : Tok
  t4 : Tok
  t5 : Tok
  t6 : Tok
  t7 : Tok
  t8 : Tok
  t9 : Tok
noncomputable abbrev PA.led (a : PA) (p : PM) : List (Addr × Obj) := PM.led a.P a.p0 a.p1 a.p2 a.n a.n0 a.n1 a.n2 p a.t1 a.t2 a.t3 a.t4 a.t5 a.t6 a.t7 a.t8 a.t9
structure SA where
  M : Addr
  q0 : Addr
  q1 : Addr
  q2 : Addr
  q3 : Addr
  n : Nat
  n0 : Nat
  n1 : Nat
  n2 : Nat
  n3 : Nat
  t1 : Tok
  t2 : Tok
  t3 : Tok
  t4 : Tok
  t5 : Tok
  t6 : Tok
  t7 : Tok
  t8 : Tok
  t9 : Tok
  t10 : Tok
  t11 : Tok
  t12 : Tok
noncomputable abbrev SA.led (a : SA) (m : SM) : List (Addr × Obj) := SM.led a.M a.q0 a.q1 a.q2 a.q3 a.n a.n0 a.n1 a.n2 a.n3 m a.t1 a.t2 a.t3 a.t4 a.t5 a.t6 a.t7 a.t8 a.t9 a.t10 a.t11 a.t12
noncomputable abbrev fourRef (A : Addr) (n : Nat) (a b c d : Addr) : Addr × Obj := (A, listOf #[.ref a, .ref b, .ref c, .ref d] n)
noncomputable abbrev threeRef (A : Addr) (n : Nat) (a b c : Addr) : Addr × Obj := (A, listOf #[.ref a, .ref b, .ref c] n)
theorem NeAll.own {tl news : List (Addr × Obj)} {bs : List Addr} (h : NeAll tl news) (hb : ∀ b ∈ bs, ∃ o, (b, o) ∈ news) : OwnOff tl bs := fun p hp b hb' => by
  obtain ⟨o, ho⟩ := hb b hb'
  exact h _ ho p hp
theorem cel_own {tl pre : List (Addr × Obj)} {L : Addr} {c1 c2 c3 c4 c5 c6 : Obj} (h : NeAll tl (pre ++ cel L c1 c2 c3 c4 c5 c6)) : OwnOff tl (celA L) := h.own fun b hb => by
  simp only [celA, List.mem_cons, List.not_mem_nil, or_false] at hb
  rcases hb with rfl | rfl | rfl | rfl | rfl | rfl
  · exact ⟨c6, List.mem_append_right _ (.head _)⟩
  · exact ⟨c5, List.mem_append_right _ (.tail _ (.head _))⟩
  · exact ⟨c4, List.mem_append_right _ (.tail _ (.tail _ (.head _)))⟩
  · exact ⟨c3, List.mem_append_right _ (.tail _ (.tail _ (.tail _ (.head _))))⟩
  · exact ⟨c2, List.mem_append_right _ (.tail _ (.tail _ (.tail _ (.tail _ (.head _)))))⟩
  · exact ⟨c1, List.mem_append_right _ (.tail _ (.tail _ (.tail _ (.tail _ (.tail _ (.head _))))))⟩
end Mine
end
section
open PySem PySem.W PyProof.Rows PySem.Spec PySem.Calls PyProof.V
namespace Mine
section
variable {prog : Program} {w : World} {A : Around} {E : Value → Shared → Prop} {s : Shared} {Q : Value → Shared → Prop} {h₀ : Heap} {L : Addr} {news : List (Addr × Obj)}
theorem item_tup {value slice : Expr} {l : Addr} {vs : List Value} {k : Int} {u : Tok} {j : Nat} {x : Value} (N : News h₀ L s.heap news) (hm : (l, tupO vs) ∈ news) (hk : decide (0 ≤ k ∧ k < 2 ^ 63) = true) (hj : seqIndex? k vs.length = some j) (hx : vs[j]? = some x) (h : Q x s)
    (hs : subscripted slice false (.ref l) (.int k u) = operate [.ref l, .int k u] (getItem (.ref l) (.int k u)) := by with_unfolding_all rfl) :
    wpAny (model prog w) A (subscriptTail value slice (.ref l) (.int k u)) Q E s := by
  obtain ⟨h0, h1⟩ := of_decide_eq_true hk
  exact item_tupleT ⟨_, N.get hm, rfl, _, rfl⟩ (by omega) h1 hj hx h hs
end
noncomputable abbrev lightT (L : Lev) (A : T3) : T3 := (L.1.ct + A.1, L.2.1.ct + A.2.1, L.2.2.ct + A.2.2)
noncomputable abbrev led9 (BK LT KP : Addr) (nb nl nk : Nat) (l0 l1 l2 l3 : LvA) (k0 k1 k2 g0 g1 g2 g3 : TrA) (L3 : Lev) (T0 T1 T2 G0 G1 G2 G3 : T3) (pa : PA) (sa : SA) (p : PM) (sm : SM) : List (Addr × Obj) :=
  fourRef BK nb l0.B l1.B l2.B l3.B :: fourRef LT nl g0.R g1.R g2.R g3.R :: threeRef KP nk k0.R k1.R k2.R :: (l3.led L3 ++ (l3.dics ++ ([k0.row T0, k1.row T1, k2.row T2] ++ ([g0.row G0, g1.row G1, g2.row G2, g3.row G3] ++ (pa.led p ++ sa.led sm)))))
end Mine
end
section
open PySem PySem.W PyProof.Rows PySem.Spec PySem.Calls PyProof.V
namespace Mine
theorem ne_cell {h₀ h : Heap} {L a c : Addr} {o oc : Obj} {v : Option Value} {news : List (Addr × Obj)} (N : News h₀ L h news) (h1 : (a, o) ∈ news) (h2 : (c, oc) ∈ news) (hd : oc.data = .cell v) (ho : ∀ u, o.data ≠ .cell u) : a ≠ c := by
  rintro rfl
  have e1 := (N _ h1).1
  have e2 := (N _ h2).1
  rw [e1] at e2
  cases e2
  exact ho v hd
theorem own_cel {h₀ h : Heap} {L : Addr} {led : List (Addr × Obj)} {c1 c2 c3 c4 c5 c6 : Obj} {v1 v2 v3 v4 v5 v6 : Option Value} (N : News h₀ L h (led ++ cel L c1 c2 c3 c4 c5 c6)) (hC : CelIs c1 c2 c3 c4 c5 c6 v1 v2 v3 v4 v5 v6) (hl : ∀ p ∈ led, ∀ u, p.2.data ≠ .cell u) : OwnOff led (celA L) := by
  intro p hp b hb
  have h1 : (p.1, p.2) ∈ led ++ cel L c1 c2 c3 c4 c5 c6 := List.mem_append_left _ hp
  simp only [celA, List.mem_cons, List.not_mem_nil, or_false] at hb
  rcases hb with rfl | rfl | rfl | rfl | rfl | rfl
  · exact ne_cell N h1 (List.mem_append_right _ (.head _)) hC.h6 (hl p hp)
  · exact ne_cell N h1 (List.mem_append_right _ (.tail _ (.head _))) hC.h5 (hl p hp)
  · exact ne_cell N h1 (List.mem_append_right _ (.tail _ (.tail _ (.head _)))) hC.h4 (hl p hp)
  · exact ne_cell N h1 (List.mem_append_right _ (.tail _ (.tail _ (.tail _ (.head _))))) hC.h3 (hl p hp)
  · exact ne_cell N h1 (List.mem_append_right _ (.tail _ (.tail _ (.tail _ (.tail _ (.head _)))))) hC.h2 (hl p hp)
  · exact ne_cell N h1 (List.mem_append_right _ (.tail _ (.tail _ (.tail _ (.tail _ (.tail _ (.head _))))))) hC.h1 (hl p hp)
end Mine
end
section
open PySem PySem.W PyProof.Rows PySem.Spec PySem.Calls PyProof.V
namespace Mine
theorem fold_ge (k : Nat) (c : Int) : ∀ (l : List (List Int × Int)) (acc : Int), acc ≤ l.foldl (fun acc p => if acc < p.2 ∧ p.1[k]? = some c then p.2 else acc) acc ∧ ∀ q ∈ l, q.1[k]? = some c → q.2 ≤ l.foldl (fun acc p => if acc < p.2 ∧ p.1[k]? = some c then p.2 else acc) acc
  | [], acc => ⟨Int.le_refl _, fun _ h => nomatch h⟩
  | a :: l, acc => by
    rw [List.foldl_cons]
    obtain ⟨h1, h2⟩ := fold_ge k c l (if acc < a.2 ∧ a.1[k]? = some c then a.2 else acc)
    refine ⟨?_, fun q hq hc => ?_⟩
    · refine Int.le_trans ?_ h1
      split <;> omega
    · rcases List.mem_cons.mp hq with rfl | hq
      · refine Int.le_trans ?_ h1
        split
        · omega
        · rename_i h
          simp only [hc, and_true] at h
          omega
      · exact h2 q hq hc
theorem fold_le (k : Nat) (c M : Int) : ∀ (l : List (List Int × Int)) (acc : Int), acc ≤ M → (∀ q ∈ l, q.1[k]? = some c → q.2 ≤ M) → l.foldl (fun acc p => if acc < p.2 ∧ p.1[k]? = some c then p.2 else acc) acc ≤ M
  | [], acc, h, _ => h
  | a :: l, acc, h, hl => by
    rw [List.foldl_cons]
    refine fold_le k c M l _ ?_ fun q hq => hl q (.tail _ hq)
    split
    · rename_i h2; exact hl a (.head _) h2.2
    · exact h
theorem mostF_ge (spec : List (List Int × Int)) (k : Nat) (c : Int) : ∀ q ∈ spec, q.1[k]? = some c → q.2 ≤ mostF spec k c := (fold_ge k c spec (-1)).2
theorem mostF_le (spec : List (List Int × Int)) (k : Nat) (c M : Int) (hM : -1 ≤ M) (h : ∀ q ∈ spec, q.1[k]? = some c → q.2 ≤ M) : mostF spec k c ≤ M := fold_le k c M spec (-1) hM h
noncomputable def IsMost (spec : List (List Int × Int)) (k : Nat) (c M : Int) : Prop := (∀ q ∈ spec, q.1[k]? = some c → q.2 ≤ M) ∧ ∃ q ∈ spec, q.1[k]? = some c ∧ q.2 = M
theorem IsMost.eq {spec : List (List Int × Int)} {k : Nat} {c M : Int} (h : IsMost spec k c M) (hM : -1 ≤ M) : mostF spec k c = M := by
  obtain ⟨h1, q, hq, hc, he⟩ := h
  have a := mostF_le spec k c M hM h1
  have b := mostF_ge spec k c q hq hc
  omega
structure Top2 (ws : List Int) (S T : Int) : Prop where
  le : S ≤ T
  sp : ∃ A B, ws = A ++ T :: B ∧ S ∈ A ++ B ∧ ∀ x ∈ A ++ B, x ≤ S
theorem top2_of {ns ws : List Int} {pre : List Int} {S T : Int} (hp : ns.Perm ws) (hs : ns.Pairwise (· ≤ ·)) (e : ns = pre ++ [S, T]) : Top2 ws S T := by
  subst e
  have hs' := List.pairwise_append.mp hs
  have hST : S ≤ T := by
    have := hs'.2.1
    simp at this
    exact this
  refine ⟨hST, ?_⟩
  have hT : T ∈ ws := hp.mem_iff.mp (by simp)
  obtain ⟨A, B, rfl⟩ := List.append_of_mem hT
  refine ⟨A, B, rfl, ?_⟩
  have h1 : (T :: (pre ++ [S])).Perm (T :: (A ++ B)) := by
    refine List.Perm.trans ?_ (hp.trans List.perm_middle)
    have : pre ++ [S, T] = (pre ++ [S]) ++ [T] := by simp
    rw [this]
    exact (List.perm_append_singleton T (pre ++ [S])).symm
  have h2 := (List.perm_cons T).mp h1
  refine ⟨h2.mem_iff.mp (by simp), fun x hx => ?_⟩
  have hx' := h2.mem_iff.mpr hx
  rcases List.mem_append.mp hx' with h | h
  · exact hs'.2.2 x h S (by simp)
  · simp at h; omega
theorem top2_ways {spec : List (List Int × Int)} {S T : Int} (h : Top2 (spec.map (·.2)) S T) (nd : (spec.map (·.1)).Nodup) :
    ∃ P ∈ spec, ∃ Q ∈ spec, P.1 ≠ Q.1 ∧ P.2 = T ∧ Q.2 = S ∧ ∀ R ∈ spec, R.1 ≠ P.1 → R.2 ≤ S := by
  refine byG (fun P9 hP9 => ?_)
  obtain ⟨hST, A, B, e, hS, hle⟩ := h
  obtain ⟨A', r, rfl, hA, hr⟩ := List.map_eq_append_iff.mp e
  obtain ⟨P, B', rfl, hP, hB⟩ := List.map_eq_cons_iff.mp hr
  refine hP9 ?_
  clear hP9 P9
  subst hA hB
  have nd' : P.1 ∉ (A' ++ B').map (·.1) := by
    rw [List.map_append, List.map_cons] at nd
    have := List.perm_middle.nodup_iff.mp nd
    rw [List.nodup_cons] at this
    rw [List.map_append]
    exact this.1
  have hS' : S ∈ (A' ++ B').map (·.2) := by rw [List.map_append]; exact hS
  refine byG (fun P9 hP9 => ?_)
  obtain ⟨Q, hQ, hQS⟩ := List.mem_map.mp hS'
  refine hP9 ?_
  clear hP9 P9
  refine ⟨P, by simp, Q, ?_, ?_, hP, hQS, ?_⟩
  · rcases List.mem_append.mp hQ with h | h <;> simp [h]
  · exact fun e => nd' (e ▸ List.mem_map_of_mem hQ)
  · intro R hR hne
    have hR' : R ∈ A' ++ B' := by
      rcases List.mem_append.mp hR with h | h
      · exact List.mem_append_left _ h
      · rcases List.mem_cons.mp h with rfl | h
        · exact absurd rfl hne
        · exact List.mem_append_right _ h
    refine hle R.2 ?_
    rw [← List.map_append]
    exact List.mem_map_of_mem hR'
end Mine
end
section
open PySem PySem.W PyProof.Rows PySem.Spec PySem.Calls PyProof.V
local macro_rules | `(tactic| omega) => `(tactic| first | lia | omega +splitDisjunctions)
namespace Mine
noncomputable def med (x y z : Int) : Int := x + y + z - mx3 x y z - mn3 x y z
noncomputable abbrev Dig (c : Int) : Prop := 0 ≤ c ∧ c < 3
theorem Dig.cases {c : Int} (h : Dig c) : c = 0 ∨ c = 1 ∨ c = 2 := by omega
theorem med_ge {x y z S c c' : Int} (hc : Dig c) (hc' : Dig c') (ne : c ≠ c') (h1 : S ≤ pick3 x y z c) (h2 : S ≤ pick3 x y z c') : S ≤ med x y z := by
  rcases hc.cases with rfl | rfl | rfl <;> rcases hc'.cases with rfl | rfl | rfl <;> simp [pick3] at h1 h2 ne <;> (unfold med mx3 mn3; (repeat' split) <;> omega)
theorem med_two {x y z S : Int} (h : S < med x y z) : ∃ c c', Dig c ∧ Dig c' ∧ c ≠ c' ∧ S < pick3 x y z c ∧ S < pick3 x y z c' := by
  unfold med mx3 mn3 at h
  by_cases hx : S < x
  · by_cases hy : S < y
    · exact ⟨0, 1, by decide, by decide, by decide, by simpa [pick3] using hx, by simpa [pick3] using hy⟩
    · have hz : S < z := by (repeat' split at h) <;> omega
      exact ⟨0, 2, by decide, by decide, by decide, by simpa [pick3] using hx, by simpa [pick3] using hz⟩
  · have hy : S < y := by (repeat' split at h) <;> omega
    have hz : S < z := by (repeat' split at h) <;> omega
    exact ⟨1, 2, by decide, by decide, by decide, by simpa [pick3] using hy, by simpa [pick3] using hz⟩
theorem mx3_ge {x y z c : Int} (hc : Dig c) : pick3 x y z c ≤ mx3 x y z := by
  rcases hc.cases with rfl | rfl | rfl <;> simp [pick3] <;> (unfold mx3; (repeat' split) <;> omega)
theorem mx3_at {x y z : Int} : ∃ c, Dig c ∧ pick3 x y z c = mx3 x y z := by
  unfold mx3
  split
  · split
    · exact ⟨2, by decide, by simp [pick3]⟩
    · exact ⟨1, by decide, by simp [pick3]⟩
  · split
    · exact ⟨2, by decide, by simp [pick3]⟩
    · exact ⟨0, by decide, by simp [pick3]⟩
noncomputable def Wd (p : PM) (sm : SM) (a b c d : Int) : Int := sm.at 0 a + p.at a b + sm.at 1 b + p.at b c + sm.at 2 c + p.at c d + sm.at 3 d
theorem mem_step {p : PM} {sm : SM} {k : Int} {l : List (List Int × Int × Int)} {q : List Int × Int × Int} : q ∈ l.flatMap (wayStep p sm k) ↔ ∃ r ∈ l, ∃ v, Dig v ∧ q = (r.1 ++ [r.2.1], v, r.2.2 + p.at r.2.1 v + sm.at k v) := by
  rw [List.mem_flatMap]
  constructor
  · rintro ⟨r, hr, hq⟩
    simp only [wayStep, List.mem_cons, List.not_mem_nil, or_false] at hq
    rcases hq with rfl | rfl | rfl
    · exact ⟨r, hr, 0, by decide, rfl⟩
    · exact ⟨r, hr, 1, by decide, rfl⟩
    · exact ⟨r, hr, 2, by decide, rfl⟩
  · rintro ⟨r, hr, v, hv, rfl⟩
    refine ⟨r, hr, ?_⟩
    rcases hv.cases with rfl | rfl | rfl <;> simp [wayStep]
theorem mem_way0 {p : PM} {sm : SM} {q : List Int × Int × Int} : q ∈ waysF p sm 0 ↔ ∃ a, Dig a ∧ q = ([], a, sm.at 0 a) := by
  simp only [waysF, List.mem_cons, List.not_mem_nil, or_false]
  constructor
  · rintro (rfl | rfl | rfl)
    · exact ⟨0, by decide, rfl⟩
    · exact ⟨1, by decide, rfl⟩
    · exact ⟨2, by decide, rfl⟩
  · rintro ⟨a, ha, rfl⟩
    rcases ha.cases with rfl | rfl | rfl <;> simp
theorem mem_way3 {p : PM} {sm : SM} {q : List Int × Int × Int} : q ∈ waysF p sm 3 ↔ ∃ a b c d, Dig a ∧ Dig b ∧ Dig c ∧ Dig d ∧ q = ([a, b, c], d, Wd p sm a b c d) := by
  constructor
  · intro h
    refine byG (fun P9 hP9 => ?_)
    obtain ⟨r2, h2, d, hd, rfl⟩ := mem_step.mp h
    obtain ⟨r1, h1, c, hc, rfl⟩ := mem_step.mp h2
    obtain ⟨r0, h0, b, hb, rfl⟩ := mem_step.mp h1
    obtain ⟨a, ha, rfl⟩ := mem_way0.mp h0
    refine hP9 ?_
    clear hP9 P9
    exact ⟨a, b, c, d, ha, hb, hc, hd, rfl⟩
  · intro h90
    refine byG (fun P9 hP9 => ?_)
    obtain ⟨a, b, c, d, ha, hb, hc, hd, rfl⟩ := h90
    refine hP9 ?_
    clear hP9 P9
    exact mem_step.mpr ⟨_, mem_step.mpr ⟨_, mem_step.mpr ⟨_, mem_way0.mpr ⟨a, ha, rfl⟩, b, hb, rfl⟩, c, hc, rfl⟩, d, hd, rfl⟩
noncomputable def specW (p : PM) (sm : SM) : List (List Int × Int) := (waysF p sm 3).map fun q => (q.1 ++ [q.2.1], q.2.2)
theorem mem_spec {p : PM} {sm : SM} {q : List Int × Int} : q ∈ specW p sm ↔ ∃ a b c d, Dig a ∧ Dig b ∧ Dig c ∧ Dig d ∧ q = ([a, b, c, d], Wd p sm a b c d) := by
  unfold specW
  rw [List.mem_map]
  constructor
  · intro h90
    refine byG (fun P9 hP9 => ?_)
    obtain ⟨r, hr, rfl⟩ := h90
    refine hP9 ?_
    clear hP9 P9
    refine byG (fun P9 hP9 => ?_)
    obtain ⟨a, b, c, d, ha, hb, hc, hd, rfl⟩ := mem_way3.mp hr
    refine hP9 ?_
    clear hP9 P9
    exact ⟨a, b, c, d, ha, hb, hc, hd, rfl⟩
  · intro h90
    refine byG (fun P9 hP9 => ?_)
    obtain ⟨a, b, c, d, ha, hb, hc, hd, rfl⟩ := h90
    refine hP9 ?_
    clear hP9 P9
    exact ⟨_, mem_way3.mpr ⟨a, b, c, d, ha, hb, hc, hd, rfl⟩, rfl⟩
noncomputable def pathStep (q : List Int × Int) : List (List Int × Int) := [(q.1 ++ [q.2], 0), (q.1 ++ [q.2], 1), (q.1 ++ [q.2], 2)]
noncomputable def pathsF : Nat → List (List Int × Int)
  | 0 => [([], 0), ([], 1), ([], 2)]
  | k + 1 => (pathsF k).flatMap pathStep
theorem paths_eq (p : PM) (sm : SM) : ∀ k, (waysF p sm k).map (fun q => (q.1, q.2.1)) = pathsF k
  | 0 => rfl
  | k + 1 => by
    rw [waysF, pathsF, ← paths_eq p sm k, List.map_flatMap, List.flatMap_map]
    rfl
theorem spec_nodup (p : PM) (sm : SM) : ((specW p sm).map (·.1)).Nodup := by
  have e : (specW p sm).map (·.1) = (pathsF 3).map fun q => q.1 ++ [q.2] := by
    rw [← paths_eq p sm 3, specW, List.map_map, List.map_map]
    rfl
  rw [e]
  decide +kernel
theorem spec_len (p : PM) (sm : SM) : (specW p sm).length = 81 := by
  unfold specW
  rw [List.length_map, waysF_card]
end Mine
end
section
open PySem PySem.W PyProof.Rows PySem.Spec PySem.Calls PyProof.V
local macro_rules | `(tactic| omega) => `(tactic| first | lia | omega +splitDisjunctions)
namespace Mine
noncomputable def T3.at (A : T3) (c : Int) : Int := pick3 A.1 A.2.1 A.2.2 c
theorem next_at {p : PM} {sm : SM} {k : Int} {L L' : Lev} {T : T3} (h : NextL p sm k L L' T) {v : Int} (hv : Dig v) :
    Dig (T3.at T v) ∧ L'.at v = nextBook p sm k L (T3.at T v) v ∧ ∀ u, Dig u → p.at u v + (L.at u).ct ≤ p.at (T3.at T v) v + (L.at (T3.at T v)).ct := by
  refine byG (fun P9 hP9 => ?_)
  obtain ⟨⟨b0, e0⟩, ⟨b1, e1⟩, ⟨b2, e2⟩⟩ := h
  refine hP9 ?_
  clear hP9 P9
  have key : ∀ {t v : Int} {b : Book}, Best p L t v → b = nextBook p sm k L t v → Dig t ∧ b = nextBook p sm k L t v ∧ ∀ u, Dig u → p.at u v + (L.at u).ct ≤ p.at t v + (L.at t).ct := by
    intro t v b hb e
    refine byG (fun P9 hP9 => ?_)
    obtain ⟨d, h0, h1, h2⟩ := hb
    refine hP9 ?_
    clear hP9 P9
    refine ⟨d, e, fun u hu => ?_⟩
    rcases hu.cases with rfl | rfl | rfl
    · exact h0
    · exact h1
    · exact h2
  rcases hv.cases with rfl | rfl | rfl
  · exact key b0 e0
  · exact key b1 e1
  · exact key b2 e2
theorem nextA_at {p : PM} {sm : SM} {k : Int} {A A' : T3} (h : A' = nextA p sm k A) {u : Int} (hu : Dig u) :
    (∀ v, Dig v → p.at u v + (sm.at k v + T3.at A v) ≤ T3.at A' u) ∧ ∃ v, Dig v ∧ T3.at A' u = p.at u v + (sm.at k v + T3.at A v) := by
  have key : T3.at A' u = mx3 (p.at u 0 + (sm.at k 0 + A.1)) (p.at u 1 + (sm.at k 1 + A.2.1)) (p.at u 2 + (sm.at k 2 + A.2.2)) := by
    subst h
    rcases hu.cases with rfl | rfl | rfl <;> rfl
  have ev : ∀ v, Dig v → pick3 (p.at u 0 + (sm.at k 0 + A.1)) (p.at u 1 + (sm.at k 1 + A.2.1)) (p.at u 2 + (sm.at k 2 + A.2.2)) v = p.at u v + (sm.at k v + T3.at A v) := by
    intro v hv
    rcases hv.cases with rfl | rfl | rfl <;> rfl
  refine ⟨fun v hv => ?_, ?_⟩
  · rw [key, ← ev v hv]; exact mx3_ge hv
  · obtain ⟨c, hc, e⟩ := mx3_at (x := p.at u 0 + (sm.at k 0 + A.1)) (y := p.at u 1 + (sm.at k 1 + A.2.1)) (z := p.at u 2 + (sm.at k 2 + A.2.2))
    exact ⟨c, hc, by rw [key, ← e, ev c hc]⟩
theorem lights_most {p : PM} {sm : SM} {L0 L1 L2 L3 : Lev} {T0 T1 T2 A0 A1 A2 A3 : T3} (hf : FC p sm [L3, L2, L1, L0] [T2, T1, T0]) (ha : AF p sm [A0, A1, A2, A3]) :
    (∀ c, Dig c → IsMost (specW p sm) 0 c ((L0.at c).ct + T3.at A0 c)) ∧ (∀ c, Dig c → IsMost (specW p sm) 1 c ((L1.at c).ct + T3.at A1 c)) ∧ (∀ c, Dig c → IsMost (specW p sm) 2 c ((L2.at c).ct + T3.at A2 c)) ∧ (∀ c, Dig c → IsMost (specW p sm) 3 c ((L3.at c).ct + T3.at A3 c)) := by
  refine byG (fun P9 hP9 => ?_)
  obtain ⟨n3, n2, n1, n0⟩ := hf
  obtain ⟨g0, g1, g2, g3⟩ := ha
  refine hP9 ?_
  clear hP9 P9
  have n3' : NextL p sm 3 L2 L3 T2 := n3
  have n2' : NextL p sm 2 L1 L2 T1 := n2
  have n1' : NextL p sm 1 L0 L1 T0 := n1
  have n0' : L0 = lev0 sm := n0
  have g0' : A0 = nextA p sm 1 A1 := g0
  have g1' : A1 = nextA p sm 2 A2 := g1
  have g2' : A2 = nextA p sm 3 A3 := g2
  have g3' : A3 = (0, 0, 0) := g3
  clear n3 n2 n1 n0 g0 g1 g2 g3
  have F0 : ∀ c, Dig c → (L0.at c).ct = sm.at 0 c := by
    intro c hc
    subst n0'
    rcases hc.cases with rfl | rfl | rfl <;> rfl
  have G3 : ∀ c, Dig c → T3.at A3 c = 0 := by
    intro c hc
    subst g3'
    rcases hc.cases with rfl | rfl | rfl <;> rfl
  have F1 : ∀ v, Dig v → (∀ u, Dig u → sm.at 1 v + (p.at u v + (L0.at u).ct) ≤ (L1.at v).ct) ∧ ∃ u, Dig u ∧ (L1.at v).ct = sm.at 1 v + (p.at u v + (L0.at u).ct) := by
    intro v hv
    refine byG (fun P9 hP9 => ?_)
    obtain ⟨d, e, m⟩ := next_at n1' hv
    refine hP9 ?_
    clear hP9 P9
    have e' : (L1.at v).ct = sm.at 1 v + (p.at (T3.at T0 v) v + (L0.at (T3.at T0 v)).ct) := by rw [e]; rfl
    exact ⟨fun u hu => by have := m u hu; omega, _, d, e'⟩
  have F2 : ∀ v, Dig v → (∀ u, Dig u → sm.at 2 v + (p.at u v + (L1.at u).ct) ≤ (L2.at v).ct) ∧ ∃ u, Dig u ∧ (L2.at v).ct = sm.at 2 v + (p.at u v + (L1.at u).ct) := by
    intro v hv
    refine byG (fun P9 hP9 => ?_)
    obtain ⟨d, e, m⟩ := next_at n2' hv
    refine hP9 ?_
    clear hP9 P9
    have e' : (L2.at v).ct = sm.at 2 v + (p.at (T3.at T1 v) v + (L1.at (T3.at T1 v)).ct) := by rw [e]; rfl
    exact ⟨fun u hu => by have := m u hu; omega, _, d, e'⟩
  have F3 : ∀ v, Dig v → (∀ u, Dig u → sm.at 3 v + (p.at u v + (L2.at u).ct) ≤ (L3.at v).ct) ∧ ∃ u, Dig u ∧ (L3.at v).ct = sm.at 3 v + (p.at u v + (L2.at u).ct) := by
    intro v hv
    refine byG (fun P9 hP9 => ?_)
    obtain ⟨d, e, m⟩ := next_at n3' hv
    refine hP9 ?_
    clear hP9 P9
    have e' : (L3.at v).ct = sm.at 3 v + (p.at (T3.at T2 v) v + (L2.at (T3.at T2 v)).ct) := by rw [e]; rfl
    exact ⟨fun u hu => by have := m u hu; omega, _, d, e'⟩
  have G0 := fun u hu => nextA_at g0' (u := u) hu
  have G1 := fun u hu => nextA_at g1' (u := u) hu
  have G2 := fun u hu => nextA_at g2' (u := u) hu
  have up : ∀ a b c d, Dig a → Dig b → Dig c → Dig d → Wd p sm a b c d ≤ (L0.at a).ct + T3.at A0 a ∧ Wd p sm a b c d ≤ (L1.at b).ct + T3.at A1 b ∧ Wd p sm a b c d ≤ (L2.at c).ct + T3.at A2 c ∧ Wd p sm a b c d ≤ (L3.at d).ct + T3.at A3 d := by
    intro a b c d ha hb hc hd
    have f0 := F0 a ha
    have f1 := (F1 b hb).1 a ha
    have f2 := (F2 c hc).1 b hb
    have f3 := (F3 d hd).1 c hc
    have q0 := (G0 a ha).1 b hb
    have q1 := (G1 b hb).1 c hc
    have q2 := (G2 c hc).1 d hd
    have q3 := G3 d hd
    unfold Wd
    omega
  refine ⟨fun x hx => ⟨?_, ?_⟩, fun x hx => ⟨?_, ?_⟩, fun x hx => ⟨?_, ?_⟩, fun x hx => ⟨?_, ?_⟩⟩
  · intro q hq hk
    refine byG (fun P9 hP9 => ?_)
    obtain ⟨a, b, c, d, ha, hb, hc, hd, rfl⟩ := mem_spec.mp hq
    refine hP9 ?_
    clear hP9 P9
    simp at hk; subst hk
    exact (up a b c d ha hb hc hd).1
  · refine byG (fun P9 hP9 => ?_)
    obtain ⟨b, hb, e0⟩ := (G0 x hx).2
    obtain ⟨c, hc, e1⟩ := (G1 b hb).2
    obtain ⟨d, hd, e2⟩ := (G2 c hc).2
    refine hP9 ?_
    clear hP9 P9
    have e3 := G3 d hd
    have f0 := F0 x hx
    refine ⟨_, mem_spec.mpr ⟨x, b, c, d, hx, hb, hc, hd, rfl⟩, rfl, ?_⟩
    show Wd p sm x b c d = _
    unfold Wd; omega
  · intro q hq hk
    refine byG (fun P9 hP9 => ?_)
    obtain ⟨a, b, c, d, ha, hb, hc, hd, rfl⟩ := mem_spec.mp hq
    refine hP9 ?_
    clear hP9 P9
    simp at hk; subst hk
    exact (up a b c d ha hb hc hd).2.1
  · refine byG (fun P9 hP9 => ?_)
    obtain ⟨a, ha, f1⟩ := (F1 x hx).2
    obtain ⟨c, hc, e1⟩ := (G1 x hx).2
    obtain ⟨d, hd, e2⟩ := (G2 c hc).2
    refine hP9 ?_
    clear hP9 P9
    have e3 := G3 d hd
    have f0 := F0 a ha
    refine ⟨_, mem_spec.mpr ⟨a, x, c, d, ha, hx, hc, hd, rfl⟩, rfl, ?_⟩
    show Wd p sm a x c d = _
    unfold Wd; omega
  · intro q hq hk
    refine byG (fun P9 hP9 => ?_)
    obtain ⟨a, b, c, d, ha, hb, hc, hd, rfl⟩ := mem_spec.mp hq
    refine hP9 ?_
    clear hP9 P9
    simp at hk; subst hk
    exact (up a b c d ha hb hc hd).2.2.1
  · refine byG (fun P9 hP9 => ?_)
    obtain ⟨b, hb, f2⟩ := (F2 x hx).2
    obtain ⟨a, ha, f1⟩ := (F1 b hb).2
    obtain ⟨d, hd, e2⟩ := (G2 x hx).2
    refine hP9 ?_
    clear hP9 P9
    have e3 := G3 d hd
    have f0 := F0 a ha
    refine ⟨_, mem_spec.mpr ⟨a, b, x, d, ha, hb, hx, hd, rfl⟩, rfl, ?_⟩
    show Wd p sm a b x d = _
    unfold Wd; omega
  · intro q hq hk
    refine byG (fun P9 hP9 => ?_)
    obtain ⟨a, b, c, d, ha, hb, hc, hd, rfl⟩ := mem_spec.mp hq
    refine hP9 ?_
    clear hP9 P9
    simp at hk; subst hk
    exact (up a b c d ha hb hc hd).2.2.2
  · refine byG (fun P9 hP9 => ?_)
    obtain ⟨c, hc, f3⟩ := (F3 x hx).2
    obtain ⟨b, hb, f2⟩ := (F2 c hc).2
    obtain ⟨a, ha, f1⟩ := (F1 b hb).2
    refine hP9 ?_
    clear hP9 P9
    have e3 := G3 x hx
    have f0 := F0 a ha
    refine ⟨_, mem_spec.mpr ⟨a, b, c, x, ha, hb, hc, hx, rfl⟩, rfl, ?_⟩
    show Wd p sm a b c x = _
    unfold Wd; omega
end Mine
end
section
open PySem PySem.W PyProof.Rows PySem.Spec PySem.Calls PyProof.V
local macro_rules | `(tactic| omega) => `(tactic| first | lia | omega +splitDisjunctions)
namespace Mine
structure Four (spec : List (List Int × Int)) (g : Nat → Int → Int) : Prop where
  most : ∀ k, k < 4 → ∀ c, Dig c → IsMost spec k c (g k c)
  path : ∀ q ∈ spec, ∃ a b c d, Dig a ∧ Dig b ∧ Dig c ∧ Dig d ∧ q.1 = [a, b, c, d]
theorem Four.letter {spec : List (List Int × Int)} {g : Nat → Int → Int} (h : Four spec g) {q : List Int × Int} (hq : q ∈ spec) {k : Nat} (hk : k < 4) : ∃ c, Dig c ∧ q.1[k]? = some c := by
  refine byG (fun P9 hP9 => ?_)
  obtain ⟨a, b, c, d, ha, hb, hc, hd, e⟩ := h.path q hq
  refine hP9 ?_
  clear hP9 P9
  rw [e]
  rcases lt4 hk with rfl | rfl | rfl | rfl
  · exact ⟨a, ha, rfl⟩
  · exact ⟨b, hb, rfl⟩
  · exact ⟨c, hc, rfl⟩
  · exact ⟨d, hd, rfl⟩
theorem Four.differ {spec : List (List Int × Int)} {g : Nat → Int → Int} (h : Four spec g) {q r : List Int × Int} (hq : q ∈ spec) (hr : r ∈ spec) (ne : q.1 ≠ r.1) : ∃ k c c', k < 4 ∧ Dig c ∧ Dig c' ∧ c ≠ c' ∧ q.1[k]? = some c ∧ r.1[k]? = some c' := by
  refine byG (fun P9 hP9 => ?_)
  obtain ⟨a, b, c, d, ha, hb, hc, hd, e⟩ := h.path q hq
  obtain ⟨a', b', c', d', ha', hb', hc', hd', e'⟩ := h.path r hr
  refine hP9 ?_
  clear hP9 P9
  rw [e, e'] at ne ⊢
  by_cases h0 : a = a'
  · by_cases h1 : b = b'
    · by_cases h2 : c = c'
      · by_cases h3 : d = d'
        · exact absurd (by rw [h0, h1, h2, h3]) ne
        · exact ⟨3, d, d', by decide, hd, hd', h3, rfl, rfl⟩
      · exact ⟨2, c, c', by decide, hc, hc', h2, rfl, rfl⟩
    · exact ⟨1, b, b', by decide, hb, hb', h1, rfl, rfl⟩
  · exact ⟨0, a, a', by decide, ha, ha', h0, rfl, rfl⟩
theorem Four.top {spec : List (List Int × Int)} {g : Nat → Int → Int} {S T : Int} (h : Four spec g) (t : Top2 (spec.map (·.2)) S T) (nd : (spec.map (·.1)).Nodup) {k : Nat} (hk : k < 4) : mx3 (g k 0) (g k 1) (g k 2) = T := by
  refine byG (fun P9 hP9 => ?_)
  obtain ⟨P, hP, Q, hQ, ne, eP, eQ, hR⟩ := top2_ways t nd
  refine hP9 ?_
  clear hP9 P9
  have all : ∀ q ∈ spec, q.2 ≤ T := fun q hq => by
    by_cases e : q.1 = P.1
    · refine byG (fun P9 hP9 => ?_)
      obtain ⟨c, hc, hcq⟩ := h.letter hq hk
      obtain ⟨A, B, e1, _, hle⟩ := t.sp
      refine hP9 ?_
      clear hP9 P9
      have : q.2 ∈ A ++ T :: B := e1 ▸ List.mem_map_of_mem hq
      rcases List.mem_append.mp this with m | m
      · exact Int.le_trans (hle _ (List.mem_append_left _ m)) t.le
      · rcases List.mem_cons.mp m with m | m
        · omega
        · exact Int.le_trans (hle _ (List.mem_append_right _ m)) t.le
    · exact Int.le_trans (hR q hq e) t.le
  have up : ∀ c, Dig c → g k c ≤ T := fun c hc => by
    refine byG (fun P9 hP9 => ?_)
    obtain ⟨_, q, hq, _, e⟩ := h.most k hk c hc
    refine hP9 ?_
    clear hP9 P9
    rw [← e]; exact all q hq
  refine byG (fun P9 hP9 => ?_)
  obtain ⟨c, hc, hcP⟩ := h.letter hP hk
  refine hP9 ?_
  clear hP9 P9
  have dn := (h.most k hk c hc).1 P hP hcP
  have u0 := up 0 (by decide)
  have u1 := up 1 (by decide)
  have u2 := up 2 (by decide)
  rw [eP] at dn
  have uc := up c hc
  rcases hc.cases with rfl | rfl | rfl <;> (unfold mx3; (repeat' split) <;> omega)
theorem Four.mid {spec : List (List Int × Int)} {g : Nat → Int → Int} {S T : Int} (h : Four spec g) (t : Top2 (spec.map (·.2)) S T) (nd : (spec.map (·.1)).Nodup) :
    (∀ k, k < 4 → med (g k 0) (g k 1) (g k 2) ≤ S) ∧ ∃ k, k < 4 ∧ S ≤ med (g k 0) (g k 1) (g k 2) := by
  refine byG (fun P9 hP9 => ?_)
  obtain ⟨P, hP, Q, hQ, ne, eP, eQ, hR⟩ := top2_ways t nd
  refine hP9 ?_
  clear hP9 P9
  have pk : ∀ k c, Dig c → pick3 (g k 0) (g k 1) (g k 2) c = g k c := by
    intro k c hc
    rcases hc.cases with rfl | rfl | rfl <;> rfl
  refine ⟨fun k hk => ?_, ?_⟩
  · refine Int.not_lt.mp fun hlt => ?_
    refine byG (fun P9 hP9 => ?_)
    obtain ⟨c, c', hc, hc', hne, h1, h2⟩ := med_two hlt
    refine hP9 ?_
    clear hP9 P9
    rw [pk k c hc] at h1
    rw [pk k c' hc'] at h2
    refine byG (fun P9 hP9 => ?_)
    obtain ⟨_, q, hq, kq, e⟩ := h.most k hk c hc
    obtain ⟨_, q', hq', kq', e'⟩ := h.most k hk c' hc'
    refine hP9 ?_
    clear hP9 P9
    by_cases a : q.1 = P.1
    · by_cases b : q'.1 = P.1
      · rw [a] at kq
        rw [b, kq] at kq'
        exact hne (Option.some.inj kq')
      · have := hR q' hq' b
        omega
    · have := hR q hq a
      omega
  · refine byG (fun P9 hP9 => ?_)
    obtain ⟨k, c, c', hk, hc, hc', hne, h1, h2⟩ := h.differ hP hQ ne
    refine hP9 ?_
    clear hP9 P9
    have a := (h.most k hk c hc).1 P hP h1
    have b := (h.most k hk c' hc').1 Q hQ h2
    have := t.le
    exact ⟨k, hk, med_ge hc hc' hne (by rw [pk k c hc]; omega) (by rw [pk k c' hc']; omega)⟩
end Mine
end
section
open PySem PySem.W PyProof.Rows PySem.Spec PySem.Calls PyProof.V
local macro_rules | `(tactic| omega) => `(tactic| first | lia | omega +splitDisjunctions)
namespace Mine
theorem last_book {p : PM} {sm : SM} {L0 L1 L2 L3 : Lev} {T0 T1 T2 : T3} (hf : FC p sm [L3, L2, L1, L0] [T2, T1, T0]) {l g2 g1 g0 : Int} (hl : Dig l) (e2 : g2 = T3.at T2 l) (e1 : g1 = T3.at T1 g2) (e0 : g0 = T3.at T0 g1) :
    (Dig g2 ∧ Dig g1 ∧ Dig g0) ∧ (L3.at l).cc = 3 ∧ (L3.at l).nc = p.at g0 g1 + p.at g1 g2 + p.at g2 l ∧ (L3.at l).tt = sm.at 0 g0 + sm.at 1 g1 + sm.at 2 g2 + sm.at 3 l ∧ (L3.at l).ct = Wd p sm g0 g1 g2 l ∧ (L3.at l).D = dueD g0 g1 g2 l := by
  refine byG (fun P9 hP9 => ?_)
  obtain ⟨n3, n2, n1, n0⟩ := hf
  refine hP9 ?_
  clear hP9 P9
  have n3' : NextL p sm 3 L2 L3 T2 := n3
  have n2' : NextL p sm 2 L1 L2 T1 := n2
  have n1' : NextL p sm 1 L0 L1 T0 := n1
  have n0' : L0 = lev0 sm := n0
  clear n3 n2 n1 n0
  refine byG (fun P9 hP9 => ?_)
  obtain ⟨d2, b3, _⟩ := next_at n3' hl
  refine hP9 ?_
  clear hP9 P9
  rw [← e2] at d2 b3
  refine byG (fun P9 hP9 => ?_)
  obtain ⟨d1, b2, _⟩ := next_at n2' d2
  refine hP9 ?_
  clear hP9 P9
  rw [← e1] at d1 b2
  refine byG (fun P9 hP9 => ?_)
  obtain ⟨d0, b1, _⟩ := next_at n1' d1
  refine hP9 ?_
  clear hP9 P9
  rw [← e0] at d0 b1
  have b0 : L0.at g0 = ⟨0, 0, sm.at 0 g0, sm.at 0 g0, []⟩ := by
    subst n0'
    rcases d0.cases with h | h | h <;> (rw [h]; rfl)
  rw [b3, nextBook, b2, nextBook, b1, nextBook, b0]
  refine ⟨⟨d2, d1, d0⟩, ?_, ?_, ?_, ?_, rfl⟩
  · show 0 + (1 + (0 + (1 + (0 + (1 + 0))))) = (3 : Int)
    rfl
  · show 0 + (p.at g2 l + (0 + (p.at g1 g2 + (0 + (p.at g0 g1 + 0))))) = _
    omega
  · show sm.at 3 l + (0 + (sm.at 2 g2 + (0 + (sm.at 1 g1 + (0 + sm.at 0 g0))))) = _
    omega
  · show sm.at 3 l + (p.at g2 l + (sm.at 2 g2 + (p.at g1 g2 + (sm.at 1 g1 + (p.at g0 g1 + sm.at 0 g0))))) = _
    unfold Wd
    omega
theorem four_of {p : PM} {sm : SM} {L0 L1 L2 L3 : Lev} {T0 T1 T2 A0 A1 A2 A3 : T3} (hf : FC p sm [L3, L2, L1, L0] [T2, T1, T0]) (ha : AF p sm [A0, A1, A2, A3]) :
    Four (specW p sm) fun k c => match k with
      | 0 => (L0.at c).ct + T3.at A0 c
      | 1 => (L1.at c).ct + T3.at A1 c
      | 2 => (L2.at c).ct + T3.at A2 c
      | _ => (L3.at c).ct + T3.at A3 c := by
  refine byG (fun P9 hP9 => ?_)
  obtain ⟨h0, h1, h2, h3⟩ := lights_most hf ha
  refine hP9 ?_
  clear hP9 P9
  refine ⟨fun k hk => ?_, fun q hq => ?_⟩
  · match k, hk with
    | 0, _ => exact h0
    | 1, _ => exact h1
    | 2, _ => exact h2
    | 3, _ => exact h3
  · refine byG (fun P9 hP9 => ?_)
    obtain ⟨a, b, c, d, ha, hb, hc, hd, rfl⟩ := mem_spec.mp hq
    refine hP9 ?_
    clear hP9 P9
    exact ⟨a, b, c, d, ha, hb, hc, hd, rfl⟩
theorem dueD_sum (a b c d : Int) : ((dueD a b c d).map (·.2)).sum = 3 ∧ 1 ≤ (dueD a b c d).length ∧ (dueD a b c d).length ≤ 3 := by
  unfold dueD
  generalize tx [a, b] = k1
  generalize tx [b, c] = k2
  generalize tx [c, d] = k3
  by_cases e1 : k2 = k1
  · subst e1
    by_cases e2 : k3 = k2
    · subst e2; simp [addC]
    · have e2' : ¬ k2 = k3 := fun e => e2 e.symm
      simp [addC, e2, e2']
  · have e1' : ¬ k1 = k2 := fun e => e1 e.symm
    by_cases e2 : k3 = k2
    · subst e2; simp [addC, e1, e1']
    · have e2' : ¬ k2 = k3 := fun e => e2 e.symm
      by_cases e3 : k3 = k1
      · subst e3; simp [addC, e1, e1', e2, e2']
      · have e3' : ¬ k1 = k3 := fun e => e3 e.symm
        simp [addC, e1, e1', e2, e2', e3, e3']
end Mine
end
section
open PySem PySem.W PyProof.Rows PySem.Spec PySem.Calls PyProof.V
namespace Mine
section
variable {prog : Program} {w : World} {A : Around} {E : Value → Shared → Prop} {s : Shared} {h₀ : Heap} {L : Addr} {m : Str → Option Value} {env : Env}
theorem All2.get {α β : Type} {R : α → β → Prop} : ∀ {as : List α} {bs : List β}, All2 R as bs → ∀ {i : Nat} {a : α}, as[i]? = some a → ∃ b, bs[i]? = some b ∧ R a b := by
  intro as bs H
  induction H with
  | nil => intro i a h; exact nomatch h
  | cons r _ ih =>
    intro i a h
    cases i with
    | zero => cases h; exact ⟨_, rfl, r⟩
    | succ i => exact ih (i := i) h
theorem ints_snoc {vs : List Value} {ns : List Int} {n : Int} {t : Tok} (h : IntsAre vs ns) : IntsAre (vs ++ [.int n t]) (ns ++ [n]) := by
  induction h with
  | nil => exact .cons _ _ .nil
  | cons a b _ ih => exact .cons _ _ ih
theorem worths_turns {x x₂ : Str} {p : Pos} {scope : Scope} {cl : List (Str × Addr)} {S : List (Addr × Obj) → Prop} {Fin : List Value → List (Addr × Obj) → Prop} {news extra : List (Addr × Obj)} {vs : List Value} {spec : List (List Int × Int)}
    (hk : scope.kind = .function) (hx₂ : scope.names.lookup x₂ = some .local) (hd : (x₂ == ("__debug__" : Str)) = false) (hall : All2 (WayIn extra) vs spec) (hex : ∀ q ∈ extra, q ∈ news) (hS : S news)
    (fin : ∀ ys, IntsAre ys (spec.map (·.2)) → Fin ys news) :
    ∀ (k i : Nat) (ys : List Value), k + i = vs.length → IntsAre ys ((spec.take i).map (·.2)) → LCp.CompRestP prog w A h₀ L m env (.Name x₂ p) x x₂ scope cl s S (fun i v => vs.toArray[i]? = some v) Fin k i ys news
  | 0, i, ys, hi, hy => fin ys (by
      have e : spec.take i = spec := List.take_of_length_le (by rw [← hall.length]; omega)
      rw [e] at hy; exact hy)
  | k + 1, i, ys, hi, hy => LCp.CompRestP.succ fun v hv => by
      have hv' : vs[i]? = some v := by simpa using hv
      refine byG (fun P9 hP9 => ?_)
      obtain ⟨q, hq, d, t, u, rfl, hm⟩ := hall.get hv'
      refine hP9 ?_
      clear hP9 P9
      refine ⟨d, _, _, _, _, rfl, hex _ hm, rfl, rfl, ?_⟩
      intro I oI C oC D m₂ h tk E' hC hx hx2 F N off ne
      refine LCgL.ld_own N (.tail _ (.head _)) hC hx2 ?_ (by rw [show (compEnvC scope cl C env).scope.kind = scope.kind from rfl, hk]) (lookup_relabel_local hx₂) hd
      refine LCg.CompEnd.intro F N news (fun p hp => hp) off hS ?_
      refine worths_turns hk hx₂ hd hall hex hS fin k (i + 1) _ (by omega) ?_
      have e : spec.take (i + 1) = spec.take i ++ [q] := by rw [List.take_succ, hq]; rfl
      rw [e, List.map_append]
      exact ints_snoc hy
end
end Mine
end
section
open PySem PySem.W PyProof.Rows PySem.Spec PySem.Calls PyProof.V
local macro_rules | `(tactic| omega) => `(tactic| first | lia | omega +splitDisjunctions)
namespace Mine
noncomputable def gOf (G0 G1 G2 G3 : T3) (k : Nat) (c : Int) : Int := match k with
  | 0 => T3.at G0 c
  | 1 => T3.at G1 c
  | 2 => T3.at G2 c
  | _ => T3.at G3 c
theorem light_at {L : Lev} {A : T3} {c : Int} (hc : Dig c) : T3.at (lightT L A) c = (L.at c).ct + T3.at A c := by
  rcases hc.cases with rfl | rfl | rfl <;> rfl
theorem four_light {p : PM} {sm : SM} {L0 L1 L2 L3 : Lev} {T0 T1 T2 A0 A1 A2 A3 : T3} (hf : FC p sm [L3, L2, L1, L0] [T2, T1, T0]) (ha : AF p sm [A0, A1, A2, A3]) :
    Four (specW p sm) (gOf (lightT L0 A0) (lightT L1 A1) (lightT L2 A2) (lightT L3 A3)) := by
  obtain ⟨h1, h2⟩ := four_of hf ha
  refine ⟨fun k hk c hc => ?_, h2⟩
  have := h1 k hk c hc
  rcases lt4 hk with rfl | rfl | rfl | rfl
  · show IsMost _ _ _ (T3.at (lightT L0 A0) c); rw [light_at hc]; exact this
  · show IsMost _ _ _ (T3.at (lightT L1 A1) c); rw [light_at hc]; exact this
  · show IsMost _ _ _ (T3.at (lightT L2 A2) c); rw [light_at hc]; exact this
  · show IsMost _ _ _ (T3.at (lightT L3 A3) c); rw [light_at hc]; exact this
noncomputable def Bd (G : T3) : Prop := (0 ≤ G.1 ∧ G.1 < 36) ∧ (0 ≤ G.2.1 ∧ G.2.1 < 36) ∧ (0 ≤ G.2.2 ∧ G.2.2 < 36)
theorem light_bd {i j : Nat} {L : Lev} {A : T3} (h : BookOk i L.1 ∧ BookOk i L.2.1 ∧ BookOk i L.2.2) (k : TripOk (10 * (j : Int)) A) (e : i + j = 3) : Bd (lightT L A) := by
  obtain ⟨⟨a1, _⟩, ⟨a2, _⟩, ⟨a3, _⟩⟩ := h
  obtain ⟨b1, b2, b3⟩ := k
  exact ⟨by show 0 ≤ L.1.ct + A.1 ∧ L.1.ct + A.1 < 36; omega, by show 0 ≤ L.2.1.ct + A.2.1 ∧ L.2.1.ct + A.2.1 < 36; omega, by show 0 ≤ L.2.2.ct + A.2.2 ∧ L.2.2.ct + A.2.2 < 36; omega⟩
theorem lights_bd {p : PM} {sm : SM} {L0 L1 L2 L3 : Lev} {T0 T1 T2 A0 A1 A2 A3 : T3} (hp : p.ok) (hs : sm.ok) (hf : FC p sm [L3, L2, L1, L0] [T2, T1, T0]) (ha : AF p sm [A0, A1, A2, A3]) :
    Bd (lightT L0 A0) ∧ Bd (lightT L1 A1) ∧ Bd (lightT L2 A2) ∧ Bd (lightT L3 A3) := by
  have f3 := (FC_ok hp hs hf).2
  have f2 := (FC_ok hp hs (show FC p sm [L2, L1, L0] [T1, T0] from hf.2)).2
  have f1 := (FC_ok hp hs (show FC p sm [L1, L0] [T0] from hf.2.2)).2
  have f0 := (FC_ok hp hs (show FC p sm [L0] [] from hf.2.2.2)).2
  have a0 := AF_ok hp hs ha
  have a1 := AF_ok hp hs (show AF p sm [A1, A2, A3] from ha.2)
  have a2 := AF_ok hp hs (show AF p sm [A2, A3] from ha.2.2)
  have a3 := AF_ok hp hs (show AF p sm [A3] from ha.2.2.2)
  exact ⟨light_bd f0 a0 rfl, light_bd f1 a1 rfl, light_bd f2 a2 rfl, light_bd f3 a3 rfl⟩
theorem last_light {p : PM} {sm : SM} {L3 : Lev} {A0 A1 A2 A3 : T3} (ha : AF p sm [A0, A1, A2, A3]) {c : Int} (hc : Dig c) : T3.at (lightT L3 A3) c = (L3.at c).ct := by
  have e : A3 = (0, 0, 0) := ha.2.2.2
  rw [light_at hc, e]
  rcases hc.cases with rfl | rfl | rfl <;> exact Int.add_zero _
theorem ways_in {extra : List (Addr × Obj)} {vs : List Value} {p : PM} {sm : SM} (h : All2 (WayL extra) vs (waysF p sm 3)) : All2 (WayIn extra) vs (specW p sm) := by
  unfold specW
  generalize waysF p sm 3 = l at h
  induction h with
  | nil => exact .nil
  | cons r _ ih => exact .cons r ih
theorem WayIn.mono {l l' : List (Addr × Obj)} (h : ∀ p ∈ l, p ∈ l') {v : Value} {b : List Int × Int} (x : WayIn l v b) : WayIn l' v b := let ⟨d, t, u, e, h1⟩ := x; ⟨d, t, u, e, h _ h1⟩
theorem spec_tags {p : PM} {sm : SM} : ∀ q ∈ specW p sm, q.1.length = 4 ∧ Tags q.1 := fun q hq => by
  refine byG (fun P9 hP9 => ?_)
  obtain ⟨a, b, c, d, ha, hb, hc, hd, rfl⟩ := mem_spec.mp hq
  refine hP9 ?_
  clear hP9 P9
  refine ⟨rfl, fun x hx => ?_⟩
  simp only [List.mem_cons, List.not_mem_nil, or_false] at hx
  rcases hx with rfl | rfl | rfl | rfl
  · exact ha
  · exact hb
  · exact hc
  · exact hd
theorem row_is {spec : List (List Int × Int)} {G0 G1 G2 G3 : T3} (f : Four spec (gOf G0 G1 G2 G3)) {k : Nat} {G : T3} (hk : k < 4) (hg : ∀ c, gOf G0 G1 G2 G3 k c = T3.at G c) (hb : Bd G) {R : Row3} (h : RowIs spec k R) : G.1 = R.x ∧ G.2.1 = R.y ∧ G.2.2 = R.z := by
  refine byG (fun P9 hP9 => ?_)
  obtain ⟨h1, h2, h3⟩ := h
  obtain ⟨b1, b2, b3⟩ := hb
  refine hP9 ?_
  clear hP9 P9
  have m0 := f.most k hk 0 (by decide)
  have m1 := f.most k hk 1 (by decide)
  have m2 := f.most k hk 2 (by decide)
  rw [hg] at m0 m1 m2
  have e0 : T3.at G 0 = G.1 := rfl
  have e1 : T3.at G 1 = G.2.1 := rfl
  have e2 : T3.at G 2 = G.2.2 := rfl
  rw [e0] at m0
  rw [e1] at m1
  rw [e2] at m2
  exact ⟨by rw [h1]; exact (m0.eq (by omega)).symm, by rw [h2]; exact (m1.eq (by omega)).symm, by rw [h3]; exact (m2.eq (by omega)).symm⟩
theorem ints_split {vs : List Value} : ∀ {a : List Int} {b : List Int}, IntsAre vs (a ++ b) → ∃ va vb, vs = va ++ vb ∧ IntsAre va a ∧ IntsAre vb b := by
  intro a
  induction a generalizing vs with
  | nil => intro b h; exact ⟨[], vs, rfl, .nil, h⟩
  | cons x a ih =>
    intro b h
    cases h with
    | cons n t h =>
      obtain ⟨va, vb, rfl, h1, h2⟩ := ih h
      exact ⟨_ :: va, vb, rfl, .cons _ _ h1, h2⟩
theorem last_two {α : Type} : ∀ (l : List α), 2 ≤ l.length → ∃ pre a b, l = pre ++ [a, b] ∧ pre.length + 2 = l.length
  | [a, b], _ => ⟨[], a, b, rfl, rfl⟩
  | a :: b :: c :: l, h => by
    obtain ⟨pre, x, y, e, e'⟩ := last_two (b :: c :: l) (by simp)
    exact ⟨a :: pre, x, y, by rw [e]; rfl, by simp at e' ⊢; omega⟩
  | [_], h => by simp at h
  | [], h => by simp at h
theorem sorted_two {p : PM} {sm : SM} {ws : List Value} {ns : List Int} (hI : IntsAre ws ns) (hp : ns.Perm ((specW p sm).map (·.2))) (hs : ns.Pairwise (· ≤ ·)) :
    ∃ pre a b S T, ws = pre ++ [.int S a, .int T b] ∧ pre.length = 79 ∧ Top2 ((specW p sm).map (·.2)) S T := by
  have hl : ns.length = 81 := by rw [hp.length_eq, List.length_map, spec_len]
  refine byG (fun P9 hP9 => ?_)
  obtain ⟨pre, S, T, e, el⟩ := last_two ns (by omega)
  refine hP9 ?_
  clear hP9 P9
  have t := top2_of hp hs e
  subst e
  refine byG (fun P9 hP9 => ?_)
  obtain ⟨va, vb, rfl, h1, h2⟩ := ints_split hI
  refine hP9 ?_
  clear hP9 P9
  cases h2 with | cons _ a h2 => cases h2 with | cons _ b h2 =>
  cases h2
  exact ⟨va, a, b, S, T, rfl, by rw [h1.length]; omega, t⟩
end Mine
end
section
open PySem PySem.W PyProof.Rows PySem.Spec PySem.Calls PyProof.V
namespace Mine
noncomputable def Dg (T : T3) : Prop := Dig T.1 ∧ Dig T.2.1 ∧ Dig T.2.2
noncomputable abbrev lateLed (BK KP : Addr) (nb nk : Nat) (l0 l1 l2 l3 : LvA) (k0 k1 k2 : TrA) (L3 : Lev) (T0 T1 T2 : T3) (pa : PA) (sa : SA) (p : PM) (sm : SM) : List (Addr × Obj) :=
  fourRef BK nb l0.B l1.B l2.B l3.B :: threeRef KP nk k0.R k1.R k2.R :: (l3.led L3 ++ (l3.dics ++ ([k0.row T0, k1.row T1, k2.row T2] ++ (pa.led p ++ sa.led sm))))
structure LF (w : World) (p : PM) (sm : SM) (L3 : Lev) (T0 T1 T2 G0 G1 G2 G3 : T3) (S T : Int) (l3 : LvA) (vs ws : List Value) (late tail : List (Addr × Obj)) : Prop where
  four : Four (specW p sm) (gOf G0 G1 G2 G3)
  b0 : Bd G0
  b1 : Bd G1
  b2 : Bd G2
  b3 : Bd G3
  top : Top2 ((specW p sm).map (·.2)) S T
  last : ∀ l g2 g1 g0, Dig l → g2 = T3.at T2 l → g1 = T3.at T1 g2 → g0 = T3.at T0 g1 → (Dig g2 ∧ Dig g1 ∧ Dig g0) ∧ (L3.at l).cc = 3 ∧ (L3.at l).nc = p.at g0 g1 + p.at g1 g2 + p.at g2 l ∧ (L3.at l).tt = sm.at 0 g0 + sm.at 1 g1 + sm.at 2 g2 + sm.at 3 l ∧ (L3.at l).ct = Wd p sm g0 g1 g2 l ∧ (L3.at l).D = dueD g0 g1 g2 l
  lastL : ∀ c, Dig c → T3.at G3 c = (L3.at c).ct
  kd : Dg T0 ∧ Dg T1 ∧ Dg T2
  i0 : DictIs w l3.a0.d l3.a0.o L3.1.D
  i1 : DictIs w l3.a1.d l3.a1.o L3.2.1.D
  i2 : DictIs w l3.a2.d l3.a2.o L3.2.2.D
  ways : All2 (WayIn tail) vs (specW p sm)
  worths : ∃ pre a b, ws = pre ++ [.int S a, .int T b] ∧ pre.length = 79
  late : ∀ q ∈ late, q ∈ tail
noncomputable abbrev ledR (WS WO LT : Addr) (ns no nl : Nat) (g0 g1 g2 g3 : TrA) (G0 G1 G2 G3 : T3) (vs ws : List Value) : List (Addr × Obj) :=
  [(WS, listOf vs.toArray ns), (WO, listOf ws.toArray no), fourRef LT nl g0.R g1.R g2.R g3.R, g0.row G0, g1.row G1, g2.row G2, g3.row G3]
noncomputable abbrev frR (m0 : Str → Option Value) (WO WS KP M P : Addr) : Str → Option Value := fun z => if z = PySem.Str.ofString "worths" then some (.ref WO) else if z = PySem.Str.ofString "ways" then some (.ref WS) else if z = PySem.Str.ofString "kept" then some (.ref KP) else if z = PySem.Str.ofString "meant" then some (.ref M) else if z = PySem.Str.ofString "pairs" then some (.ref P) else m0 z
noncomputable def SegR (k : Nat) (w : World) : Prop :=
  ∀ {nm : Str} {body rest : List Stmt} {sc : Scope} {loose mean mg mb} {h₀ : Heap} {L f : Addr} {cd} {m0 : Str → Option Value} {s : Shared} {Q E}, LawIs w nm body sc → body.drop k = rest → (hd.heap_1 w.params).In h₀ → Top vw loose mean mg mb h₀ → LawEnd h₀ L s Q →
  ∀ {BK LT KP WS WO : Addr} (nb nl nk ns no : Nat) (l0 l1 l2 l3 : LvA) (k0 k1 k2 g0 g1 g2 g3 : TrA) (L3 : Lev) (T0 T1 T2 G0 G1 G2 G3 : T3) (pa : PA) (sa : SA) (p : PM) (sm : SM) (vs ws : List Value) (S T : Int) (tail : List (Addr × Obj)) {c1 c2 c3 c4 c5 c6 : Obj} {v1 v2 v4 v6 : Option Value},
  Fr h₀ L s.heap (frR m0 WO WS KP sa.M pa.P) →
  News h₀ L s.heap (ledR WS WO LT ns no nl g0 g1 g2 g3 G0 G1 G2 G3 vs ws ++ (cel L c1 c2 c3 c4 c5 c6 ++ tail)) →
  LF w p sm L3 T0 T1 T2 G0 G1 G2 G3 S T l3 vs ws (lateLed BK KP nb nk l0 l1 l2 l3 k0 k1 k2 L3 T0 T1 T2 pa sa p sm) tail →
  CelIs c1 c2 c3 c4 c5 c6 v1 v2 (some (.ref BK)) v4 (some (.ref LT)) v6 → OwnOff tail (celA L) →
  LawWp w nm sc L f cd rest Q E s
theorem fr_five {h₀ h : Heap} {L : Addr} {m : Str → Option Value} {WO WS KP M P : Addr} (F : Fr h₀ L h m) (h1 : m (PySem.Str.ofString "worths") = some (.ref WO)) (h2 : m (PySem.Str.ofString "ways") = some (.ref WS)) (h3 : m (PySem.Str.ofString "kept") = some (.ref KP)) (h4 : m (PySem.Str.ofString "meant") = some (.ref M)) (h5 : m (PySem.Str.ofString "pairs") = some (.ref P)) : Fr h₀ L h (frR m WO WS KP M P) := by
  have e : frR m WO WS KP M P = m := by
    funext z
    unfold frR
    split
    · rename_i e; rw [e, h1]
    · split
      · rename_i e; rw [e, h2]
      · split
        · rename_i e; rw [e, h3]
        · split
          · rename_i e; rw [e, h4]
          · split
            · rename_i e; rw [e, h5]
            · rfl
  rw [e]; exact F
noncomputable abbrev NoCell (l : List (Addr × Obj)) : Prop := ∀ p ∈ l, ∀ u, p.2.data ≠ .cell u
theorem NoCell.nil : NoCell [] := fun _ h => nomatch h
theorem NoCell.cons {p : Addr × Obj} {l : List (Addr × Obj)} (h : ∀ u, p.2.data ≠ .cell u) (k : NoCell l) : NoCell (p :: l) := List.forall_mem_cons.mpr ⟨h, k⟩
theorem NoCell.seq {a : Addr} {c : Value} {x : Array Value} {n : Nat} {l : List (Addr × Obj)} (k : NoCell l) : NoCell ((a, { cls := c, data := .seq x n }) :: l) := .cons (fun _ e => nomatch e) k
end Mine
end
section
open PySem PySem.W PyProof.Rows PySem.Spec PySem.Calls PyProof.V
namespace Mine
theorem late_pins {BK KP : Addr} {nb nk : Nat} {l0 l1 l2 l3 : LvA} {k0 k1 k2 : TrA} {L3 : Lev} {T0 T1 T2 : T3} {pa : PA} {sa : SA} {p : PM} {sm : SM} : ∀ q ∈ pa.led p ++ sa.led sm, q ∈ lateLed BK KP nb nk l0 l1 l2 l3 k0 k1 k2 L3 T0 T1 T2 pa sa p sm := by
  intro q hq
  unfold lateLed
  exact .tail _ (.tail _ (List.mem_append_right _ (List.mem_append_right _ (List.mem_append_right _ hq))))
theorem kept_dg {p : PM} {sm : SM} {k : Int} {L L' : Lev} {T : T3} (h : NextL p sm k L L' T) : Dg T :=
  ⟨(next_at h (v := 0) (by decide)).1, (next_at h (v := 1) (by decide)).1, (next_at h (v := 2) (by decide)).1⟩
theorem lf_make {w : World} {p : PM} {sm : SM} {L0 L1 L2 L3 : Lev} {T0 T1 T2 A0 A1 A2 A3 : T3} {S T : Int} {l3 : LvA} {vs ws : List Value} {late tail : List (Addr × Obj)}
    (hp : p.ok) (hs : sm.ok) (hf : FC p sm [L3, L2, L1, L0] [T2, T1, T0]) (ha : AF p sm [A0, A1, A2, A3]) (i0 : DictIs w l3.a0.d l3.a0.o L3.1.D) (i1 : DictIs w l3.a1.d l3.a1.o L3.2.1.D) (i2 : DictIs w l3.a2.d l3.a2.o L3.2.2.D)
    (top : Top2 ((specW p sm).map (·.2)) S T) (ways : All2 (WayIn tail) vs (specW p sm)) (worths : ∃ pre a b, ws = pre ++ [.int S a, .int T b] ∧ pre.length = 79) (hl : ∀ q ∈ late, q ∈ tail) :
    LF w p sm L3 T0 T1 T2 (lightT L0 A0) (lightT L1 A1) (lightT L2 A2) (lightT L3 A3) S T l3 vs ws late tail := by
  refine byG (fun P9 hP9 => ?_)
  obtain ⟨b0, b1, b2, b3⟩ := lights_bd hp hs hf ha
  refine hP9 ?_
  clear hP9 P9
  exact ⟨four_light hf ha, b0, b1, b2, b3, top, fun l g2 g1 g0 h e2 e1 e0 => last_book hf h e2 e1 e0, fun c hc => last_light ha hc, ⟨kept_dg hf.2.2.1, kept_dg hf.2.1, kept_dg hf.1⟩, i0, i1, i2, ways, worths, hl⟩
end Mine
end
section
open PySem PySem.W PyProof.Rows PySem.Spec PySem.Calls PyProof.V
local macro_rules | `(tactic| omega) => `(tactic| first | lia | omega +splitDisjunctions)
namespace Mine
section
variable {prog : Program} {w : World} {A : Around} {E : Value → Shared → Prop} {s : Shared} {Q : Value → Shared → Prop} {h₀ : Heap} {L : Addr} {news : List (Addr × Obj)} {value slice : Expr}
theorem item_m1 {l : Addr} {pre : List Value} {x y : Value} {n : Nat} {u : Tok} (N : News h₀ L s.heap news) (hm : (l, listOf (pre ++ [x, y]).toArray n) ∈ news) (hp : pre.length = 79) (h : Q y s)
    (hs : subscripted slice false (.ref l) (.int (-1) u) = operate [.ref l, .int (-1) u] (getItem (.ref l) (.int (-1) u)) := by with_unfolding_all rfl) :
    wpAny (model prog w) A (subscriptTail value slice (.ref l) (.int (-1) u)) Q E s := by
  have e : (pre ++ [x, y])[80]? = some y := by rw [List.getElem?_append_right (by omega), hp]; rfl
  have el : (pre ++ [x, y]).length = 81 := by simp [hp]
  have hl : s.heap.IsList l (pre ++ [x, y]).toArray := N.isList hm
  have es : (pre ++ [x, y]).toArray.size = 81 := by rw [List.size_toArray, el]
  exact tail_any hl.typeIs slot_list_getitem.lookup (wpAny_getItem_list_neg hl (by decide) (by rw [es]; decide) (by decide) (by rw [es, List.getElem?_toArray]; exact e) h) hs
theorem item_m2 {l : Addr} {pre : List Value} {x y : Value} {n : Nat} {u : Tok} (N : News h₀ L s.heap news) (hm : (l, listOf (pre ++ [x, y]).toArray n) ∈ news) (hp : pre.length = 79) (h : Q x s)
    (hs : subscripted slice false (.ref l) (.int (-2) u) = operate [.ref l, .int (-2) u] (getItem (.ref l) (.int (-2) u)) := by with_unfolding_all rfl) :
    wpAny (model prog w) A (subscriptTail value slice (.ref l) (.int (-2) u)) Q E s := by
  have e : (pre ++ [x, y])[79]? = some x := by rw [List.getElem?_append_right (by omega), hp]; rfl
  have el : (pre ++ [x, y]).length = 81 := by simp [hp]
  have hl : s.heap.IsList l (pre ++ [x, y]).toArray := N.isList hm
  have es : (pre ++ [x, y]).toArray.size = 81 := by rw [List.size_toArray, el]
  exact tail_any hl.typeIs slot_list_getitem.lookup (wpAny_getItem_list_neg hl (by decide) (by rw [es]; decide) (by decide) (by rw [es, List.getElem?_toArray]; exact e) h) hs
theorem ne4 {a b : Addr} {n l : Nat} {x0 x1 x2 x3 y0 y1 y2 y3 : Int} {t0 t1 t2 t3 u0 u1 u2 u3 : Tok} (N : News h₀ L s.heap news) (h : (a, listOf #[.int x0 t0, .int x1 t1, .int x2 t2, .int x3 t3] n) ∈ news) (g : (b, listOf #[.int y0 u0, .int y1 u1, .int y2 u2, .int y3 u3] l) ∈ news)
    (e : x0 = y0 ∧ x1 = y1 ∧ x2 = y2 ∧ x3 = y3) (hu : A.units + 64 < cLine) (hq : Q (.bool false) s) :
    wpAny (model prog w) A (compareOp .NotEq (.ref a) (.ref b)) Q E s := by
  refine byG (fun P9 hP9 => ?_)
  obtain ⟨rfl, rfl, rfl, rfl⟩ := e
  refine hP9 ?_
  clear hP9 P9
  refine ne_dataH (reads_list_at (N.get h) rfl rfl (.cons (.int _ _) (.cons (.int _ _) (.cons (.int _ _) (.cons (.int _ _) .nil))))) (reads_list_at (N.get g) rfl rfl (.cons (.int _ _) (.cons (.int _ _) (.cons (.int _ _) (.cons (.int _ _) .nil))))) rfl rfl hu ?_
  have e : PyData.eqv (.list [.int x0, .int x1, .int x2, .int x3]) (.list [.int x0, .int x1, .int x2, .int x3]) = true := by
    simp [PyData.eqv, PyData.eqvAll]
  rw [e]
  exact hq
end
theorem bd_val {p : PM} {sm : SM} {G0 G1 G2 G3 : T3} {S T : Int} (f : Four (specW p sm) (gOf G0 G1 G2 G3)) (t : Top2 ((specW p sm).map (·.2)) S T) :
    mx3 G0.1 G0.2.1 G0.2.2 = T ∧ mx3 G1.1 G1.2.1 G1.2.2 = T ∧ mx3 G2.1 G2.2.1 G2.2.2 = T ∧ mx3 G3.1 G3.2.1 G3.2.2 = T :=
  ⟨f.top t (spec_nodup p sm) (k := 0) (by decide), f.top t (spec_nodup p sm) (k := 1) (by decide), f.top t (spec_nodup p sm) (k := 2) (by decide), f.top t (spec_nodup p sm) (k := 3) (by decide)⟩
theorem bd_mid {p : PM} {sm : SM} {G0 G1 G2 G3 : T3} {S T : Int} (f : Four (specW p sm) (gOf G0 G1 G2 G3)) (t : Top2 ((specW p sm).map (·.2)) S T) {M : Int}
    (h1 : ∀ x ∈ [med G0.1 G0.2.1 G0.2.2, med G1.1 G1.2.1 G1.2.2, med G2.1 G2.2.1 G2.2.2, med G3.1 G3.2.1 G3.2.2], x ≤ M) (h2 : M ∈ [med G0.1 G0.2.1 G0.2.2, med G1.1 G1.2.1 G1.2.2, med G2.1 G2.2.1 G2.2.2, med G3.1 G3.2.1 G3.2.2]) : M = S := by
  obtain ⟨a, k, hk, b⟩ := f.mid t (spec_nodup p sm)
  have a0 : med G0.1 G0.2.1 G0.2.2 ≤ S := a 0 (by decide)
  have a1 : med G1.1 G1.2.1 G1.2.2 ≤ S := a 1 (by decide)
  have a2 : med G2.1 G2.2.1 G2.2.2 ≤ S := a 2 (by decide)
  have a3 : med G3.1 G3.2.1 G3.2.2 ≤ S := a 3 (by decide)
  have hle : M ≤ S := by
    simp only [List.mem_cons, List.not_mem_nil, or_false] at h2
    rcases h2 with h | h | h | h <;> omega
  have hge : S ≤ M := by
    rcases lt4 hk with rfl | rfl | rfl | rfl
    · exact Int.le_trans (show S ≤ med G0.1 G0.2.1 G0.2.2 from b) (h1 _ (by simp))
    · exact Int.le_trans (show S ≤ med G1.1 G1.2.1 G1.2.2 from b) (h1 _ (by simp))
    · exact Int.le_trans (show S ≤ med G2.1 G2.2.1 G2.2.2 from b) (h1 _ (by simp))
    · exact Int.le_trans (show S ≤ med G3.1 G3.2.1 G3.2.2 from b) (h1 _ (by simp))
  omega
theorem tag_dig {c x y z : Int} (h : (c = 0 ∧ y ≤ x ∧ z ≤ x) ∨ (c = 1 ∧ x ≤ y ∧ z ≤ y) ∨ (c = 2 ∧ x ≤ z ∧ y ≤ z)) : Dig c ∧ pick3 x y z c = mx3 x y z := by
  rcases h with ⟨rfl, h1, h2⟩ | ⟨rfl, h1, h2⟩ | ⟨rfl, h1, h2⟩
  · refine ⟨by decide, ?_⟩
    show x = _
    unfold mx3; omega
  · refine ⟨by decide, ?_⟩
    show y = _
    unfold mx3; omega
  · refine ⟨by decide, ?_⟩
    show z = _
    unfold mx3; omega
end Mine
end
section
open PySem PySem.W PyProof.Rows PySem.Spec PySem.Calls PyProof.V
namespace Mine
structure HF (G0 G1 G2 G3 : T3) (T e0 e1 e2 e3 : Int) : Prop where
  g0 : Dig e0
  g1 : Dig e1
  g2 : Dig e2
  g3 : Dig e3
  t0 : pick3 G0.1 G0.2.1 G0.2.2 e0 = T
  t1 : pick3 G1.1 G1.2.1 G1.2.2 e1 = T
  t2 : pick3 G2.1 G2.2.1 G2.2.2 e2 = T
  t3 : pick3 G3.1 G3.2.1 G3.2.2 e3 = T
noncomputable abbrev hueO (HU : Addr) (nh : Nat) (e0 e1 e2 e3 : Int) (z0 z1 z2 z3 : Tok) : Addr × Obj := (HU, listOf #[.int e0 z0, .int e1 z1, .int e2 z2, .int e3 z3] nh)
noncomputable def SegH (k : Nat) (w : World) : Prop :=
  ∀ {nm : Str} {body rest : List Stmt} {sc : Scope} {loose mean mg mb} {h₀ : Heap} {L f : Addr} {cd} {m0 : Str → Option Value} {s : Shared} {Q E}, LawIs w nm body sc → body.drop k = rest → (hd.heap_1 w.params).In h₀ → Top vw loose mean mg mb h₀ → LawEnd h₀ L s Q →
  ∀ {BK LT KP WS WO HU : Addr} (nb nl nk ns no nh : Nat) (l0 l1 l2 l3 : LvA) (k0 k1 k2 g0 g1 g2 g3 : TrA) (L3 : Lev) (T0 T1 T2 G0 G1 G2 G3 : T3) (pa : PA) (sa : SA) (p : PM) (sm : SM) (vs ws : List Value) (S T e0 e1 e2 e3 : Int) (z0 z1 z2 z3 : Tok) (tail : List (Addr × Obj)) {c1 c2 c3 c4 c5 c6 : Obj} {v1 v2 v4 : Option Value},
  Fr h₀ L s.heap (frR m0 WO WS KP sa.M pa.P) →
  News h₀ L s.heap (hueO HU nh e0 e1 e2 e3 z0 z1 z2 z3 :: (ledR WS WO LT ns no nl g0 g1 g2 g3 G0 G1 G2 G3 vs ws ++ (cel L c1 c2 c3 c4 c5 c6 ++ tail))) →
  LF w p sm L3 T0 T1 T2 G0 G1 G2 G3 S T l3 vs ws (lateLed BK KP nb nk l0 l1 l2 l3 k0 k1 k2 L3 T0 T1 T2 pa sa p sm) tail →
  HF G0 G1 G2 G3 T e0 e1 e2 e3 →
  CelIs c1 c2 c3 c4 c5 c6 v1 v2 (some (.ref BK)) v4 (some (.ref LT)) (some (.ref HU)) → OwnOff tail (celA L) →
  LawWp w nm sc L f cd rest Q E s
theorem ledR_nocell {WS WO LT : Addr} {ns no nl : Nat} {g0 g1 g2 g3 : TrA} {G0 G1 G2 G3 : T3} {vs ws : List Value} : NoCell (ledR WS WO LT ns no nl g0 g1 g2 g3 G0 G1 G2 G3 vs ws) :=
  .seq (.seq (.seq (.seq (.seq (.seq (.seq .nil))))))
theorem ledR_own {h₀ h : Heap} {L : Addr} {WS WO LT : Addr} {ns no nl : Nat} {g0 g1 g2 g3 : TrA} {G0 G1 G2 G3 : T3} {vs ws : List Value} {tail : List (Addr × Obj)} {c1 c2 c3 c4 c5 c6 : Obj} {v1 v2 v3 v4 v5 v6 : Option Value} (N : News h₀ L h (ledR WS WO LT ns no nl g0 g1 g2 g3 G0 G1 G2 G3 vs ws ++ (cel L c1 c2 c3 c4 c5 c6 ++ tail))) (hC : CelIs c1 c2 c3 c4 c5 c6 v1 v2 v3 v4 v5 v6) :
    OwnOff (ledR WS WO LT ns no nl g0 g1 g2 g3 G0 G1 G2 G3 vs ws) (celA L) :=
  own_cel (Mine.News.sub N fun q hq => (List.mem_append.mp hq).elim (fun h => List.mem_append_left _ h) fun h => List.mem_append_right _ (List.mem_append_left _ h)) hC ledR_nocell
theorem hf_make {p : PM} {sm : SM} {G0 G1 G2 G3 : T3} {S T e0 e1 e2 e3 : Int} (f : Four (specW p sm) (gOf G0 G1 G2 G3)) (t : Top2 ((specW p sm).map (·.2)) S T)
    (h0 : Dig e0 ∧ pick3 G0.1 G0.2.1 G0.2.2 e0 = mx3 G0.1 G0.2.1 G0.2.2) (h1 : Dig e1 ∧ pick3 G1.1 G1.2.1 G1.2.2 e1 = mx3 G1.1 G1.2.1 G1.2.2) (h2 : Dig e2 ∧ pick3 G2.1 G2.2.1 G2.2.2 e2 = mx3 G2.1 G2.2.1 G2.2.2) (h3 : Dig e3 ∧ pick3 G3.1 G3.2.1 G3.2.2 e3 = mx3 G3.1 G3.2.1 G3.2.2) :
    HF G0 G1 G2 G3 T e0 e1 e2 e3 := by
  obtain ⟨a0, a1, a2, a3⟩ := bd_val f t
  exact ⟨h0.1, h1.1, h2.1, h3.1, h0.2.trans a0, h1.2.trans a1, h2.2.trans a2, h3.2.trans a3⟩
end Mine
end
section
open PySem PySem.W PyProof.Rows PySem.Spec PySem.Calls PyProof.V
namespace Mine
section
variable {prog : Program} {w : World} {A : Around} {E : Value → Shared → Prop} {s : Shared}
noncomputable def Same (prog : Program) (w : World) (A : Around) (s : Shared) (x y : Value) : Prop :=
  ∀ (E : Value → Shared → Prop) (Q : Bool → Shared → Prop), Q true s → wpAny (model prog w) A (eqBool x y) Q E s
theorem Same.of {A : Around} {s : Shared} {x y : Value} (h : SeqAt.EqAt A s x y true) : Same prog w A s x y := fun E Q hq => h prog w E Q hq
theorem Same.int {a b : Int} {t u : Tok} (e : a = b) : Same prog w A s (.int a t) (.int b u) := .of (by
  subst e
  have := SeqAt.EqAt.int_int (A := A) (s := s) a t a u
  rwa [beq_self_eq_true] at this)
theorem Same.refs {l b : Addr} (hne : l ≠ b) (h : ∀ (E Q : Value → Shared → Prop), Q (.bool true) s → wpAny (model prog w) A (compareOp .Eq (.ref l) (.ref b)) Q E s) : Same prog w A s (.ref l) (.ref b) := fun E Q hq => by
  unfold eqBool
  refine wpAny_holding ?_
  refine wpAny_ite_split (fun hab => absurd (by have := eq_of_beq hab; injection this) hne) (fun _ => ?_)
  exact wpAny_bind (h E _ (wpAny_truthy_bool hq))
theorem tuple_same_tree {a b : Addr} {oa ob : Obj} {xs ys : Array Value} {na nb : Nat} {P : Fin → Shared → Prop} (hoa : s.heap.get? a = some oa) (hda : oa.data = .seq xs na) (hob : s.heap.get? b = some ob) (hdb : ob.data = .seq ys nb) (hTb : s.TypeIs (.ref b) "tuple")
    (hl : xs.size = ys.size) (he : ∀ p ∈ xs.toList.zip ys.toList, Same prog w A s p.1 p.2) (h : P (.done (.ret (.bool true))) s) :
    wpAny (model prog w) A (Builtin.«tuple.__eq__» ⟨[.ref a, .ref b], []⟩) P E s := by
  show wpAny _ _ (isInstance (.ref b) (.type "tuple") >>= _) _ _ s
  refine wpAny_bind (wpAny_isInstance hTb isSubtype_tuple_tuple ?_)
  simp only [Bool.not_true, Bool.false_eq_true, if_false]
  refine wpAny_bind (wpAny_tupleItemsOf hoa hda ?_)
  refine wpAny_bind (wpAny_tupleItemsOf hob hdb ?_)
  refine wpAny_bind ?_
  refine wpAny_forIn_list _ (fun rest r s' => r.1 = none ∧ s' = s ∧ ∀ p ∈ rest, Same prog w A s p.1 p.2) _ ?_ ?_ _ _ ⟨rfl, rfl, he⟩
  · rintro ⟨u, v⟩ rest r s' ⟨hr, rfl, hrest⟩
    refine wpAny_bind (hrest _ (.head _) _ _ ?_)
    simp only [Bool.not_true, Bool.false_eq_true, if_false]
    exact wpAny_pure ⟨rfl, rfl, fun p hp => hrest p (.tail _ hp)⟩
  · rintro ⟨r1, r2⟩ s' ⟨hr, rfl, _⟩
    simp only at hr
    subst hr
    refine wpAny_pure ?_
    have e : Builtin.Tuple.tupleCompareSizes .Eq xs.size ys.size = .bool true := by
      rw [hl]
      show Value.bool (ys.size == ys.size) = _
      rw [beq_self_eq_true]
    rw [e]
    exact h
theorem eq_tuples {Q : Value → Shared → Prop} {a b : Addr} {xs ys : List Value} (ha : s.heap.IsTuple a xs.toArray) (hb : s.heap.IsTuple b ys.toArray) (hl : xs.length = ys.length) (hu : A.units < cLine)
    (he : ∀ p ∈ xs.zip ys, Same prog w A.in1 s p.1 p.2) (h : Q (.bool true) s) : wpAny (model prog w) A (compareOp .Eq (.ref a) (.ref b)) Q E s := by
  refine byG (fun P9 hP9 => ?_)
  obtain ⟨oa, hoa, hca, na, hda⟩ := id ha
  obtain ⟨ob, hob, hcb, nb, hdb⟩ := id hb
  refine hP9 ?_
  clear hP9 P9
  have hTa : s.TypeIs (.ref a) "tuple" := ⟨_, hoa, hca⟩
  have hTb : s.TypeIs (.ref b) "tuple" := ⟨_, hob, hcb⟩
  refine wpAny_richCompare_same_room (op := .Eq) hTa hTb PySem.F.slot_tuple_eq (wpAny_call_entry PySem.F.slot_tuple_eq hTa PySem.F.entry_tuple_eq ?_ (PySem.F.args_tuple_eq_2 _ _)) hu
  refine tuple_same_tree hoa hda hob hdb hTb (by simpa using hl) (by simpa using he) ?_
  exact ⟨_, rfl, (fun x => nomatch x), h⟩
theorem look_pd {p : Str × Int} : ∀ {D : List (Str × Int)}, p ∈ D → (D.map (·.1)).Nodup → PySem.Spec.lookup (PyData.str p.1) (pd D) = some (.int p.2)
  | q :: D, hm, nd => by
    rw [List.map_cons, List.nodup_cons] at nd
    rcases List.mem_cons.mp hm with e | hm
    · subst e
      simp [pd, PySem.Spec.lookup, PySem.Spec.same]
    · have hne' : ¬ q.1 = p.1 := fun e => nd.1 (e ▸ List.mem_map_of_mem hm)
      have hne'' : ¬ p.1 = q.1 := fun e => hne' e.symm
      have := look_pd hm nd.2
      simp only [pd, List.map_cons, PySem.Spec.lookup, PySem.Spec.same] at this ⊢
      simp [hne', hne'', this]
theorem same_dicts {h₀ : Heap} {L a b : Addr} {oa ob : Obj} {news : List (Addr × Obj)} {D : List (Str × Int)} (N : News h₀ L s.heap news) (pa : (a, oa) ∈ news) (pb : (b, ob) ∈ news) (da : DictIs w a oa D) (db : DictIs w b ob D) (hne : a ≠ b) (hu : A.units + 64 < cLine) :
    Same prg w A.in1 s (.ref a) (.ref b) := by
  refine .refs hne fun E Q hq => ?_
  refine byG (fun P9 hP9 => ?_)
  obtain ⟨la, ⟨ka, ia, fa⟩, nd⟩ := da
  obtain ⟨lb, ⟨kb, ib, fb⟩, _⟩ := db
  refine hP9 ?_
  clear hP9 P9
  refine keq_tabs (Da := pd D) (Db := pd D) (r := true) (enc := PyData.str) ?henc ⟨la, ka, Heap.dictOf_iff.mpr ⟨oa, (N _ pa).1, ia⟩, fa⟩ ⟨lb, kb, Heap.dictOf_iff.mpr ⟨ob, (N _ pb).1, ib⟩, fb⟩ rfl (by simp only [Around.in1_units]; omega) ?rows hq
  case henc => intro x y; simp only [PySem.Spec.same]; rw [Bool.eq_iff_iff]; simp
  case rows =>
    have key : ∀ (D' : List (Str × Int)), (∀ p ∈ D', p ∈ D) → KeqRows (pd D) (pd D') true := by
      intro D'
      induction D' with
      | nil => intro _; exact .nil
      | cons p r ih =>
        intro hp
        have h1 := look_pd (hp p (.head _)) nd
        have e : (true : Bool) = (PyData.eqv (.int p.2) (.int p.2) && true) := by simp [PyData.eqv]
        show KeqRows (pd D) ((PyData.str p.1, PyData.int p.2) :: pd r) true
        rw [e]
        exact .hit h1 (ih fun q hq => hp q (.tail _ hq))
    exact key D fun _ h => h
end
end Mine
end
section
open PySem PySem.W PyProof.Rows PySem.Spec PySem.Calls PyProof.V
namespace Mine
theorem All2.left {α β : Type} {R : α → β → Prop} : ∀ {as : List α} {bs : List β}, All2 R as bs → ∀ a ∈ as, ∃ b ∈ bs, R a b := by
  intro as bs H
  induction H with
  | nil => exact fun _ h => nomatch h
  | cons r _ ih =>
    intro a ha
    rcases List.mem_cons.mp ha with e | ha
    · subst e; exact ⟨_, .head _, r⟩
    · obtain ⟨b, hb, h⟩ := ih a ha
      exact ⟨b, .tail _ hb, h⟩
theorem All2.right {α β : Type} {R : α → β → Prop} : ∀ {as : List α} {bs : List β}, All2 R as bs → ∀ b ∈ bs, ∃ a ∈ as, R a b := by
  intro as bs H
  induction H with
  | nil => exact fun _ h => nomatch h
  | cons r _ ih =>
    intro b hb
    rcases List.mem_cons.mp hb with e | hb
    · subst e; exact ⟨_, .head _, r⟩
    · obtain ⟨a, ha, h⟩ := ih b hb
      exact ⟨a, .tail _ ha, h⟩
section
variable {prog : Program} {w : World} {A : Around} {E : Value → Shared → Prop} {s : Shared} {Q : Value → Shared → Prop} {h₀ : Heap} {L : Addr} {news : List (Addr × Obj)}
theorem way_notIn {WS x : Addr} {vs : List Value} {ns nx : Nat} {tail : List (Addr × Obj)} {spec : List (List Int × Int)} {l : List Int} {T : Int} {z u : Tok} (N : News h₀ L s.heap news) (hW : (WS, listOf vs.toArray ns) ∈ news) (hall : All2 (WayIn tail) vs spec) (ht : ∀ q ∈ tail, q ∈ news)
    (hx : (x, ({ cls := .type "tuple", data := .seq #[.str (tx l) z, .int T u] nx } : Obj)) ∈ news) (hne : ∀ q ∈ tail, q.1 ≠ x) (hq : (l, T) ∈ spec) (hu : A.units + 64 < cLine) (h : Q (.bool false) s) :
    wpAny (model prog w) A (compareOp .NotIn (.ref x) (.ref WS)) Q E s := by
  have same : ∀ y q, WayIn tail y q → ∀ q', WayIn tail y q' → tx q.1 = tx q'.1 ∧ q.2 = q'.2 := by
    rintro y q ⟨d, t, u, rfl, hm⟩ q' ⟨d', t', u', e, hm'⟩
    have e' : d = d' := by injection e
    subst e'
    have e1 := (N _ (ht _ hm)).1
    have e2 := (N _ (ht _ hm')).1
    rw [e1] at e2
    have e3 := congrArg Obj.data (Option.some.inj e2)
    simp only [tupO, Data.seq.injEq] at e3
    have e4 := congrArg Array.toList e3.1
    simp only [List.toList_toArray, List.cons.injEq, Value.str.injEq, Value.int.injEq] at e4
    exact ⟨e4.1.1, e4.2.1.1⟩
  have hT : s.heap.IsTuple x #[.str (tx l) z, .int T u] := ⟨_, (N _ hx).1, rfl, _, rfl⟩
  open Classical in
  refine SeqAt.notIn_listAt (fun y => decide (∃ q, WayIn tail y q ∧ tx q.1 = tx l ∧ q.2 = T)) (N.isList hW) (fun y hy => ?_) ?_
  · obtain ⟨q, hqs, hw⟩ := hall.left y (by simpa using hy)
    have hw0 := hw
    obtain ⟨d, t, u', rfl, hm⟩ := hw
    have hd : s.heap.IsTuple d #[.str (tx q.1) t, .int q.2 u'] := ⟨_, (N _ (ht _ hm)).1, rfl, _, rfl⟩
    refine SeqAt.EqAt.of_refs (hne _ hm) ?_
    have r := SeqAt.RcAt.tuples (A := A.in1) (s := s) (e := fun j => if j = 0 then tx q.1 == tx l else q.2 == T) hd hT (by simp only [Around.in1_units]; omega) (by
      intro j h1 h2
      match j, h1 with
      | 0, _ => exact SeqAt.EqAt.str_str _ _ _ _
      | 1, _ => exact SeqAt.EqAt.int_int _ _ _ _)
    have e : ((List.range (min (#[Value.str (tx q.1) t, Value.int q.2 u'] : Array Value).size (#[Value.str (tx l) z, Value.int T u] : Array Value).size)).all (fun j => if j = 0 then tx q.1 == tx l else q.2 == T) && (#[Value.str (tx q.1) t, Value.int q.2 u'] : Array Value).size == (#[Value.str (tx l) z, Value.int T u] : Array Value).size) = decide (∃ q', WayIn tail (.ref d) q' ∧ tx q'.1 = tx l ∧ q'.2 = T) := by
      rw [Bool.eq_iff_iff]
      have e2 : (List.range (min (#[Value.str (tx q.1) t, Value.int q.2 u'] : Array Value).size (#[Value.str (tx l) z, Value.int T u] : Array Value).size)) = [0, 1] := by rfl
      rw [e2]
      simp only [List.all_cons, List.all_nil, if_true, Nat.one_ne_zero, if_false, Bool.and_true, Bool.and_eq_true, beq_iff_eq, decide_eq_true_eq]
      constructor
      · rintro ⟨⟨a, b⟩, _⟩; exact ⟨q, hw0, a, b⟩
      · rintro ⟨q', hw', a, b⟩
        obtain ⟨c1, c2⟩ := same _ _ hw0 _ hw'
        exact ⟨⟨c1.trans a, c2.trans b⟩, rfl⟩
    rw [e] at r
    exact r
  · obtain ⟨y, hy, hw⟩ := hall.right _ hq
    have e : (vs.toArray.any fun y => decide (∃ q, WayIn tail y q ∧ tx q.1 = tx l ∧ q.2 = T)) = true := by
      rw [Array.any_eq_true']
      exact ⟨y, by simpa using hy, decide_eq_true ⟨_, hw, rfl, rfl⟩⟩
    rw [e]
    exact h
end
end Mine
end
section
open PySem PySem.W PyProof.Rows PySem.Spec PySem.Calls PyProof.V
namespace Mine
structure TF (T0 T1 T2 : T3) (e3 j0 j1 j2 : Int) : Prop where
  h2 : j2 = T3.at T2 e3
  h1 : j1 = T3.at T1 j2
  h0 : j0 = T3.at T0 j1
noncomputable abbrev frT (m0 : Str → Option Value) (j0 j1 j2 e3 : Int) (zt : Tok) (WO WS KP M P : Addr) : Str → Option Value := fun z => if z = PySem.Str.ofString "told" then some (.str (tx [j0, j1, j2, e3]) zt) else frR m0 WO WS KP M P z
noncomputable def SegT (k : Nat) (w : World) : Prop :=
  ∀ {nm : Str} {body rest : List Stmt} {sc : Scope} {loose mean mg mb} {h₀ : Heap} {L f : Addr} {cd} {m0 : Str → Option Value} {s : Shared} {Q E}, LawIs w nm body sc → body.drop k = rest → (hd.heap_1 w.params).In h₀ → Top vw loose mean mg mb h₀ → LawEnd h₀ L s Q →
  ∀ {BK LT KP WS WO HU : Addr} (nb nl nk ns no nh : Nat) (l0 l1 l2 l3 : LvA) (k0 k1 k2 g0 g1 g2 g3 : TrA) (L3 : Lev) (T0 T1 T2 G0 G1 G2 G3 : T3) (pa : PA) (sa : SA) (p : PM) (sm : SM) (vs ws : List Value) (S T e0 e1 e2 e3 j0 j1 j2 : Int) (z0 z1 z2 z3 zt : Tok) (tail : List (Addr × Obj)) {c1 c2 c3 c4 c5 c6 : Obj} {v1 v2 v4 : Option Value},
  Fr h₀ L s.heap (frT m0 j0 j1 j2 e3 zt WO WS KP sa.M pa.P) →
  News h₀ L s.heap (hueO HU nh e0 e1 e2 e3 z0 z1 z2 z3 :: (ledR WS WO LT ns no nl g0 g1 g2 g3 G0 G1 G2 G3 vs ws ++ (cel L c1 c2 c3 c4 c5 c6 ++ tail))) →
  LF w p sm L3 T0 T1 T2 G0 G1 G2 G3 S T l3 vs ws (lateLed BK KP nb nk l0 l1 l2 l3 k0 k1 k2 L3 T0 T1 T2 pa sa p sm) tail →
  HF G0 G1 G2 G3 T e0 e1 e2 e3 → TF T0 T1 T2 e3 j0 j1 j2 →
  CelIs c1 c2 c3 c4 c5 c6 v1 v2 (some (.ref BK)) v4 (some (.ref LT)) (some (.ref HU)) → OwnOff tail (celA L) →
  LawWp w nm sc L f cd rest Q E s
theorem fr_six {h₀ h : Heap} {L : Addr} {m : Str → Option Value} {WO WS KP M P : Addr} {j0 j1 j2 e3 : Int} {zt : Tok} (F : Fr h₀ L h m) (h0 : m (PySem.Str.ofString "told") = some (.str (tx [j0, j1, j2, e3]) zt)) (h1 : m (PySem.Str.ofString "worths") = some (.ref WO)) (h2 : m (PySem.Str.ofString "ways") = some (.ref WS)) (h3 : m (PySem.Str.ofString "kept") = some (.ref KP)) (h4 : m (PySem.Str.ofString "meant") = some (.ref M)) (h5 : m (PySem.Str.ofString "pairs") = some (.ref P)) : Fr h₀ L h (frT m j0 j1 j2 e3 zt WO WS KP M P) := by
  have F5 := fr_five F h1 h2 h3 h4 h5
  have e : frT m j0 j1 j2 e3 zt WO WS KP M P = frR m WO WS KP M P := by
    funext z
    unfold frT
    split
    · rename_i e
      subst e
      rw [← h0]
      have : m = frR m WO WS KP M P := by
        funext z
        unfold frR
        split
        · rename_i e; rw [e, h1]
        · split
          · rename_i e; rw [e, h2]
          · split
            · rename_i e; rw [e, h3]
            · split
              · rename_i e; rw [e, h4]
              · split
                · rename_i e; rw [e, h5]
                · rfl
      exact congrFun this _
    · rfl
  rw [e]; exact F5
theorem late_kept {BK KP : Addr} {nb nk : Nat} {l0 l1 l2 l3 : LvA} {k0 k1 k2 : TrA} {L3 : Lev} {T0 T1 T2 : T3} {pa : PA} {sa : SA} {p : PM} {sm : SM} : ∀ q ∈ [threeRef KP nk k0.R k1.R k2.R, k0.row T0, k1.row T1, k2.row T2], q ∈ lateLed BK KP nb nk l0 l1 l2 l3 k0 k1 k2 L3 T0 T1 T2 pa sa p sm := by
  intro q hq
  unfold lateLed
  rcases List.mem_cons.mp hq with h | hq
  · exact .tail _ (h ▸ .head _)
  · exact .tail _ (.tail _ (List.mem_append_right _ (List.mem_append_right _ (List.mem_append_left _ hq))))
theorem late_book {w : World} {BK KP : Addr} {nb nk : Nat} {l0 l1 l2 l3 : LvA} {k0 k1 k2 : TrA} {L3 : Lev} {T0 T1 T2 : T3} {pa : PA} {sa : SA} {p : PM} {sm : SM} {e : Int} (he : Dig e) (i0 : DictIs w l3.a0.d l3.a0.o L3.1.D) (i1 : DictIs w l3.a1.d l3.a1.o L3.2.1.D) (i2 : DictIs w l3.a2.d l3.a2.o L3.2.2.D) :
    ∃ a : BkA, [Value.ref l3.a0.t, .ref l3.a1.t, .ref l3.a2.t][e.toNat]? = some (.ref a.t) ∧ DictIs w a.d a.o (L3.at e).D ∧
      ∀ q ∈ [fourRef BK nb l0.B l1.B l2.B l3.B, threeRef l3.B l3.n l3.a0.t l3.a1.t l3.a2.t, a.row (L3.at e), (a.d, a.o)], q ∈ lateLed BK KP nb nk l0 l1 l2 l3 k0 k1 k2 L3 T0 T1 T2 pa sa p sm := by
  have hB : fourRef BK nb l0.B l1.B l2.B l3.B ∈ lateLed BK KP nb nk l0 l1 l2 l3 k0 k1 k2 L3 T0 T1 T2 pa sa p sm := .head _
  have hL : ∀ q ∈ l3.led L3, q ∈ lateLed BK KP nb nk l0 l1 l2 l3 k0 k1 k2 L3 T0 T1 T2 pa sa p sm := fun q hq => .tail _ (.tail _ (List.mem_append_left _ hq))
  have hD : ∀ q ∈ l3.dics, q ∈ lateLed BK KP nb nk l0 l1 l2 l3 k0 k1 k2 L3 T0 T1 T2 pa sa p sm := fun q hq => .tail _ (.tail _ (List.mem_append_right _ (List.mem_append_left _ hq)))
  rcases he.cases with rfl | rfl | rfl
  · exact ⟨l3.a0, rfl, i0, List.forall_mem_cons.mpr ⟨hB, List.forall_mem_cons.mpr ⟨hL _ (.head _), List.forall_mem_cons.mpr ⟨hL _ (.tail _ (.head _)), List.forall_mem_cons.mpr ⟨hD _ (.head _), List.forall_mem_nil _⟩⟩⟩⟩⟩
  · exact ⟨l3.a1, rfl, i1, List.forall_mem_cons.mpr ⟨hB, List.forall_mem_cons.mpr ⟨hL _ (.head _), List.forall_mem_cons.mpr ⟨hL _ (.tail _ (.tail _ (.head _))), List.forall_mem_cons.mpr ⟨hD _ (.tail _ (.head _)), List.forall_mem_nil _⟩⟩⟩⟩⟩
  · exact ⟨l3.a2, rfl, i2, List.forall_mem_cons.mpr ⟨hB, List.forall_mem_cons.mpr ⟨hL _ (.head _), List.forall_mem_cons.mpr ⟨hL _ (.tail _ (.tail _ (.tail _ (.head _)))), List.forall_mem_cons.mpr ⟨hD _ (.tail _ (.tail _ (.head _))), List.forall_mem_nil _⟩⟩⟩⟩⟩
end Mine
end
section
open PySem PySem.W PyProof.Rows PySem.Spec PySem.Calls PyProof.V
namespace Mine
section
variable {w : World} {p : PM} {sm : SM} {L3 : Lev} {T0 T1 T2 G0 G1 G2 G3 : T3} {S T : Int} {l3 : LvA} {vs ws : List Value} {late tail : List (Addr × Obj)} {e0 e1 e2 e3 j0 j1 j2 : Int}
theorem told_facts (lf : LF w p sm L3 T0 T1 T2 G0 G1 G2 G3 S T l3 vs ws late tail) (hf : HF G0 G1 G2 G3 T e0 e1 e2 e3) (tf : TF T0 T1 T2 e3 j0 j1 j2) :
    (Dig j0 ∧ Dig j1 ∧ Dig j2) ∧ (L3.at e3).cc = 3 ∧ (L3.at e3).nc = p.at j0 j1 + p.at j1 j2 + p.at j2 e3 ∧ (L3.at e3).tt = sm.at 0 j0 + sm.at 1 j1 + sm.at 2 j2 + sm.at 3 e3 ∧ (L3.at e3).ct = Wd p sm j0 j1 j2 e3 ∧ (L3.at e3).D = dueD j0 j1 j2 e3 ∧ (([j0, j1, j2, e3] : List Int), T) ∈ specW p sm := by
  refine byG (fun P9 hP9 => ?_)
  obtain ⟨⟨a2, a1, a0⟩, b, c, d, e, f⟩ := lf.last e3 j2 j1 j0 hf.g3 tf.h2 tf.h1 tf.h0
  refine hP9 ?_
  clear hP9 P9
  refine ⟨⟨a0, a1, a2⟩, b, c, d, e, f, ?_⟩
  have hT : T = Wd p sm j0 j1 j2 e3 := by
    rw [← e, ← lf.lastL e3 hf.g3, ← hf.t3]
    rfl
  exact mem_spec.mpr ⟨j0, j1, j2, e3, a0, a1, a2, hf.g3, by rw [hT]⟩
end
section
variable {prog : Program} {w : World} {A : Around} {E : Value → Shared → Prop} {s : Shared} {Q : Value → Shared → Prop} {h₀ : Heap} {L : Addr} {news : List (Addr × Obj)} {value slice : Expr}
theorem item_sym {l : Addr} {vs : List Value} {n : Nat} {k : Int} {u : Tok} {x : Value} (N : News h₀ L s.heap news) (hm : (l, listOf vs.toArray n) ∈ news) (hd : Dig k) (hx : vs[k.toNat]? = some x) (h : Q x s)
    (hs : subscripted slice false (.ref l) (.int k u) = operate [.ref l, .int k u] (getItem (.ref l) (.int k u)) := by with_unfolding_all rfl) :
    wpAny (model prog w) A (subscriptTail value slice (.ref l) (.int k u)) Q E s :=
  item_here N hm (decide_eq_true ⟨hd.1, by have := hd.2; omega⟩) hx h hs
end
theorem wd_split {p : PM} {sm : SM} {a b c d al sh : Int} (h1 : al = p.at a b + p.at b c + p.at c d) (h2 : sh = sm.at 0 a + sm.at 1 b + sm.at 2 c + sm.at 3 d) : Wd p sm a b c d = al + sh := by
  unfold Wd; omega
end Mine
end
section
open PySem PySem.W PyProof.Rows PySem.Spec PySem.Calls
namespace Mine
noncomputable def flV : Flow → Value
  | .ret v => v
  | _ => .none
noncomputable abbrev PinZ (g : Heap) (L' : Addr) (pin : List (Addr × Obj)) (Post : Value → List (Addr × Obj) → Prop) (gn : Array GenState) (dr : Drawn) (os : OsState) (Z : Flow → Shared → Prop) : Prop :=
  ∀ tl h' m' tk' news' fl, Post (flV fl) tl → Fr g L' h' m' → News g L' h' news' → (∀ p ∈ tl, p ∈ news') → (∀ p ∈ pin, p ∈ news') → (∀ q ∈ pin, ∀ p ∈ tl, p.1 ≠ q.1) → Z fl (Shared.mk h' gn dr tk' os)
section
variable {prog : Program} {w : World} {A₀ A : Around} {s : Shared} {base h₀ : Heap} {outer : List Env} {L : Addr} {m : Str → Option Value} {env : Env} {pin news : List (Addr × Obj)} {K : Frag}
  {name qual : Str} {params : Arguments} {body : List Stmt} {scope : Scope} {dV kV doc pm cdv ct oc : Value} {an od : Option Addr} {osl : Array (Option Value)} {f : Addr} {vs : List Value} {binds : List (Str × Value)}
  {p : Program} {loose : List Str} {mean : ExcName → Option Value} {mg mb : Str → Option Value} {Q E : Value → Shared → Prop} {Post : Value → List (Addr × Obj) → Prop}
theorem pin_callZ (B : Below A₀ base outer h₀) (F : Fr h₀ L s.heap m) (X₀ : K.In h₀) (N : News h₀ L s.heap news) (T : Top p loose mean mg mb h₀) (hA : A.frames = some (env :: outer)) (hf : env.frame = some L) (hke : env.scope.kind = .function)
    (ho : K.lookup f = some ⟨oc, od, .func (fnOf name qual params body scope dV kV doc pm an cdv ct), osl⟩) (hcd : codeIn K cdv qual = true) (hroom : A.depth < recursionLimit)
    (hbind : BindsTo s (fnOf name qual params body scope dV kV doc pm an cdv ct) ⟨vs, []⟩ binds) (hloc : ∀ y ∈ binds, scope.names.lookup y.1 = some .local) (hp : ∀ p ∈ pin, p ∈ news) (k : PinRet h₀ L m news s Post Q)
    (h : ∀ g L' h₁ gn dr tk os Z, Fr h₀ L g m → let m₀ := fun y => binds.reverse.lookup y; Fr g L' h₁ m₀ → News g L' h₁ pin → Below A base (env :: outer) g → K.In g → Top p loose mean mg mb g → (∀ p ∈ pin, p.1 < L') →
      PinZ g L' pin Post gn dr os Z → let env' := envOf qual scope L' f cdv; let A' := A.deeper env';
      wpAny (model prog w) A' (execs body env') Z (fun _ _ => False) (Shared.mk h₁ gn dr tk os))
    (hco : scope.isCoroutine = false) (hgen : scope.isGenerator = false) (hk : scope.kind = .function)
    (hcell : ∀ x ∈ scope.names, x.2 ≠ .cell) : wpAny (model prog w) A (call (.ref f) vs) Q E s :=
  pin_call B F X₀ N T hA hf hke ho hcd hroom hbind hloc hp k (fun g L' h₁ FG F' N' B' X' T' l => h g L' h₁ s.gens s.drawn _ s.os _ FG F' N' B' X' T' l
    (fun tl h' m' tk' news' fl hP F N hs hs' hne => by cases fl <;> exact pin_end (s := s) tl hP F N hs hs' hne)) hco hgen hk hcell
theorem pin_callCZ (B : Below A₀ base outer h₀) (F : Fr h₀ L s.heap m) (X₀ : K.In h₀) (N : News h₀ L s.heap news) (T : Top p loose mean mg mb h₀) (hA : A.frames = some (env :: outer)) (hf : env.frame = some L) (hke : env.scope.kind = .function)
    (ho : K.lookup f = some ⟨oc, od, .func (fnOf name qual params body scope dV kV doc pm an cdv ct), osl⟩) (hcd : codeIn K cdv qual = true) (hroom : A.depth < recursionLimit)
    (hbind : BindsTo s (fnOf name qual params body scope dV kV doc pm an cdv ct) ⟨vs, []⟩ binds) (hkind : (binds.all fun y => scope.names.lookup y.1 == some .local || scope.names.lookup y.1 == some .cell) = true)
    (hnd : ((cellsFrom 0 scope.names []).map (·.1)).Nodup) (hp : ∀ p ∈ pin, p ∈ news) (k : PinRet h₀ L m news s Post Q)
    (h : ∀ g L' h₁ gn dr tk os Z cells, Fr h₀ L g m → let m₀ := bindL (envOfC qual scope L' f cdv).kindOf binds fun _ => none; Fr g L' h₁ m₀ → News g L' h₁ (cells ++ pin) →
      CellsAre (bindC (envOfC qual scope L' f cdv).kindOf binds fun _ => none) (cellsFrom (L' + 1) scope.names []) cells → Below A base (env :: outer) g → K.In g → Top p loose mean mg mb g → (∀ p ∈ pin, p.1 < L') →
      PinZ g L' pin Post gn dr os Z → let env' := envOfC qual scope L' f cdv; let A' := A.deeper env';
      wpAny (model prog w) A' (execs body env') Z (fun _ _ => False) (Shared.mk h₁ gn dr tk os))
    (hco : scope.isCoroutine = false) (hgen : scope.isGenerator = false) (hk : scope.kind = .function) : wpAny (model prog w) A (call (.ref f) vs) Q E s :=
  pin_callC B F X₀ N T hA hf hke ho hcd hroom hbind hkind hnd hp k (fun g L' h₁ tk cells FG F' N' Y B' X' T' l => h g L' h₁ s.gens s.drawn tk s.os _ cells FG F' N' Y B' X' T' l
    (fun tl h' m' tk' news' fl hP F N hs hs' hne => by cases fl <;> exact pin_end (s := s) tl hP F N hs hs' hne)) hco hgen hk
end
section
variable {M : Model} {A : Around} {h : Heap} {gn : Array GenState} {dr : Drawn} {tk : Nat} {os : OsState} {Q : Flow → Shared → Prop} {E : Value → Shared → Prop} {env : Env} {st : Stmt} {rest : List Stmt}
theorem execs_tk (k : ∀ tk, wpAny M A (exec st env) (fun fl s' => match fl with | .next => wpAny M A (execs rest env) Q E s' | f => Q f s') E (Shared.mk h gn dr tk os)) :
    wpAny M A (execs (st :: rest) env) Q E (Shared.mk h gn dr tk os) := wpAny_execs_cons (k tk)
end
section
variable {M : Model} {A : Around} {E : Value → Shared → Prop} {s : Shared} {h₀ : Heap} {L a : Addr} {m : Str → Option Value} {cn : Str} {cs : Scope} {ccd : Value} {cl : List (Str × Addr)}
  {x : Str} {v : Value} {Q : Unit → Shared → Prop} {news : List (Addr × Obj)}
theorem storeX_let (F : Fr h₀ L s.heap m) (N : News h₀ L s.heap news)
    (h : ∀ h', let m' := fun y => if y = x then some v else m y; Fr h₀ L h' m' → News h₀ L h' news → Q () { s with heap := h', toks := s.toks + 1 })
    (hk : cs.kind = .function := by rfl) (hx : (envX cn cs L a ccd cl).kindOf x = some .local := by rfl) : wpAny M A (storeName (envX cn cs L a ccd cl) x v) Q E s :=
  storeX_L F N h hk hx
end
end Mine
namespace Mine
noncomputable def NewsT (h₀ : Heap) (L : Addr) (h : Heap) (news : List (Addr × Obj)) : Prop := News h₀ L h news
theorem newsTr {h₀ : Heap} {L : Addr} {h : Heap} {news : List (Addr × Obj)} : NewsT h₀ L h news = News h₀ L h news := rfl
theorem newsT {h₀ : Heap} {L : Addr} {h : Heap} {p : Addr × Obj} {news : List (Addr × Obj)} : News h₀ L h (p :: news) = NewsT h₀ L h (p :: news) := rfl
end Mine
namespace Mine
end Mine
namespace Mine
noncomputable def OldD (D : Addr) (l : List (Addr × Obj)) : Prop := ∀ p ∈ l, p.1 < D
noncomputable abbrev Old (l : List (Addr × Obj)) (D : Addr) : Prop := ∀ p ∈ l, p.1 < D
theorem OldD.of {l : List (Addr × Obj)} {D : Addr} (h : ∀ p ∈ l, p.1 < D) : OldD D l := h
theorem OldD.ne {l : List (Addr × Obj)} {a D : Addr} {o : Obj} (h : OldD D l) (hm : (a, o) ∈ l) : @Ne Nat a D := Nat.ne_of_lt (h _ hm)
theorem OldD.off {l l' : List (Addr × Obj)} {D : Addr} (h : OldD D l) (hs : ∀ p ∈ l', p ∈ l) : ∀ p ∈ l', p.1 ≠ D := fun p hp => Nat.ne_of_lt (h p (hs p hp))
theorem off1_mem {D : Addr} : ∀ {l : List (Addr × Obj)}, LCg.Off1 D l → ∀ p ∈ l, p.1 ≠ D
  | [], _, _, h => nomatch h
  | _ :: _, x, p, h => by
    rcases List.mem_cons.mp h with rfl | h
    · exact x.1
    · exact off1_mem x.2 p h
theorem o1_ne {l : List (Addr × Obj)} {a D : Addr} {o : Obj} (h : LCg.Off1 D l) (hm : (a, o) ∈ l) : @Ne Nat a D := off1_mem h _ hm
theorem o3_I {l : List (Addr × Obj)} {a I C D : Addr} {o : Obj} (h : LCg.Off3 I C D l) (hm : (a, o) ∈ l) : @Ne Nat a I := (LCg.Off3.mem h _ hm).1
theorem o3_C {l : List (Addr × Obj)} {a I C D : Addr} {o : Obj} (h : LCg.Off3 I C D l) (hm : (a, o) ∈ l) : @Ne Nat a C := (LCg.Off3.mem h _ hm).2.1
theorem o3_D {l : List (Addr × Obj)} {a I C D : Addr} {o : Obj} (h : LCg.Off3 I C D l) (hm : (a, o) ∈ l) : @Ne Nat a D := (LCg.Off3.mem h _ hm).2.2
theorem na_ne {tl l : List (Addr × Obj)} {a b : Addr} {o o' : Obj} (h : NeAll tl l) (ha : (a, o) ∈ tl) (hb : (b, o') ∈ l) : @Ne Nat a b := h _ hb _ ha
theorem na_off {tl l l' : List (Addr × Obj)} {a : Addr} {o : Obj} (h : NeAll tl l) (ha : (a, o) ∈ tl) (hs : ∀ p ∈ l', p ∈ l) : ∀ p ∈ l', p.1 ≠ a := fun p hp => Ne.symm (h _ (hs p hp) _ ha)
theorem sub_tl {l l' : List (Addr × Obj)} {a : Addr × Obj} (h : ∀ p ∈ l', p ∈ l) : ∀ p ∈ l', p ∈ a :: l := fun p hp => .tail _ (h p hp)
end Mine
namespace Mine
theorem cell_ne {a i j : Nat} (h : Nat.beq i j = false) : @Ne Nat (a + i) (a + j) := fun e => by
  have : i = j := Nat.add_left_cancel e
  rw [this] at h
  simp at h
end Mine
namespace Mine
noncomputable def OffD (D : Addr) (l : List (Addr × Obj)) : Prop := ∀ p ∈ l, p.1 ≠ D
theorem OffD.of {l : List (Addr × Obj)} {D : Addr} (h : ∀ p ∈ l, p.1 < D) : OffD D l := fun p hp => Nat.ne_of_lt (h p hp)
theorem OffD.of1 {l : List (Addr × Obj)} {D : Addr} (h : LCg.Off1 D l) : OffD D l := off1_mem h
theorem OffD.ne {y9l : List (Addr × Obj)} {y9a y9D : Addr} {y9o : Obj} (x9h : OffD y9D y9l) (x9hm : (y9a, y9o) ∈ y9l) : @Ne Nat y9a y9D := x9h _ x9hm
theorem OffD.off {y9l y9k : List (Addr × Obj)} {y9D : Addr} (x9h : OffD y9D y9l) (x9hs : ∀ p ∈ y9k, p ∈ y9l) : ∀ p ∈ y9k, p.1 ≠ y9D := fun p hp => x9h p (x9hs p hp)
end Mine
end
section
open PySem PySem.W PyProof.Rows PySem.Spec PySem.Calls
namespace Mine
noncomputable def PureB (w : World) (f : Addr) (d : Nat) (vs : List Value) (Pre : Heap → Prop) (Post : Value → List (Addr × Obj) → Prop) : Prop :=
  ∀ (loose : List Str) (mean : ExcName → Option Value) (mg mb : Str → Option Value) (dp un : Nat) (gd : Option (List Code)) (cn : Str) (cs : Scope) (a : Addr) (ccd : Value) (cl : List (Str × Addr)) (outer : List Env) (A₀ : Around) (base h₀ : Heap) (L : Addr) (m : Str → Option Value) (news : List (Addr × Obj)) (s : Shared) (Q E : Value → Shared → Prop),
    Below A₀ base outer h₀ → Fr h₀ L s.heap m → (hd.heap_1 w.params).In h₀ → News h₀ L s.heap news → Top vw loose mean mg mb h₀ → cs.kind = .function →
    Pre s.heap → dp + d < recursionLimit → un + 8 * d < cLine → PinRet h₀ L m news s Post Q →
    wpAny (model PySem.Challenge.pw_xg0033_01 w) (ktrTop dp un gd cn cs L a ccd cl outer) (call (.ref f) vs) Q E s
theorem Pure.ofB {w : World} {f : Addr} {d : Nat} {vs : List Value} {pin : List (Addr × Obj)} {Pre : Heap → Prop} {Post : Value → List (Addr × Obj) → Prop} (P : PureB w f d vs Pre Post) (hp : ∀ h : Heap, (∀ p ∈ pin, h.get? p.1 = some p.2) → Pre h) : Pure w f d vs pin Post :=
  fun loose mean mg mb dp un gd cn cs a ccd cl outer A₀ base h₀ L m news s Q E B F X N T hk hpin hd hu k => P loose mean mg mb dp un gd cn cs a ccd cl outer A₀ base h₀ L m news s Q E B F X N T hk (hp _ fun p hpp => (N p (hpin p hpp)).1) hd hu k
noncomputable def EndB (g : Heap) (L' : Addr) (Post : Value → List (Addr × Obj) → Prop) (gn : Array GenState) (dr : Drawn) (os : OsState) (Z : Flow → Shared → Prop) : Prop :=
  ∀ tl h' m' tk' news' fl, Post (flV fl) tl → Fr g L' h' m' → News g L' h' news' → (∀ p ∈ tl, p ∈ news') → Z fl (Shared.mk h' gn dr tk' os)
section
variable {w : World} {f : Addr} {d : Nat} {vs : List Value} {Pre : Heap → Prop} {Post : Value → List (Addr × Obj) → Prop}
  {name qual : Str} {params : Arguments} {body : List Stmt} {scope : Scope} {dV kV doc pm cdv ct oc : Value} {an od : Option Addr} {osl : Array (Option Value)} {binds : List (Str × Value)} {cl : Addr → List (Str × Addr)}
theorem B_room {dp d : Nat} (h : dp + (d + 1) < recursionLimit) : dp + 1 + d < recursionLimit := by omega
theorem B_units {un d : Nat} (h : un + 8 * (d + 1) < cLine) : un + 3 + 8 * d < cLine := by omega
theorem room_le {a n m : Nat} (h : a + n < recursionLimit) (k : Nat.ble m n = true) : a + m < recursionLimit := Nat.lt_of_le_of_lt (Nat.add_le_add_left (Nat.le_of_ble_eq_true k) a) h
theorem units_le {a n m : Nat} (h : a + 8 * n < cLine) (k : Nat.ble m n = true) : a + 8 * m < cLine := Nat.lt_of_le_of_lt (Nat.add_le_add_left (Nat.mul_le_mul_left 8 (Nat.le_of_ble_eq_true k)) a) h
section
variable {h₀ base : Heap} {L : Addr} {m : Str → Option Value} {news : List (Addr × Obj)} {s : Shared} {Q : Value → Shared → Prop}
theorem back_B (F : Fr h₀ L s.heap m) (N : News h₀ L s.heap news) (k : PinRet h₀ L m news s Post Q) {L' : Addr} : EndB s.heap L' Post s.gens s.drawn s.os (fun fl s' => Q (flV fl) s') := fun tl h' m' tk' news' fl hP F' N' hs =>
  pin_back (pin := []) (g := s.heap) F N (fun b o e _ => e) (fun _ h => nomatch h) k ⟨tl, m', h', tk', rfl, F', fun p hp => (List.mem_append.mp hp).elim (fun h => N' p (hs p h)) (fun h => by cases h), (fun _ h => nomatch h), hP⟩
end
theorem openB (binds : List (Str × Value)) (ho : (hd.heap_1 w.params).lookup f = some ⟨oc, od, .func (fnOf name qual params body scope dV kV doc pm an cdv ct), osl⟩) (hcd : codeIn (hd.heap_1 w.params) cdv qual = true)
    (hbind : ∀ s, BindsTo s (fnOf name qual params body scope dV kV doc pm an cdv ct) ⟨vs, []⟩ binds) (hloc : ∀ y ∈ binds, scope.names.lookup y.1 = some .local)
    (hco : scope.isCoroutine = false) (hgen : scope.isGenerator = false) (hk : scope.kind = .function) (hcell : ∀ x ∈ scope.names, x.2 ≠ .cell)
    (h : ∀ loose mean mg mb dp un gd outer A₀ base g L' h₁ gn dr tk os Z, let m₀ := fun y => binds.reverse.lookup y; Pre g → Fr g L' h₁ m₀ → News g L' h₁ [] → Below A₀ base outer g → (hd.heap_1 w.params).In g → Top vw loose mean mg mb g →
      dp + d < recursionLimit → un + 8 * d < cLine → EndB g L' Post gn dr os Z → let env' := envX qual scope L' f cdv []; let A' := ktrTop dp un gd qual scope L' f cdv [] outer;
      wpAny (model PySem.Challenge.pw_xg0033_01 w) A' (execs body env') Z (fun _ _ => False) (Shared.mk h₁ gn dr tk os)) : PureB w f (d + 1) vs Pre Post := by
  intro loose mean mg mb dp un gd cn cs a ccd cl outer A₀ base h₀ L m news s Q E B F X₀ N T hks hpre hdp hun k
  obtain ⟨FG, BG, st, _⟩ := groundX (A := ktrTop dp un gd cn cs L a ccd cl outer) (env := envX cn cs L a ccd cl) (R := fun _ _ => True) (news := []) B F News.nil rfl rfl hks
  refine wpAny_call (codeAny_call_def (fd := fnX name qual params body scope [] dV kV doc pm an cdv ct) (body := body) (binds := binds) (by show dp < _; omega) ((X₀.keeps F.keep) _ _ ho) rfl (T.nolimit.keeps F.keep) (codeRec_of (X₀.keeps F.keep) hcd) rfl (hbind s) hcell hloc (fun h₁ hns hk₁ => ?_) hco hgen hk)
  refine wpAny_mono (h loose mean mg mb (dp + 1) (un + 3) gd _ _ base s.heap s.heap.objs.size h₁ s.gens s.drawn _ s.os (fun fl s' => Q (flV fl) s') hpre ⟨hns, fun b o e => hk₁ b o e, Nat.le_refl _⟩ News.nil BG (X₀.keeps st) (T.keeps st) (B_room hdp) (B_units hun) (back_B F N k)) (fun fl s' e => by cases fl <;> exact e) fun _ _ x => x.elim
theorem openCB (binds : List (Str × Value)) (cl : Addr → List (Str × Addr)) (ho : (hd.heap_1 w.params).lookup f = some ⟨oc, od, .func (fnOf name qual params body scope dV kV doc pm an cdv ct), osl⟩) (hcd : codeIn (hd.heap_1 w.params) cdv qual = true)
    (hbind : ∀ s, BindsTo s (fnOf name qual params body scope dV kV doc pm an cdv ct) ⟨vs, []⟩ binds) (hkind : (binds.all fun y => scope.names.lookup y.1 == some .local || scope.names.lookup y.1 == some .cell) = true)
    (hnd : ((cellsFrom 0 scope.names []).map (·.1)).Nodup) (hco : scope.isCoroutine = false) (hgen : scope.isGenerator = false) (hk : scope.kind = .function) (hcl : ∀ L', cellsFrom (L' + 1) scope.names [] = cl L')
    (h : ∀ loose mean mg mb dp un gd outer A₀ base g L' h₁ gn dr tk os Z cells, let env' := envX qual scope L' f cdv (cl L'); let m₀ := bindL env'.kindOf binds fun _ => none; Pre g → Fr g L' h₁ m₀ → News g L' h₁ cells → CellsAre (bindC env'.kindOf binds fun _ => none) (cl L') cells → Below A₀ base outer g → (hd.heap_1 w.params).In g → Top vw loose mean mg mb g →
      dp + d < recursionLimit → un + 8 * d < cLine → EndB g L' Post gn dr os Z → let A' := ktrTop dp un gd qual scope L' f cdv (cl L') outer;
      wpAny (model PySem.Challenge.pw_xg0033_01 w) A' (execs body env') Z (fun _ _ => False) (Shared.mk h₁ gn dr tk os)) : PureB w f (d + 1) vs Pre Post := by
  intro loose mean mg mb dp un gd cn cs a ccd cl' outer A₀ base h₀ L m news s Q E B F X₀ N T hks hpre hdp hun k
  obtain ⟨FG, BG, st, _⟩ := groundX (A := ktrTop dp un gd cn cs L a ccd cl' outer) (env := envX cn cs L a ccd cl') (R := fun _ _ => True) (news := []) B F News.nil rfl rfl hks
  refine wpAny_call (codeAny_call_function (by show dp < _; omega) ((X₀.keeps F.keep) _ _ ho) rfl hco hgen rfl (codeRec_of (X₀.keeps F.keep) hcd) (hbind s _ _ _ _ ?_))
  refine wpAny_newFunctionEnv_cells hk (kindsX hkind _) fun env' he s' x => ?_
  subst he
  refine ⟨(T.nolimit.keeps F.keep).keeps x.toInCall.keep, codeAny_func ?_⟩
  obtain ⟨h₁, tk, rfl, _⟩ := x.done
  have hk₁ := x.toInCall.keep
  obtain ⟨cells, NC, Y⟩ := Cl.news (h₀ := s.heap) (Nat.le_refl _) fun n c hm => ⟨x.cell n c (lookup_of_mem_nodup (cellsFrom_names scope.names 0 (s.heap.objs.size + 1) [] [] rfl ▸ hnd) hm), x.above n c hm⟩
  have hns := x.toInCall.ns
  have hh := h loose mean mg mb (dp + 1) (un + 3) gd (envX cn cs L a ccd cl' :: outer) ((ktrTop dp un gd cn cs L a ccd cl' outer)) base s.heap s.heap.objs.size h₁ s.gens s.drawn tk s.os (fun fl s' => Q (flV fl) s') cells
  rw [← hcl s.heap.objs.size] at hh
  exact wpAny_mono (hh hpre ⟨hns, fun b o e => hk₁ b o e, Nat.le_refl _⟩ NC Y BG (X₀.keeps st) (T.keeps st) (B_room hdp) (B_units hun) (back_B F N k)) (fun fl s' e => by cases fl <;> exact e) fun _ _ x => x.elim
end
end Mine
end
section
open PySem PySem.W PyProof.Rows PySem.Spec PySem.Calls PyProof.V
namespace Mine
noncomputable def RowAt (h : Heap) (r : Addr) (f : Int → Int) : Prop := ∃ t1 t2 t3 n, h.get? r = some (listOf #[.int (f 0) t1, .int (f 1) t2, .int (f 2) t3] n)
noncomputable def PMAt (h : Heap) (P : Addr) (p : Int → Int → Int) : Prop := ∃ p0 p1 p2 n, h.get? P = some (listOf #[.ref p0, .ref p1, .ref p2] n) ∧ RowAt h p0 (p 0) ∧ RowAt h p1 (p 1) ∧ RowAt h p2 (p 2)
noncomputable def SMAt (h : Heap) (P : Addr) (p : Int → Int → Int) : Prop := ∃ p0 p1 p2 p3 n, h.get? P = some (listOf #[.ref p0, .ref p1, .ref p2, .ref p3] n) ∧ RowAt h p0 (p 0) ∧ RowAt h p1 (p 1) ∧ RowAt h p2 (p 2) ∧ RowAt h p3 (p 3)
section
variable {prog : Program} {w : World} {A : Around} {E : Value → Shared → Prop} {s : Shared} {Q : Value → Shared → Prop} {g : Heap} {L : Addr} {m : Str → Option Value} {value slice : Expr}
theorem item_b {l : Addr} {vs : List Value} {n : Nat} {k : Int} {u : Tok} {x : Value} (F : Fr g L s.heap m) (hm : g.get? l = some (listOf vs.toArray n)) (h0 : 0 ≤ k) (h1 : k < 2 ^ 63) (hx : vs[k.toNat]? = some x) (h : Q x s)
    (hs : subscripted slice false (.ref l) (.int k u) = operate [.ref l, .int k u] (getItem (.ref l) (.int k u)) := by with_unfolding_all rfl) :
    wpAny (model prog w) A (subscriptTail value slice (.ref l) (.int k u)) Q E s := by
  have hl : s.heap.IsList l vs.toArray := ⟨_, F.keep _ _ hm, rfl, _, rfl⟩
  exact tail_any hl.typeIs slot_list_getitem.lookup (wpAny_getItem_list hl h0 h1 (by simpa using hx) h) hs
theorem three {v : Int} (h : 0 ≤ v ∧ v < 3) : v = 0 ∨ v = 1 ∨ v = 2 := by
  obtain ⟨n, rfl⟩ := Int.eq_ofNat_of_zero_le h.1
  match n, Int.ofNat_lt.mp h.2 with
  | 0, _ => exact .inl rfl
  | 1, _ => exact .inr (.inl rfl)
  | 2, _ => exact .inr (.inr rfl)
  | n + 3, h => exact absurd h (Nat.not_lt.mpr (Nat.le_add_left 3 n))
theorem four {v : Int} (h : 0 ≤ v ∧ v < 4) : v = 0 ∨ v = 1 ∨ v = 2 ∨ v = 3 := by
  obtain ⟨n, rfl⟩ := Int.eq_ofNat_of_zero_le h.1
  match n, Int.ofNat_lt.mp h.2 with
  | 0, _ => exact .inl rfl
  | 1, _ => exact .inr (.inl rfl)
  | 2, _ => exact .inr (.inr (.inl rfl))
  | 3, _ => exact .inr (.inr (.inr rfl))
  | n + 4, h => exact absurd h (Nat.not_lt.mpr (Nat.le_add_left 4 n))
theorem row_b {r : Addr} {f : Int → Int} {v : Int} {u : Tok} (F : Fr g L s.heap m) (H : RowAt g r f) (hv : 0 ≤ v ∧ v < 3) (k : ∀ t, Q (.int (f v) t) s)
    (hs : subscripted slice false (.ref r) (.int v u) = operate [.ref r, .int v u] (getItem (.ref r) (.int v u)) := by with_unfolding_all rfl) :
    wpAny (model prog w) A (subscriptTail value slice (.ref r) (.int v u)) Q E s := by
  obtain ⟨t1, t2, t3, n, e⟩ := H
  rcases three hv with rfl | rfl | rfl
  · exact item_b F e (by decide) (by decide) rfl (k t1) hs
  · exact item_b F e (by decide) (by decide) rfl (k t2) hs
  · exact item_b F e (by decide) (by decide) rfl (k t3) hs
theorem pm_b {r : Addr} {p : Int → Int → Int} {v : Int} {u : Tok} (F : Fr g L s.heap m) (H : PMAt g r p) (hv : 0 ≤ v ∧ v < 3) (k : ∀ r, RowAt g r (p v) → Q (.ref r) s)
    (hs : subscripted slice false (.ref r) (.int v u) = operate [.ref r, .int v u] (getItem (.ref r) (.int v u)) := by with_unfolding_all rfl) :
    wpAny (model prog w) A (subscriptTail value slice (.ref r) (.int v u)) Q E s := by
  refine byG (fun P9 hP9 => ?_)
  obtain ⟨p0, p1, p2, n, e, h0, h1, h2⟩ := H
  refine hP9 ?_
  clear hP9 P9
  rcases three hv with rfl | rfl | rfl
  · exact item_b F e (by decide) (by decide) rfl (k p0 h0) hs
  · exact item_b F e (by decide) (by decide) rfl (k p1 h1) hs
  · exact item_b F e (by decide) (by decide) rfl (k p2 h2) hs
theorem sm_b {r : Addr} {p : Int → Int → Int} {v : Int} {u : Tok} (F : Fr g L s.heap m) (H : SMAt g r p) (hv : 0 ≤ v ∧ v < 4) (k : ∀ r, RowAt g r (p v) → Q (.ref r) s)
    (hs : subscripted slice false (.ref r) (.int v u) = operate [.ref r, .int v u] (getItem (.ref r) (.int v u)) := by with_unfolding_all rfl) :
    wpAny (model prog w) A (subscriptTail value slice (.ref r) (.int v u)) Q E s := by
  obtain ⟨p0, p1, p2, p3, n, e, h0, h1, h2, h3⟩ := H
  rcases four hv with rfl | rfl | rfl | rfl
  · exact item_b F e (by decide) (by decide) rfl (k p0 h0) hs
  · exact item_b F e (by decide) (by decide) rfl (k p1 h1) hs
  · exact item_b F e (by decide) (by decide) rfl (k p2 h2) hs
  · exact item_b F e (by decide) (by decide) rfl (k p3 h3) hs
end
noncomputable abbrev TabsAt (P M : Addr) (p : PM) (sm : SM) (h : Heap) : Prop := PMAt h P p.at ∧ SMAt h M sm.at
theorem TabsAt.of {P p0 p1 p2 M m0 m1 m2 m3 : Addr} {n n0 n1 n2 l l0 l1 l2 l3 : Nat} {p : PM} {sm : SM} {t1 t2 t3 t4 t5 t6 t7 t8 t9 u1 u2 u3 u4 u5 u6 u7 u8 u9 u10 u11 u12 : Tok} (h : Heap)
    (H : ∀ q ∈ PM.led P p0 p1 p2 n n0 n1 n2 p t1 t2 t3 t4 t5 t6 t7 t8 t9 ++ SM.led M m0 m1 m2 m3 l l0 l1 l2 l3 sm u1 u2 u3 u4 u5 u6 u7 u8 u9 u10 u11 u12, h.get? q.1 = some q.2) : TabsAt P M p sm h := by
  simp only [PM.led, SM.led, List.cons_append, List.nil_append, List.forall_mem_cons] at H
  refine byG (fun P9 hP9 => ?_)
  obtain ⟨a0, a1, a2, a3, b0, b1, b2, b3, b4, _⟩ := H
  refine hP9 ?_
  clear hP9 P9
  exact ⟨⟨p0, p1, p2, n, a0, ⟨t1, t2, t3, n0, a1⟩, ⟨t4, t5, t6, n1, a2⟩, ⟨t7, t8, t9, n2, a3⟩⟩, ⟨m0, m1, m2, m3, l, b0, ⟨u1, u2, u3, l0, b1⟩, ⟨u4, u5, u6, l1, b2⟩, ⟨u7, u8, u9, l2, b3⟩, ⟨u10, u11, u12, l3, b4⟩⟩⟩
end Mine
namespace Mine
section
variable {prog : Program} {w : World} {A : Around} {E : Value → Shared → Prop} {s : Shared} {Q : Value → Shared → Prop} {g : Heap} {L : Addr} {m : Str → Option Value} {news : List (Addr × Obj)}
theorem sum3_N {l : Addr} {a b c : Int} {t1 t2 t3 : Tok} {n : Nat} (hh : A.handled = none) (F : Fr g L s.heap m) (N : News g L s.heap news) (hm : (l, listOf [.int a t1, .int b t2, .int c t3].toArray n) ∈ news)
    (h : ∀ h' tk t', Fr g L h' m → News g L h' news → Q (.int (a + b + c) t') { s with heap := h', toks := tk }) : wpAny (model prog w) A (call (.builtin "sum") [.ref l]) Q E s :=
  sumK (ns := [a, b, c]) hh F N (N.isList hm) (.cons _ _ (.cons _ _ (.cons _ _ .nil))) fun h' tk t' F' N' => by
    have e : ([a, b, c] : List Int).sum = a + b + c := by simp [List.sum_cons]; omega
    rw [e]; exact h h' tk t' F' N'
theorem sum4_N {l : Addr} {a b c d : Int} {t1 t2 t3 t4 : Tok} {n : Nat} (hh : A.handled = none) (F : Fr g L s.heap m) (N : News g L s.heap news) (hm : (l, listOf [.int a t1, .int b t2, .int c t3, .int d t4].toArray n) ∈ news)
    (h : ∀ h' tk t', Fr g L h' m → News g L h' news → Q (.int (a + b + c + d) t') { s with heap := h', toks := tk }) : wpAny (model prog w) A (call (.builtin "sum") [.ref l]) Q E s :=
  sumK (ns := [a, b, c, d]) hh F N (N.isList hm) (.cons _ _ (.cons _ _ (.cons _ _ (.cons _ _ .nil)))) fun h' tk t' F' N' => by
    have e : ([a, b, c, d] : List Int).sum = a + b + c + d := by simp [List.sum_cons]; omega
    rw [e]; exact h h' tk t' F' N'
end
theorem news_tl {g : Heap} {L : Addr} {h : Heap} {q : Addr × Obj} {l : List (Addr × Obj)} (N : News g L h (q :: l)) : News g L h l := fun p hp => N p (.tail _ hp)
end Mine
end
section
open PySem PySem.W PyProof.Rows PySem.Spec PySem.Calls PyProof.V
namespace Mine
noncomputable abbrev Plain (i : Expr) : Prop := ∀ (r : Addr) (v : Int) (t : Tok), subscripted i false (.ref r) (.int v t) = operate [.ref r, .int v t] (getItem (.ref r) (.int v t))
noncomputable abbrev NoStar (e : Expr) : Prop := ∀ (rest : List Expr) (env : Env), starEach (e :: rest) env = (false, eval e env) :: starEach rest env
structure Cx where
  w : World
  A : Around
  E : Value → Shared → Prop
  env : Env
  h : Heap
  gn : Array GenState
  dr : Drawn
  os : OsState
structure Ev (C : Cx) (e : Expr) (f : Tok → Value) : Prop where
  run : ∀ (Q : Value → Shared → Prop) (tk : Nat), (∀ t tk', Q (f t) (Shared.mk C.h C.gn C.dr tk' C.os)) → wpAny (model prg C.w) C.A (eval e C.env) Q C.E (Shared.mk C.h C.gn C.dr tk C.os)
section
variable {C : Cx} {y9e y9l y9r y9i y9j : Expr} {y9f f1 f2 f3 f4 f5 : Tok → Value} {y9a y9b y9u y9v y9n : Int} {y9pos y9posp : Pos} {k : Nat} {y9g : Heap} {y9L : Addr} {y9m : Str → Option Value} {y9x : Str} {y9led : List (Addr × Obj)}
theorem Ev.int : Ev C (.Constant (.int y9n) k y9pos) (Value.int y9n) := .mk fun Q tk h => wpAny_Constant_int (h _ _)
theorem Ev.str {y9s : Str} : Ev C (.Constant (.str y9s) k y9pos) (Value.str y9s) := .mk fun Q tk h => Constant_str (h _ _)
theorem Ev.add (x9hl : Ev C y9l (Value.int y9a)) (x9hr : Ev C y9r (Value.int y9b)) : Ev C (.BinOp y9l .Add y9r y9pos) (Value.int (y9a + y9b)) := .mk fun Q tk x9h => wpAny_BinOp (x9hl.run _ _ fun y9t tk' => x9hr.run _ _ fun t' tk'' => add_int (x9h _ _))
theorem Ev.sub (x9hl : Ev C y9l (Value.int y9a)) (x9hr : Ev C y9r (Value.int y9b)) : Ev C (.BinOp y9l .Sub y9r y9pos) (Value.int (y9a - y9b)) := .mk fun Q tk x9h => wpAny_BinOp (x9hl.run _ _ fun y9t tk' => x9hr.run _ _ fun t' tk'' => sub_int (x9h _ _))
theorem Ev.wk {y9t : Tok} (x9h : Ev C y9e (fun _ => .int y9n y9t)) : Ev C y9e (Value.int y9n) := .mk fun Q tk k => x9h.run Q tk fun _ tk' => k y9t tk'
theorem Ev.of {v : Value} (h : ∀ (Q : Value → Shared → Prop) (tk : Nat), Q v (Shared.mk C.h C.gn C.dr tk C.os) → wpAny (model prg C.w) C.A (eval y9e C.env) Q C.E (Shared.mk C.h C.gn C.dr tk C.os)) : Ev C y9e (fun _ => v) := .mk fun Q tk k => h Q tk (k 0 tk)
theorem Ev.pm2 {y9P : Addr} {y9p : Int → Int → Int} (x9he : Ev C y9e (fun _ => .ref y9P)) (x9F : Fr y9g y9L C.h y9m) (x9H : PMAt y9g y9P y9p) (x9hi : Ev C y9i (Value.int y9u)) (x9hj : Ev C y9j (Value.int y9v)) (x9hu : 0 ≤ y9u ∧ y9u < 3) (x9hv : 0 ≤ y9v ∧ y9v < 3) (x9s1 : Plain y9i) (x9s2 : Plain y9j) : Ev C (.Subscript (.Subscript y9e y9i y9pos) y9j y9posp) (Value.int (y9p y9u y9v)) := .mk fun Q tk k =>
  Subscript_ (Subscript_ (x9he.run _ _ fun _ _ => x9hi.run _ _ fun _ _ => pm_b x9F x9H x9hu (hs := x9s1 _ _ _) fun y9r H' => x9hj.run _ _ fun _ _ => row_b x9F H' x9hv (fun y9t => k y9t _) (x9s2 _ _ _)))
theorem Ev.sm2 {y9P : Addr} {y9p : Int → Int → Int} (x9he : Ev C y9e (fun _ => .ref y9P)) (x9F : Fr y9g y9L C.h y9m) (x9H : SMAt y9g y9P y9p) (x9hi : Ev C y9i (Value.int y9u)) (x9hj : Ev C y9j (Value.int y9v)) (x9hu : 0 ≤ y9u ∧ y9u < 4) (x9hv : 0 ≤ y9v ∧ y9v < 3) (x9s1 : Plain y9i) (x9s2 : Plain y9j) : Ev C (.Subscript (.Subscript y9e y9i y9pos) y9j y9posp) (Value.int (y9p y9u y9v)) := .mk fun Q tk k =>
  Subscript_ (Subscript_ (x9he.run _ _ fun _ _ => x9hi.run _ _ fun _ _ => sm_b x9F x9H x9hu (hs := x9s1 _ _ _) fun y9r H' => x9hj.run _ _ fun _ _ => row_b x9F H' x9hv (fun y9t => k y9t _) (x9s2 _ _ _)))
theorem Ev.rowN {y9R : Addr} {y9q : Int → Int} (x9he : Ev C y9e (fun _ => .ref y9R)) (x9F : Fr y9g y9L C.h y9m) (x9H : RowAt y9g y9R y9q) (x9hj : Ev C y9j (Value.int y9v)) (x9hv : 0 ≤ y9v ∧ y9v < 3) (x9s2 : Plain y9j) : Ev C (.Subscript y9e y9j y9posp) (Value.int (y9q y9v)) := .mk fun Q tk k =>
  Subscript_ (x9he.run _ _ fun _ _ => x9hj.run _ _ fun _ _ => row_b x9F x9H x9hv (fun y9t => k y9t _) (x9s2 _ _ _))
theorem Ev.itL {y9lp : Addr} {y9vs : List Value} {y9nn : Nat} {y9y : Value} (x9he : Ev C y9e (fun _ => .ref y9lp)) (x9N : News y9g y9L C.h y9led) (x9hm : (y9lp, listOf y9vs.toArray y9nn) ∈ y9led) (x9hi : Ev C y9i (Value.int y9u)) (x9hk : decide (0 ≤ y9u ∧ y9u < 2 ^ 63) = true) (x9hx : y9vs[y9u.toNat]? = some y9y) (x9s1 : Plain y9i) : Ev C (.Subscript y9e y9i y9pos) (fun _ => y9y) := .mk fun Q tk k =>
  Subscript_ (x9he.run _ _ fun _ _ => x9hi.run _ _ fun _ _ => item_here (s := Shared.mk C.h C.gn C.dr _ C.os) x9N x9hm x9hk x9hx (k 0 _) (x9s1 _ _ _))
end
section
variable {w : World} {A : Around} {E : Value → Shared → Prop} {env : Env} {h : Heap} {gn : Array GenState} {dr : Drawn} {os : OsState} {tk : Nat} {e e1 e2 e3 e4 e5 : Expr} {f f1 f2 f3 f4 f5 : Tok → Value} {Q : Value → Shared → Prop} {R : List Value → Shared → Prop} {pos : Pos}
theorem Ev.go (hev : let C : Cx := ⟨w, A, E, env, h, gn, dr, os⟩; Ev C e f) (k : ∀ t tk', Q (f t) (Shared.mk h gn dr tk' os)) : wpAny (model prg w) A (eval e env) Q E (Shared.mk h gn dr tk os) := hev.run Q tk k
theorem Ev.go1 (hev : let C : Cx := ⟨w, A, E, env, h, gn, dr, os⟩; Ev C e1 f1) (s1 : NoStar e1) (k : ∀ t tk', R [f1 t] (Shared.mk h gn dr tk' os)) : wpAny (model prg w) A (spliced (backTo pos (starEach [e1] env))) R E (Shared.mk h gn dr tk os) :=
  args_cons ((hev).run _ _ fun t tk' => args_nil (k t tk')) (s1 _ _)
theorem Ev.go2 (hev : let C : Cx := ⟨w, A, E, env, h, gn, dr, os⟩; Ev C e1 f1 ∧ Ev C e2 f2) (s : NoStar e1 ∧ NoStar e2) (k : ∀ t1 t2 tk', R [f1 t1, f2 t2] (Shared.mk h gn dr tk' os)) : wpAny (model prg w) A (spliced (backTo pos (starEach [e1, e2] env))) R E (Shared.mk h gn dr tk os) :=
  args_cons ((hev.1).run _ _ fun t1 _ => args_cons ((hev.2).run _ _ fun t2 tk' => args_nil (k t1 t2 tk')) (s.2 _ _)) (s.1 _ _)
theorem Ev.go3 (hev : let C : Cx := ⟨w, A, E, env, h, gn, dr, os⟩; Ev C e1 f1 ∧ Ev C e2 f2 ∧ Ev C e3 f3) (s : NoStar e1 ∧ NoStar e2 ∧ NoStar e3) (k : ∀ t1 t2 t3 tk', R [f1 t1, f2 t2, f3 t3] (Shared.mk h gn dr tk' os)) : wpAny (model prg w) A (spliced (backTo pos (starEach [e1, e2, e3] env))) R E (Shared.mk h gn dr tk os) :=
  args_cons ((hev.1).run _ _ fun t1 _ => args_cons ((hev.2.1).run _ _ fun t2 _ => args_cons ((hev.2.2).run _ _ fun t3 tk' => args_nil (k t1 t2 t3 tk')) (s.2.2 _ _)) (s.2.1 _ _)) (s.1 _ _)
theorem Ev.go4 {rest : List Expr} (hev : let C : Cx := ⟨w, A, E, env, h, gn, dr, os⟩; Ev C e1 f1 ∧ Ev C e2 f2 ∧ Ev C e3 f3 ∧ Ev C e4 f4) (s : NoStar e1 ∧ NoStar e2 ∧ NoStar e3 ∧ NoStar e4) (k : ∀ t1 t2 t3 t4 tk', wpAny (model prg w) A (spliced (backTo pos (starEach rest env))) (fun vs s => R (f1 t1 :: f2 t2 :: f3 t3 :: f4 t4 :: vs) s) E (Shared.mk h gn dr tk' os)) : wpAny (model prg w) A (spliced (backTo pos (starEach (e1 :: e2 :: e3 :: e4 :: rest) env))) R E (Shared.mk h gn dr tk os) :=
  args_cons ((hev.1).run _ _ fun t1 _ => args_cons ((hev.2.1).run _ _ fun t2 _ => args_cons ((hev.2.2.1).run _ _ fun t3 _ => args_cons ((hev.2.2.2).run _ _ fun t4 tk' => k t1 t2 t3 t4 tk') (s.2.2.2 _ _)) (s.2.2.1 _ _)) (s.2.1 _ _)) (s.1 _ _)
end
section
variable {C : Cx} {x : Str} {pos : Pos} {v : Value} {n : Int} {t : Tok} {g : Heap} {L a c : Addr} {m mg mb : Str → Option Value} {cn : Str} {cs : Scope} {ccd : Value} {cl : List (Str × Addr)} {led : List (Addr × Obj)} {o : Obj}
theorem Ev.nL (F : Fr g L C.h m) (hv : m x = some v) (he : C.env = envX cn cs L a ccd cl) (hk : cs.kind = .function) (hx : cs.names.lookup x = some .local) (hd : (x == ("__debug__" : Str)) = false) : Ev C (.Name x pos) (fun _ => v) := Ev.of fun Q tk h => by
  rw [he]; exact nameX_L (s := Shared.mk C.h C.gn C.dr tk C.os) F hv h hk hx hd
theorem Ev.nC (N : News g L C.h led) (hc : cl.lookup x = some c) (hm : (c, o) ∈ led) (hd : o.data = .cell (some v)) (he : C.env = envX cn cs L a ccd cl) (hk : cs.kind = .function) (hx : cs.names.lookup x = some .cell) (hb : (x == ("__debug__" : Str)) = false) : Ev C (.Name x pos) (fun _ => v) := Ev.of fun Q tk h => by
  rw [he]; exact nameX_C (s := Shared.mk C.h C.gn C.dr tk C.os) N hc hm hd h hk hx hb
theorem Ev.cL {D : Addr} {oD : Obj} {m₂ : Str → Option Value} {scope : Scope} {env : Env} (N : News g L C.h led) (hm : (D, oD) ∈ led) (hC : LCg.NsObj oD m₂) (hx : m₂ x = some v) (he : C.env = compEnvC scope cl D env) (hk : (compEnvC scope cl D env).scope.kind = .function) (hl : (compEnvC scope cl D env).kindOf x = some .local) (hd : (x == ("__debug__" : Str)) = false) : Ev C (.Name x pos) (fun _ => v) := Ev.of fun Q tk h => by
  rw [he]; exact LCgL.ld_own (s := Shared.mk C.h C.gn C.dr tk C.os) N hm hC hx h hk hl hd
theorem Ev.cC {D : Addr} {scope : Scope} {env : Env} (N : News g L C.h led) (hc : cl.lookup x = some c) (hm : (c, o) ∈ led) (hd : o.data = .cell (some v)) (he : C.env = compEnvC scope cl D env) (hk : (compEnvC scope cl D env).scope.kind = .function) (hx : (compEnvC scope cl D env).kindOf x = some .cell) (hb : (x == ("__debug__" : Str)) = false) : Ev C (.Name x pos) (fun _ => v) := Ev.of fun Q tk h => by
  rw [he]; exact lcf_cell (s := Shared.mk C.h C.gn C.dr tk C.os) N hc hm hd h hk hx hb
theorem Ev.cF {D : Addr} {scope : Scope} {env : Env} (N : News g L C.h led) (hc : cl.lookup x = some c) (hm : (c, o) ∈ led) (hd : o.data = .cell (some v)) (he : C.env = compEnvC scope cl D env) (hk : (compEnvC scope cl D env).scope.kind = .function) (hx : (compEnvC scope cl D env).kindOf x = some .free) (hb : (x == ("__debug__" : Str)) = false) (hn : (x == ("__classdict__" : Str)) = false) : Ev C (.Name x pos) (fun _ => v) := Ev.of fun Q tk h => by
  rw [he]; exact lcf_free (s := Shared.mk C.h C.gn C.dr tk C.os) N hc hm hd h hk hx hb hn
end
end Mine
namespace Mine
section
variable {prog : Program} {w : World} {A : Around} {h₀ : Heap} {L : Addr} {m : Str → Option Value} {env : Env} {elt : Expr} {x : Str} {scope : Scope} {cl : List (Str × Addr)} {S : List (Addr × Obj) → Prop} {P : Nat → Value → Prop} {Fin : List Value → List (Addr × Obj) → Prop} {k i : Nat} {ys : List Value} {news : List (Addr × Obj)}
  {g : Heap} {gn : Array GenState} {dr : Drawn} {tk₀ : Nat} {os : OsState}
theorem cr_fold (h : let F' := Fin; LCg.CompRest prog w A h₀ L m env elt x scope cl (Shared.mk g gn dr tk₀ os) S P F' k i ys news) : LCg.CompRest prog w A h₀ L m env elt x scope cl (Shared.mk g gn dr tk₀ os) S P Fin k i ys news := h
theorem cr_turn {T : Type} {v : T → Value} (hp : ∀ u, P i u → ∃ t, u = v t) (h : ∀ t I oI C oC D m₂ h tk (E' : Value → Shared → Prop), LCg.NsObj oC m₂ → m₂ x = some (v t) → Fr h₀ L h m → News h₀ L h ((I, oI) :: (C, oC) :: (D, LCg.lst ys) :: news) → LCg.Off3 I C D news → ((@Ne Nat I C) ∧ (@Ne Nat I D) ∧ (@Ne Nat C D)) →
      let Z := LCg.CompEnd h₀ L m (Shared.mk h gn dr tk os) I oI C oC D (LCg.lst ys) S (fun y news' => LCg.CompRest prog w A h₀ L m env elt x scope cl (Shared.mk g gn dr tk₀ os) S P Fin k (i + 1) (ys ++ [y]) news');
      wpAny (model prog w) A (eval elt (compEnvC scope cl C env)) Z E' (Shared.mk h gn dr tk os)) : LCg.CompRest prog w A h₀ L m env elt x scope cl (Shared.mk g gn dr tk₀ os) S P Fin (k + 1) i ys news := by
  intro v' I oI C oC D m₂ hh tk E' hv
  obtain ⟨t, rfl⟩ := hp v' hv
  exact h t I oI C oC D m₂ hh tk E'
end
theorem cp_range {a : Int} {i : Nat} : ∀ u : Value, (fun (i : Nat) (v : Value) => ∃ t, v = Value.int (a + (i : Int)) t) i u → ∃ t : Tok, u = (fun t => Value.int (a + (i : Int)) t) t := fun _ h => h
theorem cp_led {its : Array Value} {i : Nat} {x : Value} (e : its[i]? = some x) : ∀ u : Value, (fun (i : Nat) (v : Value) => its[i]? = some v) i u → ∃ t : Unit, u = (fun _ => x) t := fun u h => ⟨(), by
  have h' : its[i]? = some u := h
  rw [e] at h'; exact (Option.some.inj h').symm⟩
theorem cp_ledL {l : List Value} {i : Nat} {x : Value} (e : l[i]? = some x) : ∀ u : Value, (fun (i : Nat) (v : Value) => l.toArray[i]? = some v) i u → ∃ t : Unit, u = (fun _ => x) t := cp_led (by simpa using e)
theorem cp_str {l : List Int} {i : Nat} {c : Int} (e : l[i]? = some c) : ∀ u : Value, (fun (i : Nat) (v : Value) => ∃ c t, l[i]? = some c ∧ v = Value.str (tx [c]) t) i u → ∃ t : Tok, u = (fun t => Value.str (tx [c]) t) t := fun u h => by
  obtain ⟨c', t, e', rfl⟩ := h
  rw [e] at e'; cases e'
  exact ⟨t, rfl⟩
end Mine
namespace Mine
section
variable {prog : Program} {w : World} {A : Around} {h₀ : Heap} {L : Addr} {m : Str → Option Value} {env : Env} {elt : Expr} {x : Str} {scope : Scope} {cl : List (Str × Addr)} {S : List (Addr × Obj) → Prop} {P : Nat → Value → Prop} {Fin : List Value → List (Addr × Obj) → Prop} {k i : Nat} {ys : List Value} {news : List (Addr × Obj)}
  {g : Heap} {gn : Array GenState} {dr : Drawn} {tk₀ : Nat} {os : OsState}
theorem crc_fold (h : let F' := Fin; CRest prog w A h₀ L m env elt x scope cl (Shared.mk g gn dr tk₀ os) S P F' k i ys news) : CRest prog w A h₀ L m env elt x scope cl (Shared.mk g gn dr tk₀ os) S P Fin k i ys news := h
theorem crc_turn {T : Type} {v : T → Value} (hp : ∀ u, P i u → ∃ t, u = v t) (h : ∀ t I oI C oC c oc D h tk (E' : Value → Shared → Prop), oc.data = .cell (some (v t)) → Fr h₀ L h m → News h₀ L h ((I, oI) :: (C, oC) :: (c, oc) :: (D, LCg.lst ys) :: news) → COff I C c D news → ((@Ne Nat I C) ∧ (@Ne Nat I c) ∧ (@Ne Nat I D) ∧ (@Ne Nat C c) ∧ (@Ne Nat C D) ∧ (@Ne Nat c D)) →
      let Z := CEnd h₀ L m (Shared.mk h gn dr tk os) I oI C oC c oc D (LCg.lst ys) S (fun y news' => CRest prog w A h₀ L m env elt x scope cl (Shared.mk g gn dr tk₀ os) S P Fin k (i + 1) (ys ++ [y]) news');
      wpAny (model prog w) A (eval elt (compEnvC scope ((x, c) :: cl) C env)) Z E' (Shared.mk h gn dr tk os)) : CRest prog w A h₀ L m env elt x scope cl (Shared.mk g gn dr tk₀ os) S P Fin (k + 1) i ys news := by
  intro v' I oI C oC c oc D hh tk E' hv
  obtain ⟨t, rfl⟩ := hp v' hv
  exact h t I oI C oC c oc D hh tk E'
theorem crc_zero (h : Fin ys news) : CRest prog w A h₀ L m env elt x scope cl (Shared.mk g gn dr tk₀ os) S P Fin 0 i ys news := h
end
section
variable {y9l : List (Addr × Obj)} {y9a y9I y9C y9c y9D : Addr} {y9o : Obj}
theorem co_I (x9h : COff y9I y9C y9c y9D y9l) (x9m : (y9a, y9o) ∈ y9l) : @Ne Nat y9a y9I := (x9h _ x9m).1
theorem co_C (x9h : COff y9I y9C y9c y9D y9l) (x9m : (y9a, y9o) ∈ y9l) : @Ne Nat y9a y9C := (x9h _ x9m).2.1
theorem co_c (x9h : COff y9I y9C y9c y9D y9l) (x9m : (y9a, y9o) ∈ y9l) : @Ne Nat y9a y9c := (x9h _ x9m).2.2.1
theorem co_D (x9h : COff y9I y9C y9c y9D y9l) (x9m : (y9a, y9o) ∈ y9l) : @Ne Nat y9a y9D := (x9h _ x9m).2.2.2
end
end Mine
end
section
open PySem PySem.W PyProof.Rows PySem.Spec PySem.Calls PyProof.V
namespace Mine
section
variable {prog : Program} {w : World} {A : Around} {E : Value → Shared → Prop} {s : Shared} {Q : Value → Shared → Prop} {h₀ : Heap} {L : Addr} {news : List (Addr × Obj)} {value slice : Expr}
theorem item_symF {l : Addr} {vs : List Value} {n : Nat} {k : Int} {u : Tok} {x : Value} (N : News h₀ L s.heap news) (hm : (l, listOf vs.toArray n) ∈ news) (hd : 0 ≤ k ∧ k < 3) (hx : vs[k.toNat]? = some x) (h : Q x s)
    (hs : subscripted slice false (.ref l) (.int k u) = operate [.ref l, .int k u] (getItem (.ref l) (.int k u)) := by with_unfolding_all rfl) :
    wpAny (model prog w) A (subscriptTail value slice (.ref l) (.int k u)) Q E s :=
  item_here N hm (decide_eq_true ⟨hd.1, by have := hd.2; omega⟩) hx h hs
end
structure PickIs (w : World) (g : Heap) (L : Addr) (h : Heap) (p : PM) (Lv : Lev) (τ v : Int) (i : Nat) (a0 a1 a2 l' : Addr) (n : Nat) (rest : List (Addr × Obj)) (keys : List Addr) (X XD : Addr) (oX : Obj) (x1 x2 x3 x4 : Tok) : Prop where
  N : News g L h ((X, tupO [.int (1 + (Lv.at τ).cc) x1, .int (p.at τ v + (Lv.at τ).nc) x2, .int (0 + (Lv.at τ).tt) x3, .int (p.at τ v + (Lv.at τ).ct) x4, .ref XD]) :: (XD, oX) :: (l', listOf [.ref a0, .ref a1, .ref a2].toArray n) :: rest)
  D : DictIs w XD oX (mergeC (Lv.at τ).D [(tx [τ, v], 1)])
  x : [Value.ref a0, .ref a1, .ref a2][τ.toNat]? = some (.ref X)
  g : 0 ≤ τ ∧ τ < 3
  b : Best p Lv τ v
  len : (Lv.at τ).D.length ≤ i
  off : OwnOff [(X, oX), (XD, oX)] keys
theorem pick_book {w : World} {g h : Heap} {L D' a0 a1 a2 c0 c1 c2 l' : Addr} {oD o0 o1 o2 : Obj} {x01 x02 x03 x04 x11 x12 x13 x14 x21 x22 x23 x24 : Tok} {p : PM} {Lv : Lev} {τ v : Int} {i n : Nat} {arr : Array Value} {rest : List (Addr × Obj)} {keys : List Addr}
    (N : News g L h ((D', oD) :: (a2, tupO [.int (1 + Lv.2.2.cc) x21, .int (pick3 p.a2 p.b2 p.c2 v + Lv.2.2.nc) x22, .int (0 + Lv.2.2.tt) x23, .int (pick3 p.a2 p.b2 p.c2 v + Lv.2.2.ct) x24, .ref c2]) :: (c2, o2) ::
      (a1, tupO [.int (1 + Lv.2.1.cc) x11, .int (pick3 p.a1 p.b1 p.c1 v + Lv.2.1.nc) x12, .int (0 + Lv.2.1.tt) x13, .int (pick3 p.a1 p.b1 p.c1 v + Lv.2.1.ct) x14, .ref c1]) :: (c1, o1) ::
      (a0, tupO [.int (1 + Lv.1.cc) x01, .int (pick3 p.a0 p.b0 p.c0 v + Lv.1.nc) x02, .int (0 + Lv.1.tt) x03, .int (pick3 p.a0 p.b0 p.c0 v + Lv.1.ct) x04, .ref c0]) :: (c0, o0) :: (l', listOf arr n) :: rest))
    (P : (τ = 0 ∧ pick3 p.a1 p.b1 p.c1 v + Lv.2.1.ct ≤ pick3 p.a0 p.b0 p.c0 v + Lv.1.ct ∧ pick3 p.a2 p.b2 p.c2 v + Lv.2.2.ct ≤ pick3 p.a0 p.b0 p.c0 v + Lv.1.ct) ∨
      (τ = 1 ∧ pick3 p.a0 p.b0 p.c0 v + Lv.1.ct ≤ pick3 p.a1 p.b1 p.c1 v + Lv.2.1.ct ∧ pick3 p.a2 p.b2 p.c2 v + Lv.2.2.ct ≤ pick3 p.a1 p.b1 p.c1 v + Lv.2.1.ct) ∨
      (τ = 2 ∧ pick3 p.a0 p.b0 p.c0 v + Lv.1.ct ≤ pick3 p.a2 p.b2 p.c2 v + Lv.2.2.ct ∧ pick3 p.a1 p.b1 p.c1 v + Lv.2.1.ct ≤ pick3 p.a2 p.b2 p.c2 v + Lv.2.2.ct))
    (D0 : DictIs w c0 o0 (mergeC Lv.1.D [(tx [0, v], 1)])) (D1 : DictIs w c1 o1 (mergeC Lv.2.1.D [(tx [1, v], 1)])) (D2 : DictIs w c2 o2 (mergeC Lv.2.2.D [(tx [2, v], 1)]))
    (b0 : Lv.1.D.length ≤ i) (b1 : Lv.2.1.D.length ≤ i) (b2 : Lv.2.2.D.length ≤ i)
    (f0 : OwnOff [(a0, o0), (c0, o0)] keys) (f1 : OwnOff [(a1, o1), (c1, o1)] keys) (f2 : OwnOff [(a2, o2), (c2, o2)] keys) (ha : arr = [Value.ref a0, .ref a1, .ref a2].toArray) :
    ∃ X XD oX x1 x2 x3 x4, PickIs w g L h p Lv τ v i a0 a1 a2 l' n rest keys X XD oX x1 x2 x3 x4 := by
  subst ha
  have sub : ∀ {X XD : Addr} {oT oX : Obj}, (X, oT) ∈ [(a2, tupO [.int (1 + Lv.2.2.cc) x21, .int (pick3 p.a2 p.b2 p.c2 v + Lv.2.2.nc) x22, .int (0 + Lv.2.2.tt) x23, .int (pick3 p.a2 p.b2 p.c2 v + Lv.2.2.ct) x24, .ref c2]), (c2, o2),
      (a1, tupO [.int (1 + Lv.2.1.cc) x11, .int (pick3 p.a1 p.b1 p.c1 v + Lv.2.1.nc) x12, .int (0 + Lv.2.1.tt) x13, .int (pick3 p.a1 p.b1 p.c1 v + Lv.2.1.ct) x14, .ref c1]), (c1, o1),
      (a0, tupO [.int (1 + Lv.1.cc) x01, .int (pick3 p.a0 p.b0 p.c0 v + Lv.1.nc) x02, .int (0 + Lv.1.tt) x03, .int (pick3 p.a0 p.b0 p.c0 v + Lv.1.ct) x04, .ref c0]), (c0, o0)] →
      (XD, oX) ∈ [(a2, tupO [.int (1 + Lv.2.2.cc) x21, .int (pick3 p.a2 p.b2 p.c2 v + Lv.2.2.nc) x22, .int (0 + Lv.2.2.tt) x23, .int (pick3 p.a2 p.b2 p.c2 v + Lv.2.2.ct) x24, .ref c2]), (c2, o2),
      (a1, tupO [.int (1 + Lv.2.1.cc) x11, .int (pick3 p.a1 p.b1 p.c1 v + Lv.2.1.nc) x12, .int (0 + Lv.2.1.tt) x13, .int (pick3 p.a1 p.b1 p.c1 v + Lv.2.1.ct) x14, .ref c1]), (c1, o1),
      (a0, tupO [.int (1 + Lv.1.cc) x01, .int (pick3 p.a0 p.b0 p.c0 v + Lv.1.nc) x02, .int (0 + Lv.1.tt) x03, .int (pick3 p.a0 p.b0 p.c0 v + Lv.1.ct) x04, .ref c0]), (c0, o0)] →
      News g L h ((X, oT) :: (XD, oX) :: (l', listOf [Value.ref a0, .ref a1, .ref a2].toArray n) :: rest) := fun {X XD oT oX} h1 h2 => Mine.News.sub N fun q hq => by
    rcases List.mem_cons.mp hq with rfl | hq
    · exact .tail _ (List.mem_append_left ((l', listOf [Value.ref a0, .ref a1, .ref a2].toArray n) :: rest) h1)
    rcases List.mem_cons.mp hq with rfl | hq
    · exact .tail _ (List.mem_append_left ((l', listOf [Value.ref a0, .ref a1, .ref a2].toArray n) :: rest) h2)
    · exact .tail _ (.tail _ (.tail _ (.tail _ (.tail _ (.tail _ (.tail _ hq))))))
  rcases P with ⟨rfl, e1, e2⟩ | ⟨rfl, e1, e2⟩ | ⟨rfl, e1, e2⟩
  · exact ⟨a0, c0, o0, x01, x02, x03, x04, sub (.tail _ (.tail _ (.tail _ (.tail _ (.head _))))) (.tail _ (.tail _ (.tail _ (.tail _ (.tail _ (.head _)))))), D0, rfl, by decide, ⟨by decide, Int.le_refl _, e1, e2⟩, b0, f0⟩
  · exact ⟨a1, c1, o1, x11, x12, x13, x14, sub (.tail _ (.tail _ (.head _))) (.tail _ (.tail _ (.tail _ (.head _)))), D1, rfl, by decide, ⟨by decide, e1, Int.le_refl _, e2⟩, b1, f1⟩
  · exact ⟨a2, c2, o2, x21, x22, x23, x24, sub (.head _) (.tail _ (.head _)), D2, rfl, by decide, ⟨by decide, e1, e2, Int.le_refl _⟩, b2, f2⟩
end Mine
end
section
open PySem PySem.W PyProof.Rows PySem.Spec PySem.Calls PyProof.V
namespace Mine
noncomputable def FInvX (w : World) (c : Addr × Obj) (BK KP J : Addr) (p : PM) (sm : SM) (i : Nat) (m' : Str → Option Value) (news : List (Addr × Obj)) : Prop :=
  ∃ lv ks nb nk X L Ls ts, news = (KP, listOf ks.toArray nk) :: (BK, listOf lv.toArray nb) :: X ∧ c ∈ X ∧ OwnOff X [KP, BK, J] ∧ All2 (LevIn w X) lv (L :: Ls).reverse ∧ All2 (KeptIn X) ks ts.reverse ∧ FC p sm (L :: Ls) ts ∧ ts.length = i
theorem OwnOff.allS {l l' : List (Addr × Obj)} {bs : List Addr} {b : Addr} (h : OwnOff l bs) (hb : b ∈ bs) (hs : ∀ p ∈ l', p ∈ l) : ∀ p ∈ l', p.1 ≠ b := fun p hp => h p (hs p hp) b hb
theorem forth_placeX {w : World} {h₀ : Heap} {L : Addr} {s₁ : Shared} {h' : Heap} {tk : Nat} {S : List Str} {m m' : Str → Option Value} {nt X : List (Addr × Obj)} {c : Addr × Obj} {J NB NK BK KP : Addr} {it : Obj} {bs kv lv ks : List Value} {k1 k2 nb nk i : Nat} {p : PM} {sm : SM} {L0 : Lev} {Ls : List Lev} {ts : List T3} {done : List (Int × Book)} {kk : Int} {o1 o2 : Obj}
    (F : Fr h₀ L h' m') (N : News h₀ L h' ((NK, listOf kv.toArray k1) :: (NB, listOf bs.toArray k2) :: ([] ++ (nt ++ ((J, it) :: (KP, listOf (ks ++ [Value.ref NK]).toArray nk) :: (BK, listOf (lv ++ [Value.ref NB]).toArray nb) :: X)))))
    (hag : Agree S m m') (hn : OwnOff ((NB, o1) :: (NK, o2) :: nt) [J, KP, BK]) (hX : OwnOff X [KP, BK, J]) (hc : c ∈ X) (hKJ : @Ne Nat KP J) (hBJ : @Ne Nat BK J)
    (hbs : All2 (fun v (q : Int × Book) => BookIn w nt v q.2) bs done) (hkv : All2 (fun v (q : Int × Book) => ∃ t, v = .int q.1 t) kv done) (hdl : done.length = 3) (hdn : ∀ (v : Nat) q, done[v]? = some q → NextB p sm kk L0 (0 + (v : Int)) q)
    (hlv : All2 (LevIn w X) lv (Ls.reverse ++ [L0])) (hks : All2 (KeptIn X) ks ts.reverse) (hfc : FC p sm (L0 :: Ls) ts) (hts : ts.length = i) (hkk : kk = 1 + (i : Int)) :
    UnrEnd h₀ L s₁ J it (fun m' n' => Agree S m m' ∧ FInvX w c BK KP J p sm (i + 1) m' n') { s₁ with heap := h', toks := tk } := by
  refine byG (fun P9 hP9 => ?_)
  obtain ⟨v0, v1, v2, t0, t1, t2, L', T, rfl, rfl, b0, b1, b2, hnx⟩ := level_of hbs hkv hdl hdn
  refine hP9 ?_
  clear hP9 P9
  have up : ∀ q ∈ nt, q ∈ (NB, listOf [v0, v1, v2].toArray k2) :: (NK, listOf [Value.int T.1 t0, .int T.2.1 t1, .int T.2.2 t2].toArray k1) :: (nt ++ X) := fun q hq => .tail _ (.tail _ (List.mem_append_left _ hq))
  have ux : ∀ q ∈ X, q ∈ (NB, listOf [v0, v1, v2].toArray k2) :: (NK, listOf [Value.int T.1 t0, .int T.2.1 t1, .int T.2.2 t2].toArray k1) :: (nt ++ X) := fun q hq => .tail _ (.tail _ (List.mem_append_right _ hq))
  have hall : ∀ q ∈ (NB, listOf [v0, v1, v2].toArray k2) :: (NK, listOf [Value.int T.1 t0, .int T.2.1 t1, .int T.2.2 t2].toArray k1) :: (nt ++ X), ∀ b ∈ [KP, BK, J], q.1 ≠ b := fun q hq b hb => by
    have hb' : b ∈ [J, KP, BK] := by simp only [List.mem_cons, List.not_mem_nil, or_false] at hb ⊢; rcases hb with h | h | h <;> simp [h]
    rcases List.mem_cons.mp hq with rfl | hq
    · exact hn (NB, o1) (.head _) b hb'
    rcases List.mem_cons.mp hq with rfl | hq
    · exact hn (NK, o2) (.tail _ (.head _)) b hb'
    rcases List.mem_append.mp hq with hq | hq
    · exact hn q (.tail _ (.tail _ hq)) b hb'
    · exact hX q hq b hb
  refine rturn_end F N ((KP, listOf (ks ++ [Value.ref NK]).toArray nk) :: (BK, listOf (lv ++ [Value.ref NB]).toArray nb) :: ((NB, listOf [v0, v1, v2].toArray k2) :: (NK, listOf [Value.int T.1 t0, .int T.2.1 t1, .int T.2.2 t2].toArray k1) :: (nt ++ X))) (.tail _ (.tail _ (List.mem_append_right _ (List.mem_append_right _ (.head _))))) ?_ ?_
    ⟨hag, lv ++ [Value.ref NB], ks ++ [Value.ref NK], nb, nk, _, L', L0 :: Ls, T :: ts, rfl, ux c hc, hall, ?_, ?_, ?_, ?_⟩
  · intro q hq
    rcases List.mem_cons.mp hq with rfl | hq
    · exact .tail _ (.tail _ (List.mem_append_right _ (List.mem_append_right _ (.tail _ (.head _)))))
    rcases List.mem_cons.mp hq with rfl | hq
    · exact .tail _ (.tail _ (List.mem_append_right _ (List.mem_append_right _ (.tail _ (.tail _ (.head _))))))
    rcases List.mem_cons.mp hq with rfl | hq
    · exact .tail _ (.head _)
    rcases List.mem_cons.mp hq with rfl | hq
    · exact .head _
    rcases List.mem_append.mp hq with hq | hq
    · exact .tail _ (.tail _ (List.mem_append_right _ (List.mem_append_left _ hq)))
    · exact .tail _ (.tail _ (List.mem_append_right _ (List.mem_append_right _ (.tail _ (.tail _ (.tail _ hq))))))
  · intro q hq
    rcases List.mem_cons.mp hq with rfl | hq
    · exact hKJ
    rcases List.mem_cons.mp hq with rfl | hq
    · exact hBJ
    exact hall q hq J (.tail _ (.tail _ (.head _)))
  · rw [List.reverse_cons, List.reverse_cons]
    exact (hlv.mono fun a b x => LevIn.mono ux x).snoc ⟨NB, k2, v0, v1, v2, rfl, .head _, b0.mono up, b1.mono up, b2.mono up⟩
  · rw [List.reverse_cons]
    exact (hks.mono fun a b x => KeptIn.mono ux x).snoc ⟨NK, k1, t0, t1, t2, rfl, .tail _ (.head _)⟩
  · refine ⟨?_, hfc⟩
    rw [hts, ← hkk]; exact hnx
  · simp [hts]
end Mine
end
section
open PySem PySem.W PyProof.Rows PySem.Spec PySem.Calls PyProof.V
namespace Mine
noncomputable abbrev URow := Addr × Addr × Obj × Tok × Tok × Tok × Tok
noncomputable def uObj (p : PM) (Lv : Lev) (v : Int) : List URow → List (Addr × Obj)
  | [] => []
  | r :: rs => (r.1, tupO [.int (1 + (Lv.at (0 + (rs.length : Int))).cc) r.2.2.2.1, .int (p.at (0 + (rs.length : Int)) v + (Lv.at (0 + (rs.length : Int))).nc) r.2.2.2.2.1, .int (0 + (Lv.at (0 + (rs.length : Int))).tt) r.2.2.2.2.2.1, .int (p.at (0 + (rs.length : Int)) v + (Lv.at (0 + (rs.length : Int))).ct) r.2.2.2.2.2.2, .ref r.2.1]) :: (r.2.1, r.2.2.1) :: uObj p Lv v rs
noncomputable def uRef : List URow → List Value
  | [] => []
  | r :: rs => uRef rs ++ [.ref r.1]
theorem uRef_len : ∀ rows : List URow, (uRef rows).length = rows.length
  | [] => rfl
  | r :: rs => by rw [uRef, List.length_append, uRef_len rs]; rfl
noncomputable def UOk (w : World) (Lv : Lev) (v : Int) (keys : List Addr) : List URow → Prop
  | [] => True
  | r :: rs => DictIs w r.2.1 r.2.2.1 (mergeC (Lv.at (0 + (rs.length : Int))).D [(tx [0 + (rs.length : Int), v], 1)]) ∧ OwnOff [(r.1, r.2.2.1), (r.2.1, r.2.2.1)] keys ∧ UOk w Lv v keys rs
noncomputable def UInv (w : World) (p : PM) (Lv : Lev) (v : Int) (TH : Addr) (keys : List Addr) (W : List (Addr × Obj)) (k : Nat) (news : List (Addr × Obj)) : Prop :=
  ∃ rows n, news = (TH, listOf (uRef rows).toArray n) :: (uObj p Lv v rows ++ W) ∧ rows.length = k ∧ UOk w Lv v keys rows
theorem UOk.off {w : World} {p : PM} {Lv : Lev} {v : Int} {keys : List Addr} : ∀ {rows : List URow}, UOk w Lv v keys rows → OwnOff (uObj p Lv v rows) keys
  | [], _ => fun _ h => nomatch h
  | r :: rs, h => OwnOff.lcons (fun b hb => h.2.1 _ (.head _) b hb) (OwnOff.lcons (fun b hb => h.2.1 _ (.tail _ (.head _)) b hb) (UOk.off h.2.2))
theorem u_turn {w : World} {h₀ : Heap} {L : Addr} {s₁ : Shared} {h' : Heap} {tk : Nat} {S : List Str} {m m' : Str → Option Value} {all W : List (Addr × Obj)} {U TH a c : Addr} {it o : Obj} {n k : Nat} {x1 x2 x3 x4 : Tok} {p : PM} {Lv : Lev} {v q : Int} {bk : Book} {rows : List URow} {keys : List Addr}
    (F : Fr h₀ L h' m') (N : News h₀ L h' all) (hI : (U, it) ∈ all) (hTH : (TH, listOf (uRef rows ++ [Value.ref a]).toArray n) ∈ all) (ha : (a, tupO [.int (1 + bk.cc) x1, .int (q + bk.nc) x2, .int (0 + bk.tt) x3, .int (q + bk.ct) x4, .ref c]) ∈ all) (hc : (c, o) ∈ all)
    (hOT : ∀ q ∈ uObj p Lv v rows ++ W, q ∈ all) (eB : Lv.at (0 + (k : Int)) = bk) (eq : p.at (0 + (k : Int)) v = q) (hl : rows.length = k) (hok : UOk w Lv v keys rows) (D : DictIs w c o (mergeC bk.D [(tx [0 + (k : Int), v], 1)])) (fr : OwnOff [(a, o), (c, o)] keys)
    (hU : U ∈ keys) (nTU : @Ne Nat TH U) (oW : OwnOff W [U]) (hag : Agree S m m') :
    UnrEnd h₀ L s₁ U it (fun m' n' => Agree S m m' ∧ UInv w p Lv v TH keys W (k + 1) n') { s₁ with heap := h', toks := tk } := by
  subst hl eB eq
  have hall : ∀ q ∈ (TH, listOf (uRef rows ++ [Value.ref a]).toArray n) :: (a, tupO [.int (1 + (Lv.at (0 + (rows.length : Int))).cc) x1, .int (p.at (0 + (rows.length : Int)) v + (Lv.at (0 + (rows.length : Int))).nc) x2, .int (0 + (Lv.at (0 + (rows.length : Int))).tt) x3, .int (p.at (0 + (rows.length : Int)) v + (Lv.at (0 + (rows.length : Int))).ct) x4, .ref c]) :: (c, o) :: (uObj p Lv v rows ++ W), q ∈ all := List.forall_mem_cons.mpr ⟨hTH, List.forall_mem_cons.mpr ⟨ha, List.forall_mem_cons.mpr ⟨hc, hOT⟩⟩⟩
  refine rturn_end F N _ hI hall ?off ⟨hag, ?inv⟩
  case off =>
    refine List.forall_mem_cons.mpr ⟨nTU, List.forall_mem_cons.mpr ⟨fr (a, o) (.head _) U hU, List.forall_mem_cons.mpr ⟨fr (c, o) (.tail _ (.head _)) U hU, fun q hq => ?_⟩⟩⟩
    exact (List.mem_append.mp hq).elim (fun hq => UOk.off hok q hq U hU) (fun hq => oW q hq U (.head _))
  case inv => exact ⟨(a, c, o, x1, x2, x3, x4) :: rows, n, rfl, rfl, D, fr, hok⟩
theorem u_three {w : World} {Lv : Lev} {v : Int} {keys : List Addr} {rows : List URow} (h : rows.length = 3) (k : UOk w Lv v keys rows) : ∃ r0 r1 r2 : URow, rows = [r2, r1, r0] ∧ UOk w Lv v keys [r2, r1, r0] := by
  obtain ⟨r2, r1, r0, rfl⟩ := len3' h
  exact ⟨r0, r1, r2, rfl, k⟩
theorem u_mv {T A B C D E F : Addr × Obj} {l : List (Addr × Obj)} : ∀ q ∈ A :: B :: C :: D :: E :: F :: T :: l, q ∈ T :: A :: B :: C :: D :: E :: F :: l := fun q hq => (List.perm_middle (l₁ := [A, B, C, D, E, F])).mem_iff.mp hq
theorem books_at {w : World} {W : List (Addr × Obj)} {Lv : Lev} {r0 r1 r2 f0 f1 f2 : Addr} {fo0 fo1 fo2 : Obj} {y00 y01 y02 y03 y10 y11 y12 y13 y20 y21 y22 y23 : Tok} {i : Nat}
    (m0 : (r0, tupO [.int Lv.1.cc y00, .int Lv.1.nc y01, .int Lv.1.tt y02, .int Lv.1.ct y03, .ref f0]) ∈ W) (g0 : (f0, fo0) ∈ W) (d0 : DictIs w f0 fo0 Lv.1.D) (b0 : Lv.1.D.length ≤ i)
    (m1 : (r1, tupO [.int Lv.2.1.cc y10, .int Lv.2.1.nc y11, .int Lv.2.1.tt y12, .int Lv.2.1.ct y13, .ref f1]) ∈ W) (g1 : (f1, fo1) ∈ W) (d1 : DictIs w f1 fo1 Lv.2.1.D) (b1 : Lv.2.1.D.length ≤ i)
    (m2 : (r2, tupO [.int Lv.2.2.cc y20, .int Lv.2.2.nc y21, .int Lv.2.2.tt y22, .int Lv.2.2.ct y23, .ref f2]) ∈ W) (g2 : (f2, fo2) ∈ W) (d2 : DictIs w f2 fo2 Lv.2.2.D) (b2 : Lv.2.2.D.length ≤ i) :
    ∀ {k : Nat}, k < 3 → ∃ bk r f fo y0 y1 y2 y3, Lv.at (0 + (k : Int)) = bk ∧ [Value.ref r0, .ref r1, .ref r2][(0 + (k : Int)).toNat]? = some (.ref r) ∧ (r, tupO [.int bk.cc y0, .int bk.nc y1, .int bk.tt y2, .int bk.ct y3, .ref f]) ∈ W ∧ (f, fo) ∈ W ∧ DictIs w f fo bk.D ∧ bk.D.length ≤ i
  | 0, _ => ⟨_, r0, f0, fo0, _, _, _, _, rfl, rfl, m0, g0, d0, b0⟩
  | 1, _ => ⟨_, r1, f1, fo1, _, _, _, _, rfl, rfl, m1, g1, d1, b1⟩
  | 2, _ => ⟨_, r2, f2, fo2, _, _, _, _, rfl, rfl, m2, g2, d2, b2⟩
end Mine
end
section
open PySem PySem.W PyProof.Rows PySem.Spec PySem.Calls PyProof.V
namespace Mine
noncomputable def AInvX (cC cP cA : Addr) (PINS : List (Addr × Obj)) (TU : Addr) (oTU : Obj) (keys : List Addr) (p : PM) (sm : SM) (r : List (Int × Tok)) (news : List (Addr × Obj)) : Prop :=
  ∃ oC oP oA vC vP AH vs k extra done, oC.data = .cell vC ∧ oP.data = .cell vP ∧ oA.data = .cell (some (.ref AH)) ∧ news = (cC, oC) :: (cP, oP) :: (cA, oA) :: (TU, oTU) :: (PINS ++ extra) ∧ (AH, listOf vs.toArray k) ∈ extra ∧ OwnOff extra keys ∧
    All2 (TripIn extra) vs done ∧ AF p sm done ∧ done.length + r.length = 4 ∧ (∀ q ∈ r.head?, q.1 = (r.length : Int)) ∧ (∀ q ∈ r.tail.head?, q.1 = (r.length : Int) - 1) ∧ (∀ q ∈ r.tail.tail.head?, q.1 = (r.length : Int) - 2)
theorem ahead_turnX {h₀ : Heap} {L : Addr} {s₁ : Shared} {h' : Heap} {tk : Nat} {m m' : Str → Option Value} {all PINS extra : List (Addr × Obj)} {cC cP cA I TU AH R : Addr} {o' oC oP oA oTU : Obj} {vC vP : Option Value} {vs : List Value} {k kk : Nat} {x0 x1 x2 : Int} {t0 t1 t2 : Tok} {keys : List Addr} {p : PM} {sm : SM} {q : Int × Tok} {r : List (Int × Tok)} {done : List T3} {A0 : T3}
    (F : Fr h₀ L h' m') (N : News h₀ L h' all) (hI : (I, o') ∈ all) (hC : (cC, oC) ∈ all) (hP : (cP, oP) ∈ all) (hA : (cA, oA) ∈ all) (hTU : (TU, oTU) ∈ all) (hPINS : ∀ q ∈ PINS, q ∈ all) (hex : ∀ q ∈ extra, q ∈ all)
    (hAH : (AH, listOf (.ref R :: vs).toArray k) ∈ all) (hR : (R, listOf #[.int x0 t0, .int x1 t1, .int x2 t2] kk) ∈ all) (fR : ∀ b ∈ keys, @Ne Nat R b) (fA : ∀ b ∈ keys, @Ne Nat AH b) (dC : oC.data = .cell vC) (dP : oP.data = .cell vP) (dA : oA.data = .cell (some (.ref AH)))
    (hag : Agree [] m m') (Hx : OwnOff extra keys) (hk : keys = I :: TU :: cC :: cP :: cA :: PINS.map (·.1)) (hIk : ∀ b ∈ TU :: cC :: cP :: cA :: PINS.map (·.1), @Ne Nat b I)
    (hall : All2 (TripIn extra) vs (A0 :: done)) (haf : AF p sm (A0 :: done)) (hlen : (A0 :: done).length + (q :: r).length = 4) (h0 : ∀ z ∈ (q :: r).head?, z.1 = ((q :: r).length : Int)) (h1 : ∀ z ∈ (q :: r).tail.head?, z.1 = ((q :: r).length : Int) - 1) (h2 : ∀ z ∈ (q :: r).tail.tail.head?, z.1 = ((q :: r).length : Int) - 2)
    (ex : (x0, x1, x2) = nextA p sm q.1 A0) :
    UnrEndW h₀ L s₁ [(I, o')] (fun m' n' => SubL [(TU, oTU)] n' ∧ Agree [] m m' ∧ AInvX cC cP cA PINS TU oTU keys p sm r n') { s₁ with heap := h', toks := tk } := by
  refine turn_end F N ((cC, oC) :: (cP, oP) :: (cA, oA) :: (TU, oTU) :: (PINS ++ ((AH, listOf (Value.ref R :: vs).toArray k) :: (R, listOf #[.int x0 t0, .int x1 t1, .int x2 t2] kk) :: extra))) ?_ ?_ ?_ ⟨⟨.tail _ (.tail _ (.tail _ (.head _))), trivial⟩, hag, oC, oP, oA, vC, vP, AH, Value.ref R :: vs, k, (AH, listOf (Value.ref R :: vs).toArray k) :: (R, listOf #[.int x0 t0, .int x1 t1, .int x2 t2] kk) :: extra, (x0, x1, x2) :: A0 :: done, dC, dP, dA, rfl, .head _, ?_, ?_, ?_, ?_, ?_, ?_, ?_⟩
  · intro z hz; rw [List.mem_singleton] at hz; subst hz; exact hI
  · intro z hz
    simp only [List.mem_cons, List.mem_append] at hz
    rcases hz with rfl | rfl | rfl | rfl | hz | rfl | rfl | hz
    · exact hC
    · exact hP
    · exact hA
    · exact hTU
    · exact hPINS z hz
    · exact hAH
    · exact hR
    · exact hex z hz
  · intro z hz z' hz'
    rw [List.mem_singleton] at hz'; subst hz'
    simp only [List.mem_cons, List.mem_append] at hz
    rcases hz with rfl | rfl | rfl | rfl | hz | rfl | rfl | hz
    · exact hIk _ (.tail _ (.head _))
    · exact hIk _ (.tail _ (.tail _ (.head _)))
    · exact hIk _ (.tail _ (.tail _ (.tail _ (.head _))))
    · exact hIk _ (.head _)
    · exact hIk _ (.tail _ (.tail _ (.tail _ (.tail _ (List.mem_map_of_mem hz)))))
    · exact fA I (by rw [hk]; exact .head _)
    · exact fR I (by rw [hk]; exact .head _)
    · exact Hx z hz I (by rw [hk]; exact .head _)
  · intro z hz b hb
    rcases List.mem_cons.mp hz with rfl | hz
    · exact fA b hb
    rcases List.mem_cons.mp hz with rfl | hz
    · exact fR b hb
    exact Hx z hz b hb
  · exact .cons ⟨R, kk, t0, t1, t2, rfl, .tail _ (.head _)⟩ (hall.mono fun a b x => TripIn.mono (fun z hz => .tail _ (.tail _ hz)) x)
  · refine ⟨?_, haf⟩
    rw [ex, h0 q rfl]
    have e : ((q :: r).length : Int) = 3 - (done.length : Int) := by simp at hlen ⊢; omega
    rw [e]
  · simp at hlen ⊢; omega
  · intro z hz
    have := h1 z hz
    simp at this ⊢; omega
  · intro z hz
    have := h2 z hz
    simp at this ⊢; omega
  · intro z hz
    exfalso
    match r, hlen, hz with
    | [], _, hz => simp at hz
    | [_], _, hz => simp at hz
    | [_, _], _, hz => simp at hz
    | _ :: _ :: _ :: _, hlen, _ => simp at hlen; omega
theorem av_bd {a b c : Int} (ha : 0 ≤ a ∧ a ≤ 5) (hb : 0 ≤ b ∧ b ≤ 5) (h0 : 0 ≤ c) (h1 : c ≤ 20) : 0 ≤ a + (b + c) ∧ a + (b + c) < 36 := by omega
end Mine
end
section
open PySem PySem.W PyProof.Rows PySem.Spec PySem.Calls PyProof.V
namespace Mine
noncomputable def WInvX (c : Addr × Obj) (J : Addr) (p : PM) (sm : SM) (i : Nat) (m' : Str → Option Value) (news : List (Addr × Obj)) : Prop :=
  ∃ WS vs k X, m' "ways" = some (.ref WS) ∧ news = (WS, listOf vs.toArray k) :: X ∧ c ∈ X ∧ OwnOff X [WS, J] ∧ @Ne Nat WS J ∧ All2 (WayL X) vs (waysF p sm i)
noncomputable def WInnerX (Y : List (Addr × Obj)) (LG : Addr) (keys : List Addr) (p : PM) (sm : SM) (i : Nat) (r : List (List Int × Int × Int)) (news : List (Addr × Obj)) : Prop :=
  ∃ gs kk nt done, news = (LG, listOf gs.toArray kk) :: (nt ++ Y) ∧ OwnOff nt keys ∧ All2 (WayL nt) gs (done.flatMap (wayStep p sm (1 + (i : Int)))) ∧ done ++ r = waysF p sm i
theorem ways_turnX {h₀ : Heap} {L : Addr} {s₁ : Shared} {h' : Heap} {tk : Nat} {S : List Str} {m m' : Str → Option Value} {all nt Y : List (Addr × Obj)} {keys : List Addr} {D0 D1 D2 I LG WS : Addr} {o' oWS y0 y1 y2 : Obj} {gs : List Value} {kk i : Nat} {p : PM} {sm : SM} {ls : List Int} {uu wv x0 x1 x2 v0 v1 v2 : Int} {a0 a1 a2 b0 b1 b2 : Tok} {done r : List (List Int × Int × Int)}
    (F : Fr h₀ L h' m') (N : News h₀ L h' all) (hI : (I, o') ∈ all) (hLG : (LG, listOf (gs ++ [Value.ref D0] ++ [Value.ref D1] ++ [Value.ref D2]).toArray kk) ∈ all)
    (h0 : (D0, tupO [.str (tx (ls ++ [uu] ++ [v0])) a0, .int x0 b0]) ∈ all) (h1 : (D1, tupO [.str (tx (ls ++ [uu] ++ [v1])) a1, .int x1 b1]) ∈ all) (h2 : (D2, tupO [.str (tx (ls ++ [uu] ++ [v2])) a2, .int x2 b2]) ∈ all) (hW : ∀ q ∈ nt ++ Y, q ∈ all)
    (fD : OwnOff [(D2, y2), (D1, y1), (D0, y0)] keys) (hk : I ∈ keys) (hn : OwnOff Y [I]) (hIL : @Ne Nat LG I) (hWS : (WS, oWS) ∈ Y)
    (e : v0 = 0 ∧ v1 = 1 ∧ v2 = 2 ∧ x0 = wv + p.at uu 0 + sm.at (1 + (i : Int)) 0 ∧ x1 = wv + p.at uu 1 + sm.at (1 + (i : Int)) 1 ∧ x2 = wv + p.at uu 2 + sm.at (1 + (i : Int)) 2)
    (hag : Agree S m m') (Hn : OwnOff nt keys)
    (hal : All2 (WayL nt) gs (done.flatMap (wayStep p sm (1 + (i : Int))))) (hd : done ++ (ls, uu, wv) :: r = waysF p sm i) :
    UnrEndW h₀ L s₁ [(I, o')] (fun m' n' => SubL [(WS, oWS)] n' ∧ Agree S m m' ∧ WInnerX Y LG keys p sm i r n') { s₁ with heap := h', toks := tk } := by
  refine byG (fun P9 hP9 => ?_)
  obtain ⟨rfl, rfl, rfl, e0, e1, e2⟩ := e
  refine hP9 ?_
  clear hP9 P9
  refine turn_end F N ((LG, listOf (gs ++ [Value.ref D0] ++ [Value.ref D1] ++ [Value.ref D2]).toArray kk) :: (((D2, tupO [.str (tx (ls ++ [uu] ++ [2])) a2, .int x2 b2]) :: (D1, tupO [.str (tx (ls ++ [uu] ++ [1])) a1, .int x1 b1]) :: (D0, tupO [.str (tx (ls ++ [uu] ++ [0])) a0, .int x0 b0]) :: nt) ++ Y)) ?_ ?_ ?_ ⟨⟨.tail _ (List.mem_append_right _ hWS), trivial⟩, hag, gs ++ [Value.ref D0] ++ [Value.ref D1] ++ [Value.ref D2], kk, ((D2, tupO [.str (tx (ls ++ [uu] ++ [2])) a2, .int x2 b2]) :: (D1, tupO [.str (tx (ls ++ [uu] ++ [1])) a1, .int x1 b1]) :: (D0, tupO [.str (tx (ls ++ [uu] ++ [0])) a0, .int x0 b0]) :: nt), done ++ [(ls, uu, wv)], rfl, ?_, ?_, ?_⟩
  · intro q hq; rw [List.mem_singleton] at hq; subst hq; exact hI
  · intro q hq
    simp only [List.mem_cons, List.mem_append] at hq
    rcases hq with rfl | (rfl | rfl | rfl | h) | h
    · exact hLG
    · exact h2
    · exact h1
    · exact h0
    · exact hW q (List.mem_append_left _ h)
    · exact hW q (List.mem_append_right _ h)
  · intro q hq q' hq'
    rw [List.mem_singleton] at hq'; subst hq'
    simp only [List.mem_cons, List.mem_append] at hq
    rcases hq with rfl | (rfl | rfl | rfl | h) | h
    · exact hIL
    · exact fD (D2, y2) (.head _) _ hk
    · exact fD (D1, y1) (.tail _ (.head _)) _ hk
    · exact fD (D0, y0) (.tail _ (.tail _ (.head _))) _ hk
    · exact Hn q h I hk
    · exact hn q h I (.head _)
  · intro q hq b hb
    simp only [List.mem_cons] at hq
    rcases hq with rfl | rfl | rfl | h
    · exact fD (D2, y2) (.head _) _ hb
    · exact fD (D1, y1) (.tail _ (.head _)) _ hb
    · exact fD (D0, y0) (.tail _ (.tail _ (.head _))) _ hb
    · exact Hn q h b hb
  · subst e0 e1 e2
    rw [List.flatMap_append]
    have e : gs ++ [Value.ref D0] ++ [Value.ref D1] ++ [Value.ref D2] = gs ++ [Value.ref D0, Value.ref D1, Value.ref D2] := by simp
    rw [e]
    refine (hal.mono fun a b x => WayL.mono (fun q hq => .tail _ (.tail _ (.tail _ hq))) x).app ?_
    exact .cons ⟨D0, a0, b0, rfl, .tail _ (.tail _ (.head _))⟩ (.cons ⟨D1, a1, b1, rfl, .tail _ (.head _)⟩ (.cons ⟨D2, a2, b2, rfl, .head _⟩ .nil))
  · simpa using hd
theorem ways_placeX {h₀ : Heap} {L : Addr} {s₁ : Shared} {h' : Heap} {tk : Nat} {S : List Str} {m m' : Str → Option Value} {nt X : List (Addr × Obj)} {c : Addr × Obj} {I J LG WS : Addr} {it oWS : Obj} {gs : List Value} {k1 i : Nat} {p : PM} {sm : SM}
    (F : Fr h₀ L h' m') (N : News h₀ L h' ((LG, listOf gs.toArray k1) :: (nt ++ ((J, it) :: (WS, oWS) :: X)))) (hm : m' "ways" = some (.ref LG)) (hag : Agree S m m') (Hn : OwnOff nt [LG, I, J, WS]) (hY : OwnOff ((J, it) :: (WS, oWS) :: X) [LG, I]) (hX : OwnOff X [WS, J]) (hc : c ∈ X)
    (hal : All2 (WayL nt) gs ((waysF p sm i).flatMap (wayStep p sm (1 + (i : Int))))) :
    UnrEnd h₀ L s₁ J it (fun m' n' => Agree S m m' ∧ WInvX c J p sm (i + 1) m' n') { s₁ with heap := h', toks := tk } := by
  refine rturn_end F N ((LG, listOf gs.toArray k1) :: (nt ++ X)) (.tail _ (List.mem_append_right _ (.head _))) ?_ ?_ ⟨hag, LG, gs, k1, nt ++ X, hm, rfl, List.mem_append_right _ hc, ?_, ?_, ?_⟩
  · intro q hq
    rcases List.mem_cons.mp hq with rfl | hq
    · exact .head _
    rcases List.mem_append.mp hq with hq | hq
    · exact .tail _ (List.mem_append_left _ hq)
    · exact .tail _ (List.mem_append_right _ (.tail _ (.tail _ hq)))
  · intro q hq
    rcases List.mem_cons.mp hq with rfl | hq
    · exact (hY _ (.head _) LG (.head _)).symm
    rcases List.mem_append.mp hq with hq | hq
    · exact Hn q hq J (.tail _ (.tail _ (.head _)))
    · exact hX q hq J (.tail _ (.head _))
  · intro q hq b hb
    simp only [List.mem_cons, List.not_mem_nil, or_false] at hb
    rcases List.mem_append.mp hq with hq | hq
    · rcases hb with rfl | rfl
      · exact Hn q hq _ (.head _)
      · exact Hn q hq _ (.tail _ (.tail _ (.head _)))
    · rcases hb with rfl | rfl
      · exact hY q (.tail _ (.tail _ hq)) _ (.head _)
      · exact hX q hq _ (.tail _ (.head _))
  · exact (hY _ (.head _) LG (.head _)).symm
  · exact hal.mono fun a b x => WayL.mono (fun q hq => List.mem_append_left _ hq) x
end Mine
end
section
open PySem PySem.W PyProof.Rows PySem.Spec PySem.Calls PyProof.V
namespace Mine
noncomputable def rowsO (rs : List (Addr × Row3)) : List (Addr × Obj) := rs.map fun r => (r.1, r.2.obj)
noncomputable def MIn (MO : Addr) (oM : Obj) (bs : List Addr) (Y : List (Addr × Obj)) (P : Nat → Row3 → Prop) (news : List (Addr × Obj)) : Prop :=
  ∃ rs, rs.map (·.1) = bs ∧ news = (MO, oM) :: (rowsO rs ++ Y) ∧ ∀ (k : Nat) (r : Addr × Row3), rs[k]? = some r → P k r.2
theorem split_at' {α : Type} : ∀ {i : Nat} {l : List α}, i < l.length → ∃ l1 r l2, l = l1 ++ r :: l2 ∧ l1.length = i
  | _, [], h => absurd h (Nat.not_lt_zero _)
  | 0, a :: l, _ => ⟨[], a, l, rfl, rfl⟩
  | i + 1, a :: l, h => by
    obtain ⟨l1, r, l2, rfl, e⟩ := split_at' (i := i) (l := l) (Nat.lt_of_succ_lt_succ h)
    exact ⟨a :: l1, r, l2, rfl, by simp [e]⟩
theorem rowsO_app (l1 l2 : List (Addr × Row3)) : rowsO (l1 ++ l2) = rowsO l1 ++ rowsO l2 := List.map_append
theorem rowsO_fst {rs : List (Addr × Row3)} {q : Addr × Obj} (h : q ∈ rowsO rs) : q.1 ∈ rs.map (·.1) := by
  obtain ⟨r, hr, rfl⟩ := List.mem_map.mp h
  exact List.mem_map_of_mem (f := fun r : Addr × Row3 => r.1) hr
theorem most_pick {g : Heap} {L : Addr} {h : Heap} {J MO b : Addr} {it oM : Obj} {R : Row3} {l1 l2 : List (Addr × Row3)} {Y : List (Addr × Obj)} (N : News g L h ((J, it) :: (MO, oM) :: (rowsO (l1 ++ (b, R) :: l2) ++ Y))) :
    News g L h ((J, it) :: (MO, oM) :: (b, R.obj) :: (rowsO l1 ++ (rowsO l2 ++ Y))) := News.sub N fun q hq => by
  rw [rowsO_app, List.append_assoc]
  rcases List.mem_cons.mp hq with rfl | hq
  · exact .head _
  rcases List.mem_cons.mp hq with rfl | hq
  · exact .tail _ (.head _)
  rcases List.mem_cons.mp hq with rfl | hq
  · exact .tail _ (.tail _ (List.mem_append_right _ (.head _)))
  rcases List.mem_append.mp hq with hq | hq
  · exact .tail _ (.tail _ (List.mem_append_left _ hq))
  · exact .tail _ (.tail _ (List.mem_append_right _ (.tail _ hq)))
theorem most_turnX {h₀ : Heap} {L : Addr} {s₁ : Shared} {h' : Heap} {tk : Nat} {S : List Str} {m m' : Str → Option Value} {all Y : List (Addr × Obj)} {bs : List Addr} {J MO b : Addr} {it oM : Obj} {i : Nat} {R R' : Row3} {l1 l2 : List (Addr × Row3)} {done : List (List Int × Int)} {p : List Int × Int}
    (F : Fr h₀ L h' m') (N : News h₀ L h' all) (hJ : (J, it) ∈ all) (hMO : (MO, oM) ∈ all) (hb : (b, R'.obj) ∈ all) (hO : ∀ q ∈ rowsO l1 ++ (rowsO l2 ++ Y), q ∈ all)
    (nM : @Ne Nat MO J) (nb : @Ne Nat b J) (nO : ∀ q ∈ rowsO l1 ++ (rowsO l2 ++ Y), q.1 ≠ J) (hag : Agree S m m')
    (hP : ∀ (k : Nat) (r : Addr × Row3), (l1 ++ (b, R) :: l2)[k]? = some r → RowIs (if k < i then done ++ [p] else done) k r.2) (hlen : l1.length = i) (hR : RowIs (done ++ [p]) i R') (hbs : (l1 ++ (b, R) :: l2).map (·.1) = bs) :
    UnrEnd h₀ L s₁ J it (fun m' n' => Agree S m m' ∧ MIn MO oM bs Y (fun k => RowIs (if k < i + 1 then done ++ [p] else done) k) n') { s₁ with heap := h', toks := tk } := by
  refine rturn_end F N ((MO, oM) :: (rowsO (l1 ++ (b, R') :: l2) ++ Y)) hJ ?_ ?_ ⟨hag, l1 ++ (b, R') :: l2, ?_, rfl, ?_⟩
  · intro q hq
    rw [rowsO_app, List.append_assoc] at hq
    rcases List.mem_cons.mp hq with rfl | hq
    · exact hMO
    rcases List.mem_append.mp hq with hq | hq
    · exact hO q (List.mem_append_left _ hq)
    rcases List.mem_cons.mp hq with rfl | hq
    · exact hb
    · exact hO q (List.mem_append_right _ hq)
  · intro q hq
    rw [rowsO_app, List.append_assoc] at hq
    rcases List.mem_cons.mp hq with rfl | hq
    · exact nM
    rcases List.mem_append.mp hq with hq | hq
    · exact nO q (List.mem_append_left _ hq)
    rcases List.mem_cons.mp hq with rfl | hq
    · exact nb
    · exact nO q (List.mem_append_right _ hq)
  · rw [← hbs]; simp
  · intro k r hk
    by_cases e : k = i
    · subst e
      rw [List.getElem?_append_right (by omega), hlen, Nat.sub_self] at hk
      cases hk
      rw [if_pos (Nat.lt_succ_self _)]
      exact hR
    · have hk' : (l1 ++ (b, R) :: l2)[k]? = some r := by
        by_cases c : k < l1.length
        · rw [List.getElem?_append_left c] at hk ⊢; exact hk
        · rw [List.getElem?_append_right (by omega)] at hk ⊢
          obtain ⟨j, hj⟩ : ∃ j, k - l1.length = j + 1 := ⟨k - l1.length - 1, by omega⟩
          rw [hj] at hk ⊢
          exact hk
      have := hP k r hk'
      by_cases c : k < i
      · rw [if_pos c] at this; rw [if_pos (by omega)]; exact this
      · rw [if_neg c] at this; rw [if_neg (by omega)]; exact this
end Mine
end
section
open PySem PySem.W PyProof.Rows PySem.Spec PySem.Calls PyProof.V
namespace Mine
noncomputable def RowIn (l : List (Addr × Obj)) (r : Addr) (f : Int → Int) : Prop := ∃ t1 t2 t3 n, (r, listOf #[.int (f 0) t1, .int (f 1) t2, .int (f 2) t3] n) ∈ l
noncomputable def PMIn (l : List (Addr × Obj)) (P : Addr) (p : Int → Int → Int) : Prop := ∃ p0 p1 p2 n, (P, listOf #[.ref p0, .ref p1, .ref p2] n) ∈ l ∧ RowIn l p0 (p 0) ∧ RowIn l p1 (p 1) ∧ RowIn l p2 (p 2)
noncomputable def SMIn (l : List (Addr × Obj)) (P : Addr) (p : Int → Int → Int) : Prop := ∃ p0 p1 p2 p3 n, (P, listOf #[.ref p0, .ref p1, .ref p2, .ref p3] n) ∈ l ∧ RowIn l p0 (p 0) ∧ RowIn l p1 (p 1) ∧ RowIn l p2 (p 2) ∧ RowIn l p3 (p 3)
section
variable {l l' : List (Addr × Obj)} {r P : Addr} {f : Int → Int} {p : Int → Int → Int} {g h : Heap} {L : Addr}
theorem RowIn.mono (H : RowIn l r f) (hs : ∀ q ∈ l, q ∈ l') : RowIn l' r f := by obtain ⟨a, b, c, n, x⟩ := H; exact ⟨a, b, c, n, hs _ x⟩
theorem PMIn.mono (H : PMIn l P p) (hs : ∀ q ∈ l, q ∈ l') : PMIn l' P p := by obtain ⟨a, b, c, n, x, u, v, w⟩ := H; exact ⟨a, b, c, n, hs _ x, u.mono hs, v.mono hs, w.mono hs⟩
theorem SMIn.mono (H : SMIn l P p) (hs : ∀ q ∈ l, q ∈ l') : SMIn l' P p := by obtain ⟨a, b, c, d, n, x, u, v, w, z⟩ := H; exact ⟨a, b, c, d, n, hs _ x, u.mono hs, v.mono hs, w.mono hs, z.mono hs⟩
theorem RowIn.at (H : RowIn l r f) (N : News g L h l') (hs : ∀ q ∈ l, q ∈ l') : RowAt h r f := by obtain ⟨a, b, c, n, x⟩ := H; exact ⟨a, b, c, n, (N _ (hs _ x)).1⟩
theorem PMIn.at (H : PMIn l P p) (N : News g L h l') (hs : ∀ q ∈ l, q ∈ l') : PMAt h P p := by obtain ⟨a, b, c, n, x, u, v, w⟩ := H; exact ⟨a, b, c, n, (N _ (hs _ x)).1, u.at N hs, v.at N hs, w.at N hs⟩
theorem SMIn.at (H : SMIn l P p) (N : News g L h l') (hs : ∀ q ∈ l, q ∈ l') : SMAt h P p := by obtain ⟨a, b, c, d, n, x, u, v, w, z⟩ := H; exact ⟨a, b, c, d, n, (N _ (hs _ x)).1, u.at N hs, v.at N hs, w.at N hs, z.at N hs⟩
end
section
variable {prog : Program} {w : World} {A : Around} {E : Value → Shared → Prop} {s : Shared} {Q : Value → Shared → Prop} {value slice : Expr}
theorem item_h {l : Addr} {vs : List Value} {n : Nat} {k : Int} {u : Tok} {x : Value} (hm : s.heap.get? l = some (listOf vs.toArray n)) (h0 : 0 ≤ k) (h1 : k < 2 ^ 63) (hx : vs[k.toNat]? = some x) (h : Q x s)
    (hs : subscripted slice false (.ref l) (.int k u) = operate [.ref l, .int k u] (getItem (.ref l) (.int k u))) :
    wpAny (model prog w) A (subscriptTail value slice (.ref l) (.int k u)) Q E s := by
  have hl : s.heap.IsList l vs.toArray := ⟨_, hm, rfl, _, rfl⟩
  exact tail_any hl.typeIs slot_list_getitem.lookup (wpAny_getItem_list hl h0 h1 (by simpa using hx) h) hs
theorem row_h {r : Addr} {f : Int → Int} {v : Int} {u : Tok} (H : RowAt s.heap r f) (hv : 0 ≤ v ∧ v < 3) (k : ∀ t, Q (.int (f v) t) s)
    (hs : subscripted slice false (.ref r) (.int v u) = operate [.ref r, .int v u] (getItem (.ref r) (.int v u))) :
    wpAny (model prog w) A (subscriptTail value slice (.ref r) (.int v u)) Q E s := by
  obtain ⟨t1, t2, t3, n, e⟩ := H
  rcases three hv with rfl | rfl | rfl
  · exact item_h e (by decide) (by decide) rfl (k t1) hs
  · exact item_h e (by decide) (by decide) rfl (k t2) hs
  · exact item_h e (by decide) (by decide) rfl (k t3) hs
theorem sm_h {r : Addr} {p : Int → Int → Int} {v : Int} {u : Tok} (H : SMAt s.heap r p) (hv : 0 ≤ v ∧ v < 4) (k : ∀ r, RowAt s.heap r (p v) → Q (.ref r) s)
    (hs : subscripted slice false (.ref r) (.int v u) = operate [.ref r, .int v u] (getItem (.ref r) (.int v u))) :
    wpAny (model prog w) A (subscriptTail value slice (.ref r) (.int v u)) Q E s := by
  refine byG (fun P9 hP9 => ?_)
  obtain ⟨p0, p1, p2, p3, n, e, h0, h1, h2, h3⟩ := H
  refine hP9 ?_
  clear hP9 P9
  rcases four hv with rfl | rfl | rfl | rfl
  · exact item_h e (by decide) (by decide) rfl (k p0 h0) hs
  · exact item_h e (by decide) (by decide) rfl (k p1 h1) hs
  · exact item_h e (by decide) (by decide) rfl (k p2 h2) hs
  · exact item_h e (by decide) (by decide) rfl (k p3 h3) hs
end
noncomputable def TupIn (l : List (Addr × Obj)) (t : Addr) (x : Int) : Prop := ∃ (a b c : Value) (y : Tok) (d : Addr), (t, tupO [a, b, c, .int x y, .ref d]) ∈ l
noncomputable def LvIn (l : List (Addr × Obj)) (B : Addr) (f : Int → Int) : Prop := ∃ a b c n, (B, listOf #[.ref a, .ref b, .ref c] n) ∈ l ∧ TupIn l a (f 0) ∧ TupIn l b (f 1) ∧ TupIn l c (f 2)
noncomputable def BooksIn (l : List (Addr × Obj)) (BK : Addr) (p : Int → Int → Int) : Prop := ∃ a b c d n, (BK, listOf #[.ref a, .ref b, .ref c, .ref d] n) ∈ l ∧ LvIn l a (p 0) ∧ LvIn l b (p 1) ∧ LvIn l c (p 2) ∧ LvIn l d (p 3)
noncomputable def TupAt (h : Heap) (t : Addr) (x : Int) : Prop := ∃ (a b c : Value) (y : Tok) (d : Addr), h.get? t = some (tupO [a, b, c, .int x y, .ref d])
noncomputable def LvAt (h : Heap) (B : Addr) (f : Int → Int) : Prop := ∃ a b c n, h.get? B = some (listOf #[.ref a, .ref b, .ref c] n) ∧ TupAt h a (f 0) ∧ TupAt h b (f 1) ∧ TupAt h c (f 2)
noncomputable def BooksAt (h : Heap) (BK : Addr) (p : Int → Int → Int) : Prop := ∃ a b c d n, h.get? BK = some (listOf #[.ref a, .ref b, .ref c, .ref d] n) ∧ LvAt h a (p 0) ∧ LvAt h b (p 1) ∧ LvAt h c (p 2) ∧ LvAt h d (p 3)
section
variable {l l' : List (Addr × Obj)} {t B : Addr} {x : Int} {f : Int → Int} {p : Int → Int → Int} {g h : Heap} {L : Addr}
theorem TupIn.at (H : TupIn l t x) (N : News g L h l') (hs : ∀ q ∈ l, q ∈ l') : TupAt h t x := by obtain ⟨a, b, c, y, d, e⟩ := H; exact ⟨a, b, c, y, d, (N _ (hs _ e)).1⟩
theorem LvIn.at (H : LvIn l B f) (N : News g L h l') (hs : ∀ q ∈ l, q ∈ l') : LvAt h B f := by obtain ⟨a, b, c, n, e, u, v, w⟩ := H; exact ⟨a, b, c, n, (N _ (hs _ e)).1, u.at N hs, v.at N hs, w.at N hs⟩
theorem BooksIn.at (H : BooksIn l B p) (N : News g L h l') (hs : ∀ q ∈ l, q ∈ l') : BooksAt h B p := by obtain ⟨a, b, c, d, n, e, u, v, w, z⟩ := H; exact ⟨a, b, c, d, n, (N _ (hs _ e)).1, u.at N hs, v.at N hs, w.at N hs, z.at N hs⟩
theorem TupIn.mono (H : TupIn l t x) (hs : ∀ q ∈ l, q ∈ l') : TupIn l' t x := by obtain ⟨a, b, c, y, d, e⟩ := H; exact ⟨a, b, c, y, d, hs _ e⟩
theorem LvIn.mono (H : LvIn l B f) (hs : ∀ q ∈ l, q ∈ l') : LvIn l' B f := by obtain ⟨a, b, c, n, e, u, v, w⟩ := H; exact ⟨a, b, c, n, hs _ e, u.mono hs, v.mono hs, w.mono hs⟩
theorem BooksIn.mono (H : BooksIn l B p) (hs : ∀ q ∈ l, q ∈ l') : BooksIn l' B p := by obtain ⟨a, b, c, d, n, e, u, v, w, z⟩ := H; exact ⟨a, b, c, d, n, hs _ e, u.mono hs, v.mono hs, w.mono hs, z.mono hs⟩
end
section
variable {prog : Program} {w : World} {A : Around} {E : Value → Shared → Prop} {s : Shared} {Q : Value → Shared → Prop} {value slice : Expr}
theorem lv_h {r : Addr} {f : Int → Int} {v : Int} {u : Tok} (H : LvAt s.heap r f) (hv : 0 ≤ v ∧ v < 3) (k : ∀ a, TupAt s.heap a (f v) → Q (.ref a) s)
    (hs : subscripted slice false (.ref r) (.int v u) = operate [.ref r, .int v u] (getItem (.ref r) (.int v u))) :
    wpAny (model prog w) A (subscriptTail value slice (.ref r) (.int v u)) Q E s := by
  obtain ⟨t1, t2, t3, n, e, h0, h1, h2⟩ := H
  rcases three hv with rfl | rfl | rfl
  · exact item_h e (by decide) (by decide) rfl (k t1 h0) hs
  · exact item_h e (by decide) (by decide) rfl (k t2 h1) hs
  · exact item_h e (by decide) (by decide) rfl (k t3 h2) hs
theorem bk_h {r : Addr} {p : Int → Int → Int} {v : Int} {u : Tok} (H : BooksAt s.heap r p) (hv : 0 ≤ v ∧ v < 4) (k : ∀ r, LvAt s.heap r (p v) → Q (.ref r) s)
    (hs : subscripted slice false (.ref r) (.int v u) = operate [.ref r, .int v u] (getItem (.ref r) (.int v u))) :
    wpAny (model prog w) A (subscriptTail value slice (.ref r) (.int v u)) Q E s := by
  obtain ⟨p0, p1, p2, p3, n, e, h0, h1, h2, h3⟩ := H
  rcases four hv with rfl | rfl | rfl | rfl
  · exact item_h e (by decide) (by decide) rfl (k p0 h0) hs
  · exact item_h e (by decide) (by decide) rfl (k p1 h1) hs
  · exact item_h e (by decide) (by decide) rfl (k p2 h2) hs
  · exact item_h e (by decide) (by decide) rfl (k p3 h3) hs
theorem tup3_h {r : Addr} {x : Int} {u : Tok} (H : TupAt s.heap r x) (k : ∀ y, Q (.int x y) s)
    (hs : subscripted slice false (.ref r) (.int 3 u) = operate [.ref r, .int 3 u] (getItem (.ref r) (.int 3 u))) :
    wpAny (model prog w) A (subscriptTail value slice (.ref r) (.int 3 u)) Q E s := by
  refine byG (fun P9 hP9 => ?_)
  obtain ⟨a, b, c, y, d, e⟩ := H
  refine hP9 ?_
  clear hP9 P9
  exact item_tupleT ⟨_, e, rfl, _, rfl⟩ (by decide) (by decide) rfl rfl (k y) hs
end
section
variable {C : Cx} {y9e y9i y9j : Expr} {y9u y9v : Int} {y9pos y9posp y9posq y9posr : Pos} {k : Nat}
theorem Ev.sm2h {y9P : Addr} {y9p : Int → Int → Int} (x9he : Ev C y9e (fun _ => .ref y9P)) (x9H : SMAt C.h y9P y9p) (x9hi : Ev C y9i (Value.int y9u)) (x9hj : Ev C y9j (Value.int y9v)) (x9hu : 0 ≤ y9u ∧ y9u < 4) (x9hv : 0 ≤ y9v ∧ y9v < 3) (x9s1 : Plain y9i) (x9s2 : Plain y9j) : Ev C (.Subscript (.Subscript y9e y9i y9pos) y9j y9posp) (Value.int (y9p y9u y9v)) := .mk fun Q tk k =>
  Subscript_ (Subscript_ (x9he.run _ _ fun _ _ => x9hi.run _ _ fun _ _ => sm_h x9H x9hu (fun y9r H' => x9hj.run _ _ fun _ _ => row_h H' x9hv (fun y9t => k y9t _) (x9s2 _ _ _)) (x9s1 _ _ _)))
theorem Ev.book {y9P : Addr} {y9p : Int → Int → Int} {kk : Nat} (x9he : Ev C y9e (fun _ => .ref y9P)) (x9H : BooksAt C.h y9P y9p) (x9hi : Ev C y9i (Value.int y9u)) (x9hj : Ev C y9j (Value.int y9v)) (x9hu : 0 ≤ y9u ∧ y9u < 4) (x9hv : 0 ≤ y9v ∧ y9v < 3) (x9s1 : Plain y9i) (x9s2 : Plain y9j) (x9s3 : Plain (.Constant (.int 3) kk y9posr)) : Ev C (.Subscript (.Subscript (.Subscript y9e y9i y9pos) y9j y9posp) (.Constant (.int 3) kk y9posr) y9posq) (Value.int (y9p y9u y9v)) := .mk fun Q tk k =>
  Subscript_ (Subscript_ (Subscript_ (x9he.run _ _ fun _ _ => x9hi.run _ _ fun _ _ => bk_h x9H x9hu (fun y9r H' => x9hj.run _ _ fun _ _ => lv_h H' x9hv (fun a H2 => wpAny_Constant_int (tup3_h H2 (fun y9t => k y9t _) (x9s3 _ _ _))) (x9s2 _ _ _)) (x9s1 _ _ _))))
end
end Mine
end
section
open PySem PySem.W PyProof.Rows PySem.Spec PySem.Calls PyProof.V
namespace Mine
section
variable {w : World} {A : Around} {h₀ : Heap} {L : Addr} {m : Str → Option Value} {env : Env} {elt : Expr} {x : Str} {scope : Scope} {cl : List (Str × Addr)} {S : List (Addr × Obj) → Prop} {Fin : List Value → List (Addr × Obj) → Prop} {news : List (Addr × Obj)} {g : Heap} {gn : Array GenState} {dr : Drawn} {tk₀ : Nat} {os : OsState}
theorem cr_ints3 {f : Int → Int} (hS : S news)
    (h : ∀ (u : Int) t I oI C oC D oD m₂ h₁ (E' : Value → Shared → Prop), 0 ≤ u ∧ u < 3 → LCg.NsObj oC m₂ → m₂ x = some (.int u t) → Fr h₀ L h₁ m → News h₀ L h₁ ((I, oI) :: (C, oC) :: (D, oD) :: news) → Ev ⟨w, A, E', compEnvC scope cl C env, h₁, gn, dr, os⟩ elt (Value.int (f u)))
    (k : ∀ t1 t2 t3, Fin [.int (f 0) t1, .int (f 1) t2, .int (f 2) t3] news) :
    LCg.CompRest prg w A h₀ L m env elt x scope cl (Shared.mk g gn dr tk₀ os) S (fun i v => ∃ t, v = .int (0 + (i : Int)) t) Fin 3 0 [] news := by
  have turn : ∀ (n i : Nat) (ys : List Value), i < 3 → (∀ t, LCg.CompRest prg w A h₀ L m env elt x scope cl (Shared.mk g gn dr tk₀ os) S (fun i v => ∃ t, v = .int (0 + (i : Int)) t) Fin n (i + 1) (ys ++ [.int (f (i : Int)) t]) news) →
      LCg.CompRest prg w A h₀ L m env elt x scope cl (Shared.mk g gn dr tk₀ os) S (fun i v => ∃ t, v = .int (0 + (i : Int)) t) Fin (n + 1) i ys news := fun n i ys hi ih =>
    cr_turn (v := fun t : Tok => .int (i : Int) t) (fun u hu => by obtain ⟨t, e⟩ := hu; rw [Int.zero_add] at e; exact ⟨t, e⟩) fun t I oI C oC D m₂ h₁ tk E' hC hx F N off ne => (h _ t I oI C oC D _ m₂ h₁ E' ⟨by omega, by omega⟩ hC hx F N).run _ _ fun t' tk' =>
      LCg.CompEnd.intro F N news (fun _ hp => hp) off hS (ih t')
  exact turn 2 0 [] (by decide) fun t1 => turn 1 1 _ (by decide) fun t2 => turn 0 2 _ (by decide) fun t3 => k t1 t2 t3
structure RowEv (w : World) (A : Around) (env : Env) (h₀ : Heap) (L : Addr) (m : Str → Option Value) (gn : Array GenState) (dr : Drawn) (os : OsState) (news : List (Addr × Obj)) (e : Expr) (f : Int → Int) : Prop where
  run : ∀ (Q E : Value → Shared → Prop) (h : Heap) (tk : Nat), Fr h₀ L h m → News h₀ L h news →
    (∀ D t1 t2 t3 h' tk', Fr h₀ L h' m → News h₀ L h' ((D, LCg.lst [.int (f 0) t1, .int (f 1) t2, .int (f 2) t3]) :: news) → LCg.Off1 D news → Q (.ref D) (Shared.mk h' gn dr tk' os)) →
    wpAny (model prg w) A (eval e env) Q E (Shared.mk h gn dr tk os)
noncomputable abbrev NoCell' (l : List (Addr × Obj)) : Prop := ∀ p ∈ l, ∀ u, p.2.data ≠ .cell u
noncomputable def SubC (l l' : List (Addr × Obj)) : Prop := ∀ q ∈ l, q ∈ l'
theorem SubC.mem {l l' : List (Addr × Obj)} {q : Addr × Obj} (h : SubC l l') (hq : q ∈ l) : q ∈ l' := h q hq
theorem SubC.mem' {l l' : List (Addr × Obj)} {q : Addr × Obj} (h : SubC l l') (hq : List.Mem q l) : List.Mem q l' := h q hq
theorem SubC.all {l l' k : List (Addr × Obj)} (h : SubC l l') (hk : ∀ q ∈ k, q ∈ l) : ∀ q ∈ k, q ∈ l' := fun q hq => h q (hk q hq)
section
variable {P : Nat → Value → Prop} {gl : Nat → Int} {fs : Nat → Int → Int}
theorem crc_row (hS : ∀ l, S (l ++ news)) {n i : Nat} {rows : List (Addr × Obj)} {ys : List Value} (hp : ∀ v, P i v → ∃ t, v = .int (gl i) t)
    (h : ∀ t C c oc news', oc.data = .cell (some (.int (gl i) t)) → (c, oc) ∈ news' → SubC news news' → RowEv w A (compEnvC scope ((x, c) :: cl) C env) h₀ L m gn dr os news' elt (fs i))
    (k : ∀ D row, RowIn [(D, row)] D (fs i) → (∀ u, row.data ≠ .cell u) → CRest prg w A h₀ L m env elt x scope cl (Shared.mk g gn dr tk₀ os) S P Fin n (i + 1) (ys ++ [.ref D]) (((D, row) :: rows) ++ news)) :
    CRest prg w A h₀ L m env elt x scope cl (Shared.mk g gn dr tk₀ os) S P Fin (n + 1) i ys (rows ++ news) :=
  crc_turn (v := fun t : Tok => .int (gl i) t) hp fun t I oI C oC c oc D h₁ tk E' hc F N off ne => by
    refine byG (fun P9 hP9 => ?_)
    obtain ⟨n1, n2, n3, n4, n5, n6⟩ := ne
    refine hP9 ?_
    clear hP9 P9
    refine (h t C c oc ((I, oI) :: (C, oC) :: (c, oc) :: (D, LCg.lst ys) :: (rows ++ news)) hc (.tail _ (.tail _ (.head _))) fun q hq => .tail _ (.tail _ (.tail _ (.tail _ (List.mem_append_right _ hq))))).run _ _ _ _ F N fun D' t1 t2 t3 h' tk' F' N' o' => ?_
    refine byG (fun P9 hP9 => ?_)
    obtain ⟨o1, o2, o3, o4, _⟩ := o'
    refine hP9 ?_
    clear hP9 P9
    exact CEnd.keep F' N' off ⟨Ne.symm o1, Ne.symm o2, Ne.symm o3, Ne.symm o4⟩ (hS (_ :: rows)) (k D' _ ⟨t1, t2, t3, 3, .head _⟩ fun u e => nomatch e)
theorem crc_rows4 (hS : ∀ l, S (l ++ news)) (hp : ∀ i v, i < 4 → P i v → ∃ t, v = .int (gl i) t)
    (h : ∀ i, i < 4 → ∀ t C c oc news', oc.data = .cell (some (.int (gl i) t)) → (c, oc) ∈ news' → SubC news news' → RowEv w A (compEnvC scope ((x, c) :: cl) C env) h₀ L m gn dr os news' elt (fs i))
    (k : ∀ r0 r1 r2 r3 rows, RowIn rows r0 (fs 0) → RowIn rows r1 (fs 1) → RowIn rows r2 (fs 2) → RowIn rows r3 (fs 3) → NoCell' rows → Fin [.ref r0, .ref r1, .ref r2, .ref r3] (rows ++ news)) :
    CRest prg w A h₀ L m env elt x scope cl (Shared.mk g gn dr tk₀ os) S P Fin 4 0 [] news :=
  crc_row (rows := []) hS (hp 0 · (by decide)) (h 0 (by decide)) fun r0 o0 h0 c0 => crc_row hS (hp 1 · (by decide)) (h 1 (by decide)) fun r1 o1 h1 c1 => crc_row hS (hp 2 · (by decide)) (h 2 (by decide)) fun r2 o2 h2 c2 => crc_row hS (hp 3 · (by decide)) (h 3 (by decide)) fun r3 o3 h3 c3 =>
    k r0 r1 r2 r3 [(r3, o3), (r2, o2), (r1, o1), (r0, o0)] (h0.mono fun q hq => .tail _ (.tail _ (.tail _ hq))) (h1.mono fun q hq => by rw [List.mem_singleton] at hq; subst hq; exact .tail _ (.tail _ (.head _))) (h2.mono fun q hq => by rw [List.mem_singleton] at hq; subst hq; exact .tail _ (.head _)) (h3.mono fun q hq => by rw [List.mem_singleton] at hq; subst hq; exact .head _)
      (List.forall_mem_cons.mpr ⟨c3, List.forall_mem_cons.mpr ⟨c2, List.forall_mem_cons.mpr ⟨c1, List.forall_mem_cons.mpr ⟨c0, List.forall_mem_nil _⟩⟩⟩⟩)
theorem crc_rows3 (hS : ∀ l, S (l ++ news)) (hp : ∀ i v, i < 3 → P i v → ∃ t, v = .int (gl i) t)
    (h : ∀ i, i < 3 → ∀ t C c oc news', oc.data = .cell (some (.int (gl i) t)) → (c, oc) ∈ news' → SubC news news' → RowEv w A (compEnvC scope ((x, c) :: cl) C env) h₀ L m gn dr os news' elt (fs i))
    (k : ∀ r0 r1 r2 rows, RowIn rows r0 (fs 0) → RowIn rows r1 (fs 1) → RowIn rows r2 (fs 2) → NoCell' rows → Fin [.ref r0, .ref r1, .ref r2] (rows ++ news)) :
    CRest prg w A h₀ L m env elt x scope cl (Shared.mk g gn dr tk₀ os) S P Fin 3 0 [] news :=
  crc_row (rows := []) hS (hp 0 · (by decide)) (h 0 (by decide)) fun r0 o0 h0 c0 => crc_row hS (hp 1 · (by decide)) (h 1 (by decide)) fun r1 o1 h1 c1 => crc_row hS (hp 2 · (by decide)) (h 2 (by decide)) fun r2 o2 h2 c2 =>
    k r0 r1 r2 [(r2, o2), (r1, o1), (r0, o0)] (h0.mono fun q hq => .tail _ (.tail _ hq)) (h1.mono fun q hq => by rw [List.mem_singleton] at hq; subst hq; exact .tail _ (.head _)) (h2.mono fun q hq => by rw [List.mem_singleton] at hq; subst hq; exact .head _)
      (List.forall_mem_cons.mpr ⟨c2, List.forall_mem_cons.mpr ⟨c1, List.forall_mem_cons.mpr ⟨c0, List.forall_mem_nil _⟩⟩⟩)
end
theorem rows_src {h₀ : Heap} {ax : Addr} {its : Array Value} {news : List (Addr × Obj)} (h : LCg.SrcAt h₀ ax its news) : ∀ l : List (Addr × Obj), LCg.SrcAt h₀ ax its (l ++ news) := fun l => h.imp id fun ⟨o, hm, r⟩ => ⟨o, List.mem_append_right _ hm, r⟩
theorem rows_range {n : Nat} : ∀ (i : Nat) (v : Value), i < n → (fun (i : Nat) (v : Value) => ∃ t, v = Value.int (0 + (i : Int)) t) i v → ∃ t, v = .int ((fun i : Nat => (i : Int)) i) t := fun i v _ ⟨t, e⟩ => ⟨t, by rw [e, Int.zero_add]⟩
theorem SMIn.of {rows l : List (Addr × Obj)} {D r0 r1 r2 r3 : Addr} {n : Nat} {p : Int → Int → Int} (h0 : RowIn rows r0 (p 0)) (h1 : RowIn rows r1 (p 1)) (h2 : RowIn rows r2 (p 2)) (h3 : RowIn rows r3 (p 3)) (hD : (D, listOf #[.ref r0, .ref r1, .ref r2, .ref r3] n) ∈ l) (hs : ∀ q ∈ rows, q ∈ l) : SMIn l D p :=
  ⟨r0, r1, r2, r3, n, hD, h0.mono hs, h1.mono hs, h2.mono hs, h3.mono hs⟩
theorem PMIn.of {rows l : List (Addr × Obj)} {D r0 r1 r2 : Addr} {n : Nat} {p : Int → Int → Int} (h0 : RowIn rows r0 (p 0)) (h1 : RowIn rows r1 (p 1)) (h2 : RowIn rows r2 (p 2)) (hD : (D, listOf #[.ref r0, .ref r1, .ref r2] n) ∈ l) (hs : ∀ q ∈ rows, q ∈ l) : PMIn l D p :=
  ⟨r0, r1, r2, n, hD, h0.mono hs, h1.mono hs, h2.mono hs⟩
end
end Mine
end
section
open PySem PySem.W PyProof.Rows PySem.Spec PySem.Calls PyProof.V
namespace Mine
noncomputable def IsRow (o : Obj) (f : Int → Int) : Prop := ∃ t1 t2 t3 n, o = listOf #[.int (f 0) t1, .int (f 1) t2, .int (f 2) t3] n
section
variable {w : World} {A : Around} {h₀ : Heap} {L : Addr} {m : Str → Option Value} {env : Env} {elt : Expr} {x : Str} {scope : Scope} {cl : List (Str × Addr)} {S : List (Addr × Obj) → Prop} {Fin : List Value → List (Addr × Obj) → Prop} {news : List (Addr × Obj)} {g : Heap} {gn : Array GenState} {dr : Drawn} {tk₀ : Nat} {os : OsState} {P : Nat → Value → Prop} {f : Int → Int}
structure RowEvN (w : World) (A : Around) (env : Env) (h₀ : Heap) (L : Addr) (m : Str → Option Value) (gn : Array GenState) (dr : Drawn) (os : OsState) (news : List (Addr × Obj)) (e : Expr) (f : Int → Int) : Prop where
  run : ∀ (Q E : Value → Shared → Prop) (h : Heap) (tk : Nat), Fr h₀ L h m → News h₀ L h news →
    (∀ D o h' tk', IsRow o f → Fr h₀ L h' m → News h₀ L h' ((D, o) :: news) → OffD D news → Q (.ref D) (Shared.mk h' gn dr tk' os)) →
    wpAny (model prg w) A (eval e env) Q E (Shared.mk h gn dr tk os)
theorem cr_row (hS : ∀ l, S l) {n i : Nat} {ys : List Value}
    (h : ∀ C I oI oC D oD news, RowEvN w A (compEnvC scope cl C env) h₀ L m gn dr os ((I, oI) :: (C, oC) :: (D, oD) :: news) elt f)
    (k : ∀ r o, IsRow o f → OffD r news → LCg.CompRest prg w A h₀ L m env elt x scope cl (Shared.mk g gn dr tk₀ os) S P Fin n (i + 1) (ys ++ [.ref r]) ((r, o) :: news)) :
    LCg.CompRest prg w A h₀ L m env elt x scope cl (Shared.mk g gn dr tk₀ os) S P Fin (n + 1) i ys news := by
  intro v' I oI C oC D m₂ hh tk E' hv hC hx F N off ne
  refine (h C I oI oC D _ news).run _ _ _ _ F N fun r o h' tk' hr F' N' o' => ?_
  exact keep1 F' N' off ⟨Ne.symm (o' _ (.head _)), Ne.symm (o' _ (.tail _ (.head _))), Ne.symm (o' _ (.tail _ (.tail _ (.head _))))⟩ (hS _) (k r _ hr fun q hq => o' q (.tail _ (.tail _ (.tail _ hq))))
theorem cr_rows4 (hS : ∀ l, S l)
    (h : ∀ C I oI oC D oD news, RowEvN w A (compEnvC scope cl C env) h₀ L m gn dr os ((I, oI) :: (C, oC) :: (D, oD) :: news) elt f)
    (k : ∀ r0 r1 r2 r3 o0 o1 o2 o3, IsRow o0 f → IsRow o1 f → IsRow o2 f → IsRow o3 f → OffD r0 news → OffD r1 ((r0, o0) :: news) → OffD r2 ((r1, o1) :: (r0, o0) :: news) → OffD r3 ((r2, o2) :: (r1, o1) :: (r0, o0) :: news) → Fin [.ref r0, .ref r1, .ref r2, .ref r3] ((r3, o3) :: (r2, o2) :: (r1, o1) :: (r0, o0) :: news)) :
    LCg.CompRest prg w A h₀ L m env elt x scope cl (Shared.mk g gn dr tk₀ os) S P Fin 4 0 [] news :=
  cr_row hS h fun r0 o0 i0 f0 => cr_row hS h fun r1 o1 i1 f1 => cr_row hS h fun r2 o2 i2 f2 => cr_row hS h fun r3 o3 i3 f3 => k r0 r1 r2 r3 o0 o1 o2 o3 i0 i1 i2 i3 f0 f1 f2 f3
end
theorem isrow3 {o : Obj} {a : Int} (h : IsRow o (fun _ => a)) : ∃ R : Row3, o = R.obj ∧ R.x = a ∧ R.y = a ∧ R.z = a := by
  obtain ⟨t1, t2, t3, n, rfl⟩ := h
  exact ⟨⟨a, a, a, t1, t2, t3, n⟩, rfl, rfl, rfl, rfl⟩
theorem rows_off {rs : List (Addr × Row3)} {Y : List (Addr × Obj)} {bs : List Addr} {D : Addr} (h : OffD D (rowsO rs ++ Y)) (hb : rs.map (·.1) = bs) : (∀ b ∈ bs, @Ne Nat b D) ∧ OffD D Y := by
  subst hb
  refine ⟨fun b hb => ?_, fun q hq => h q (List.mem_append_right _ hq)⟩
  obtain ⟨r, hr, rfl⟩ := List.mem_map.mp hb
  exact h (r.1, r.2.obj) (List.mem_append_left _ (List.mem_map_of_mem (f := fun r : Addr × Row3 => (r.1, r.2.obj)) hr))
theorem pick_off {l1 l2 : List (Addr × Row3)} {b : Addr} {R : Row3} {Y : List (Addr × Obj)} {bs : List Addr} (hb : (l1 ++ (b, R) :: l2).map (·.1) = bs) (hn : bs.Nodup) (hY : OwnOff Y bs) : OffD b (rowsO l1 ++ (rowsO l2 ++ Y)) := by
  subst hb
  rw [List.map_append, List.map_cons] at hn
  have h1 := List.nodup_append.mp hn
  have h2 := List.nodup_cons.mp h1.2.1
  intro q hq
  rcases List.mem_append.mp hq with hq | hq
  · exact h1.2.2 _ (rowsO_fst hq) _ (.head _)
  rcases List.mem_append.mp hq with hq | hq
  · intro e
    exact h2.1 (e ▸ rowsO_fst hq)
  · exact hY q hq b (by rw [List.map_append, List.map_cons]; exact List.mem_append_right _ (.head _))
theorem pick_offJ {l1 l2 : List (Addr × Row3)} {b J : Addr} {R : Row3} {Y : List (Addr × Obj)} {bs : List Addr} (hb : (l1 ++ (b, R) :: l2).map (·.1) = bs) (hn : ∀ c ∈ bs, @Ne Nat c J) (hY : OffD J Y) : OffD J (rowsO l1 ++ (rowsO l2 ++ Y)) ∧ @Ne Nat b J := by
  subst hb
  refine ⟨fun q hq => ?_, hn b (by rw [List.map_append, List.map_cons]; exact List.mem_append_right _ (.head _))⟩
  rcases List.mem_append.mp hq with hq | hq
  · exact hn _ (by rw [List.map_append]; exact List.mem_append_left _ (rowsO_fst hq))
  rcases List.mem_append.mp hq with hq | hq
  · exact hn _ (by rw [List.map_append, List.map_cons]; exact List.mem_append_right _ (.tail _ (rowsO_fst hq)))
  · exact hY q hq
theorem pick_bs {l1 l2 : List (Addr × Row3)} {b : Addr} {R : Row3} {bs : List Addr} {i : Nat} (hb : (l1 ++ (b, R) :: l2).map (·.1) = bs) (hi : l1.length = i) : (bs.map Value.ref)[i]? = some (.ref b) ∧ b ∈ bs := by
  subst hb hi
  refine ⟨?_, by rw [List.map_append, List.map_cons]; exact List.mem_append_right _ (.head _)⟩
  rw [List.map_append, List.map_cons, List.map_append, List.getElem?_append_right (by simp)]
  simp
theorem rows_mv {a b : Addr × Obj} {R Y : List (Addr × Obj)} : ∀ q ∈ b :: (R ++ (a :: Y)), q ∈ a :: b :: (R ++ Y) := fun q hq => by
  rcases List.mem_cons.mp hq with rfl | hq
  · exact .tail _ (.head _)
  rcases List.mem_append.mp hq with hq | hq
  · exact .tail _ (.tail _ (List.mem_append_left _ hq))
  rcases List.mem_cons.mp hq with rfl | hq
  · exact .head _
  · exact .tail _ (.tail _ (List.mem_append_right _ hq))
theorem most_turnW {h₀ : Heap} {L : Addr} {s₁ : Shared} {h' : Heap} {tk : Nat} {S : List Str} {m m' : Str → Option Value} {all Y : List (Addr × Obj)} {bs : List Addr} {I MO W : Addr} {it oM oW : Obj} {rs : List (Addr × Row3)} {done spec : List (List Int × Int)} {p : List Int × Int} {r : List (List Int × Int)} {Pk : List (List Int × Int) → Nat → Row3 → Prop}
    (F : Fr h₀ L h' m') (N : News h₀ L h' all) (hs : ∀ q ∈ (MO, oM) :: (rowsO rs ++ ((I, it) :: Y)), q ∈ all) (hW : (W, oW) ∈ Y) (hbs : rs.map (·.1) = bs) (nI : ∀ b ∈ bs, @Ne Nat b I) (nM : @Ne Nat MO I) (nY : OffD I Y) (hag : Agree S m m') (hd : done ++ p :: r = spec) (hP : ∀ (k : Nat) (q : Addr × Row3), rs[k]? = some q → Pk (done ++ [p]) k q.2) :
    UnrEndW h₀ L s₁ [(I, it)] (fun m' n' => SubL [(W, oW)] n' ∧ Agree S m m' ∧ ∃ done, done ++ r = spec ∧ MIn MO oM bs Y (Pk done) n') { s₁ with heap := h', toks := tk } := by
  refine turn_end F N ((MO, oM) :: (rowsO rs ++ Y)) ?_ ?_ ?_ ⟨⟨.tail _ (List.mem_append_right _ hW), trivial⟩, hag, done ++ [p], by simp [← hd], rs, hbs, rfl, hP⟩
  · exact List.forall_mem_cons.mpr ⟨hs _ (.tail _ (List.mem_append_right _ (.head _))), List.forall_mem_nil _⟩
  · exact fun q hq => hs q (by
      rcases List.mem_cons.mp hq with rfl | hq
      · exact .head _
      rcases List.mem_append.mp hq with hq | hq
      · exact .tail _ (List.mem_append_left _ hq)
      · exact .tail _ (List.mem_append_right _ (.tail _ hq)))
  · intro q hq b hb
    rw [List.mem_singleton] at hb
    subst hb
    rcases List.mem_cons.mp hq with rfl | hq
    · exact nM
    rcases List.mem_append.mp hq with hq | hq
    · exact nI _ (hbs ▸ rowsO_fst hq)
    · exact nY q hq
theorem mapc {α β : Type} {f : α → β} {rs : List α} {b : β} {bs : List β} (h : rs.map f = b :: bs) : ∃ r rs', rs = r :: rs' ∧ f r = b ∧ rs'.map f = bs := List.map_eq_cons_iff.mp h
theorem rs4 {rs : List (Addr × Row3)} {a b c d : Addr} (h : rs.map (·.1) = [a, b, c, d]) : ∃ A B C D, rs = [(a, A), (b, B), (c, C), (d, D)] := by
  obtain ⟨A, _, rfl, rfl, h1⟩ := mapc h
  obtain ⟨B, _, rfl, rfl, h2⟩ := mapc h1
  obtain ⟨C, _, rfl, rfl, h3⟩ := mapc h2
  obtain ⟨D, _, rfl, rfl, h4⟩ := mapc h3
  rw [List.map_eq_nil_iff.mp h4]
  exact ⟨A.2, B.2, C.2, D.2, rfl⟩
theorem four_nth {α : Type} {Q : Nat → α → Prop} {a b c d : α} (ha : Q 0 a) (hb : Q 1 b) (hc : Q 2 c) (hd : Q 3 d) (k : Nat) (r : α) (h : [a, b, c, d][k]? = some r) : Q k r := by
  have hk : k < 4 := by
    rcases Nat.lt_or_ge k 4 with h2 | h2
    · exact h2
    · rw [List.getElem?_eq_none h2] at h; cases h
  have e : k = 0 ∨ k = 1 ∨ k = 2 ∨ k = 3 := by omega
  rcases e with rfl | rfl | rfl | rfl <;> (cases h; assumption)
theorem nd4 {a b c d : Addr} (h1 : @Ne Nat b a) (h2 : @Ne Nat c a) (h3 : @Ne Nat c b) (h4 : @Ne Nat d a) (h5 : @Ne Nat d b) (h6 : @Ne Nat d c) : [a, b, c, d].Nodup := by
  have e1 : ¬ a = b := Ne.symm h1
  have e2 : ¬ a = c := Ne.symm h2
  have e3 : ¬ b = c := Ne.symm h3
  have e4 : ¬ a = d := Ne.symm h4
  have e5 : ¬ b = d := Ne.symm h5
  have e6 : ¬ c = d := Ne.symm h6
  simp [e1, e2, e3, e4, e5, e6]
noncomputable def MostPost (spec : List (List Int × Int)) (v : Value) (tl : List (Addr × Obj)) : Prop := ∃ MO b0 b1 b2 b3 R0 R1 R2 R3, v = .ref MO ∧ tl = [(MO, LCg.lst [.ref b0, .ref b1, .ref b2, .ref b3]), (b0, Row3.obj R0), (b1, Row3.obj R1), (b2, Row3.obj R2), (b3, Row3.obj R3)] ∧ RowIs spec 0 R0 ∧ RowIs spec 1 R1 ∧ RowIs spec 2 R2 ∧ RowIs spec 3 R3
theorem most_start {h₀ h : Heap} {L : Addr} {MO r0 r1 r2 r3 : Addr} {o0 o1 o2 o3 oM : Obj} {Y : List (Addr × Obj)} (N : News h₀ L h ((MO, oM) :: (r3, o3) :: (r2, o2) :: (r1, o1) :: (r0, o0) :: Y)) (oMO : OffD MO ((r3, o3) :: (r2, o2) :: (r1, o1) :: (r0, o0) :: Y)) (i0 : IsRow o0 (fun _ => -1)) (i1 : IsRow o1 (fun _ => -1)) (i2 : IsRow o2 (fun _ => -1)) (i3 : IsRow o3 (fun _ => -1))
    (f0 : OffD r0 Y) (f1 : OffD r1 ((r0, o0) :: Y)) (f2 : OffD r2 ((r1, o1) :: (r0, o0) :: Y)) (f3 : OffD r3 ((r2, o2) :: (r1, o1) :: (r0, o0) :: Y)) :
    ∃ news, News h₀ L h news ∧ MIn MO oM [r0, r1, r2, r3] Y (RowIs []) news ∧ [r0, r1, r2, r3].Nodup ∧ OwnOff Y [r0, r1, r2, r3] ∧ (∀ b ∈ [r0, r1, r2, r3], @Ne Nat b MO) ∧ OffD MO Y := by
  refine byG (fun P9 hP9 => ?_)
  obtain ⟨R0, rfl, x0, y0, z0⟩ := isrow3 i0
  obtain ⟨R1, rfl, x1, y1, z1⟩ := isrow3 i1
  obtain ⟨R2, rfl, x2, y2, z2⟩ := isrow3 i2
  obtain ⟨R3, rfl, x3, y3, z3⟩ := isrow3 i3
  refine hP9 ?_
  clear hP9 P9
  refine ⟨(MO, oM) :: (rowsO [(r0, R0), (r1, R1), (r2, R2), (r3, R3)] ++ Y), Mine.News.sub N ?_, ⟨_, rfl, rfl, four_nth ⟨x0, y0, z0⟩ ⟨x1, y1, z1⟩ ⟨x2, y2, z2⟩ ⟨x3, y3, z3⟩⟩, nd4 (Ne.symm (f1 _ (.head _))) (Ne.symm (f2 _ (.tail _ (.head _)))) (Ne.symm (f2 _ (.head _))) (Ne.symm (f3 _ (.tail _ (.tail _ (.head _))))) (Ne.symm (f3 _ (.tail _ (.head _)))) (Ne.symm (f3 _ (.head _))), ?_, ?_, fun q hq => oMO q (.tail _ (.tail _ (.tail _ (.tail _ hq))))⟩
  · intro q hq
    rcases List.mem_cons.mp hq with rfl | hq
    · exact .head _
    rcases List.mem_append.mp hq with hq | hq
    · simp only [rowsO, List.map_cons, List.map_nil, List.mem_cons, List.not_mem_nil, or_false] at hq
      rcases hq with rfl | rfl | rfl | rfl
      · exact .tail _ (.tail _ (.tail _ (.tail _ (.head _))))
      · exact .tail _ (.tail _ (.tail _ (.head _)))
      · exact .tail _ (.tail _ (.head _))
      · exact .tail _ (.head _)
    · exact .tail _ (.tail _ (.tail _ (.tail _ (.tail _ hq))))
  · intro q hq b hb
    simp only [List.mem_cons, List.not_mem_nil, or_false] at hb
    rcases hb with rfl | rfl | rfl | rfl
    · exact f0 q hq
    · exact f1 q (.tail _ hq)
    · exact f2 q (.tail _ (.tail _ hq))
    · exact f3 q (.tail _ (.tail _ (.tail _ hq)))
  · exact List.forall_mem_cons.mpr ⟨oMO _ (.tail _ (.tail _ (.tail _ (.head _)))), List.forall_mem_cons.mpr ⟨oMO _ (.tail _ (.tail _ (.head _))), List.forall_mem_cons.mpr ⟨oMO _ (.tail _ (.head _)), List.forall_mem_cons.mpr ⟨oMO _ (.head _), List.forall_mem_nil _⟩⟩⟩⟩
theorem most_done {h₀ h : Heap} {L : Addr} {MO a b c d W : Addr} {oM oW : Obj} {tups news : List (Addr × Obj)} {spec : List (List Int × Int)} (hi : MIn MO oM [a, b, c, d] ((W, oW) :: tups) (RowIs spec) news) (N : News h₀ L h news) (nM : OffD MO ((W, oW) :: tups)) (nY : OwnOff ((W, oW) :: tups) [a, b, c, d]) :
    ∃ R0 R1 R2 R3, (∀ q ∈ [(MO, oM), (a, Row3.obj R0), (b, Row3.obj R1), (c, Row3.obj R2), (d, Row3.obj R3)], q ∈ news) ∧ (∀ q ∈ (W, oW) :: tups, q ∈ news) ∧ (∀ q ∈ (W, oW) :: tups, ∀ p ∈ [(MO, oM), (a, Row3.obj R0), (b, Row3.obj R1), (c, Row3.obj R2), (d, Row3.obj R3)], p.1 ≠ q.1) ∧ RowIs spec 0 R0 ∧ RowIs spec 1 R1 ∧ RowIs spec 2 R2 ∧ RowIs spec 3 R3 := by
  refine byG (fun P9 hP9 => ?_)
  obtain ⟨rs, hb, rfl, hP⟩ := hi
  obtain ⟨R0, R1, R2, R3, rfl⟩ := rs4 hb
  refine hP9 ?_
  clear hP9 P9
  have hy : ∀ q ∈ (W, oW) :: tups, ∀ e ∈ [a, b, c, d], e ≠ q.1 := fun q hq e he => Ne.symm (nY q hq e he)
  refine ⟨R0, R1, R2, R3, ?_, fun q hq => .tail _ (List.mem_append_right _ hq), fun q hq => ?_, hP 0 _ rfl, hP 1 _ rfl, hP 2 _ rfl, hP 3 _ rfl⟩
  · exact List.forall_mem_cons.mpr ⟨.head _, List.forall_mem_cons.mpr ⟨.tail _ (.head _), List.forall_mem_cons.mpr ⟨.tail _ (.tail _ (.head _)), List.forall_mem_cons.mpr ⟨.tail _ (.tail _ (.tail _ (.head _))), List.forall_mem_cons.mpr ⟨.tail _ (.tail _ (.tail _ (.tail _ (.head _)))), List.forall_mem_nil _⟩⟩⟩⟩⟩
  · exact List.forall_mem_cons.mpr ⟨Ne.symm (nM q hq), List.forall_mem_cons.mpr ⟨hy q hq _ (.head _), List.forall_mem_cons.mpr ⟨hy q hq _ (.tail _ (.head _)), List.forall_mem_cons.mpr ⟨hy q hq _ (.tail _ (.tail _ (.head _))), List.forall_mem_cons.mpr ⟨hy q hq _ (.tail _ (.tail _ (.tail _ (.head _)))), List.forall_mem_nil _⟩⟩⟩⟩⟩
theorem MIn.mem {MO : Addr} {oM : Obj} {bs : List Addr} {Y news : List (Addr × Obj)} {P : Nat → Row3 → Prop} (h : MIn MO oM bs Y P news) : ∀ q ∈ Y, q ∈ news := by
  obtain ⟨rs, _, rfl, _⟩ := h
  exact fun q hq => .tail _ (List.mem_append_right _ hq)
theorem MIn.off {MO D : Addr} {oM : Obj} {bs : List Addr} {Y news : List (Addr × Obj)} {P : Nat → Row3 → Prop} (h : MIn MO oM bs Y P news) (hD : OffD D news) : (∀ b ∈ bs, @Ne Nat b D) ∧ @Ne Nat MO D ∧ OffD D Y := by
  refine byG (fun P9 hP9 => ?_)
  obtain ⟨rs, hb, rfl, _⟩ := h
  refine hP9 ?_
  clear hP9 P9
  have := rows_off (fun q hq => hD q (.tail _ hq)) hb
  exact ⟨this.1, hD _ (.head _), this.2⟩
theorem at4 {ls : List Int} {i : Nat} (h4 : ls.length = 4) (ht : Tags ls) (hi : i < 4) : ∃ a, ls[i]? = some a ∧ (0 ≤ a ∧ a < 3) ∧ ls.length ≤ 100 ∧ -(ls.length : Int) ≤ 0 + (i : Int) ∧ 0 + (i : Int) < ls.length ∧ ls[(if 0 + (i : Int) < 0 then 0 + (i : Int) + ls.length else 0 + (i : Int)).toNat]? = some a ∧ decide (0 ≤ 0 + (i : Int) ∧ 0 + (i : Int) < 2 ^ 63) = true := by
  have hlt : i < ls.length := by omega
  refine ⟨ls[i], List.getElem?_eq_getElem hlt, ht _ (List.getElem_mem hlt), by omega, by omega, by omega, ?_, decide_eq_true ⟨by omega, by omega⟩⟩
  rw [if_neg (by omega), Int.zero_add, Int.toNat_natCast]
  exact List.getElem?_eq_getElem hlt
theorem if_lt_self {P : List (List Int × Int) → Prop} {i : Nat} {a b : List (List Int × Int)} (h : P (if i < i then a else b)) : P b := by rwa [if_neg (Nat.lt_irrefl i)] at h
theorem lt4_of {rs : List (Addr × Row3)} {a b c d : Addr} {k : Nat} {q : Addr × Row3} (h : rs.map (·.1) = [a, b, c, d]) (hk : rs[k]? = some q) : k < 4 := by
  have h1 := congrArg List.length h
  rw [List.length_map] at h1
  have : k < rs.length := by
    rcases Nat.lt_or_ge k rs.length with h2 | h2
    · exact h2
    · rw [List.getElem?_eq_none h2] at hk; cases hk
  rw [h1] at this
  exact this
theorem own_cons {I : Addr} {o : Obj} {Y : List (Addr × Obj)} {bs : List Addr} (h : ∀ b ∈ bs, @Ne Nat b I) (k : OwnOff Y bs) : OwnOff ((I, o) :: Y) bs := fun q hq b hb => by
  rcases List.mem_cons.mp hq with rfl | hq
  · exact Ne.symm (h b hb)
  · exact k q hq b hb
end Mine
end
section
open PySem PySem.W PyProof.Rows PySem.Spec PySem.Calls PyProof.V
namespace Mine
noncomputable abbrev lev4 (L0 L1 L2 L3 : Lev) (k : Int) : Lev := if k = 0 then L0 else if k = 1 then L1 else if k = 2 then L2 else L3
noncomputable abbrev tr4 (A0 A1 A2 A3 : T3) (k : Int) : T3 := if k = 0 then A0 else if k = 1 then A1 else if k = 2 then A2 else A3
noncomputable def bkT (L0 L1 L2 L3 : Lev) (k c : Int) : Int := ((lev4 L0 L1 L2 L3 k).at c).ct
noncomputable def trT (A0 A1 A2 A3 : T3) (k c : Int) : Int := (tr4 A0 A1 A2 A3 k).at c
structure KF (w : World) (p : PM) (sm : SM) (L0 L1 L2 L3 : Lev) (T0 T1 T2 A0 A1 A2 A3 : T3) (l3 : LvA) (late OT : List (Addr × Obj)) : Prop where
  hp : PM.ok p
  hs : SM.ok sm
  fc : FC p sm [L3, L2, L1, L0] [T2, T1, T0]
  af : AF p sm [A0, A1, A2, A3]
  i0 : DictIs w l3.a0.d l3.a0.o L3.1.D
  i1 : DictIs w l3.a1.d l3.a1.o L3.2.1.D
  i2 : DictIs w l3.a2.d l3.a2.o L3.2.2.D
  late : ∀ q ∈ late, q ∈ OT
theorem KF.mono {w : World} {p : PM} {sm : SM} {L0 L1 L2 L3 : Lev} {T0 T1 T2 A0 A1 A2 A3 : T3} {l3 : LvA} {late OT OT' : List (Addr × Obj)} (h : KF w p sm L0 L1 L2 L3 T0 T1 T2 A0 A1 A2 A3 l3 late OT) (hs : ∀ q ∈ OT, q ∈ OT') : KF w p sm L0 L1 L2 L3 T0 T1 T2 A0 A1 A2 A3 l3 late OT' :=
  ⟨h.hp, h.hs, h.fc, h.af, h.i0, h.i1, h.i2, fun q hq => hs q (h.late q hq)⟩
noncomputable abbrev fr3 (m0 : Str → Option Value) (K M P : Addr) (k : Str) : Str → Option Value := fun z => if z = k then some (.ref K) else if z = PySem.Str.ofString "meant" then some (.ref M) else if z = PySem.Str.ofString "pairs" then some (.ref P) else m0 z
noncomputable def SA8 (w : World) : Prop :=
  ∀ {nm : Str} {body rest : List Stmt} {sc : Scope} {loose mean mg mb} {h₀ : Heap} {L f : Addr} {cd} {m0 : Str → Option Value} {s : Shared} {Q E}, LawIs w nm body sc → body.drop 8 = rest → (hd.heap_1 w.params).In h₀ → Top vw loose mean mg mb h₀ → LawEnd h₀ L s Q →
  ∀ {BK AH KP : Addr} (nb nk : Nat) (l0 l1 l2 l3 : LvA) (k0 k1 k2 : TrA) (L0 L1 L2 L3 : Lev) (T0 T1 T2 A0 A1 A2 A3 : T3) (pa : PA) (sa : SA) (p : PM) (sm : SM) (OT : List (Addr × Obj)) {c1 c2 c3 c4 c5 c6 : Obj} {v1 v2 v5 v6 : Option Value},
  Fr h₀ L s.heap (fr3 m0 KP sa.M pa.P (PySem.Str.ofString "kept")) → News h₀ L s.heap (cel L c1 c2 c3 c4 c5 c6 ++ OT) →
  BooksIn OT BK (bkT L0 L1 L2 L3) → SMIn OT AH (trT A0 A1 A2 A3) →
  KF w p sm L0 L1 L2 L3 T0 T1 T2 A0 A1 A2 A3 l3 (lateLed BK KP nb nk l0 l1 l2 l3 k0 k1 k2 L3 T0 T1 T2 pa sa p sm) OT →
  CelIs c1 c2 c3 c4 c5 c6 v1 v2 (some (.ref BK)) (some (.ref AH)) v5 v6 → OwnOff OT (celA L) → LawWp w nm sc L f cd rest Q E s
noncomputable def SA9 (w : World) : Prop :=
  ∀ {nm : Str} {body rest : List Stmt} {sc : Scope} {loose mean mg mb} {h₀ : Heap} {L f : Addr} {cd} {m0 : Str → Option Value} {s : Shared} {Q E}, LawIs w nm body sc → body.drop 9 = rest → (hd.heap_1 w.params).In h₀ → Top vw loose mean mg mb h₀ → LawEnd h₀ L s Q →
  ∀ {BK LT KP : Addr} (nb nk : Nat) (l0 l1 l2 l3 : LvA) (k0 k1 k2 : TrA) (L0 L1 L2 L3 : Lev) (T0 T1 T2 A0 A1 A2 A3 : T3) (pa : PA) (sa : SA) (p : PM) (sm : SM) (OT : List (Addr × Obj)) {c1 c2 c3 c4 c5 c6 : Obj} {v1 v2 v4 v6 : Option Value},
  Fr h₀ L s.heap (fr3 m0 KP sa.M pa.P (PySem.Str.ofString "kept")) → News h₀ L s.heap (cel L c1 c2 c3 c4 c5 c6 ++ OT) →
  SMIn OT LT (fun k c => bkT L0 L1 L2 L3 k c + trT A0 A1 A2 A3 k c) →
  KF w p sm L0 L1 L2 L3 T0 T1 T2 A0 A1 A2 A3 l3 (lateLed BK KP nb nk l0 l1 l2 l3 k0 k1 k2 L3 T0 T1 T2 pa sa p sm) OT →
  CelIs c1 c2 c3 c4 c5 c6 v1 v2 (some (.ref BK)) v4 (some (.ref LT)) v6 → OwnOff OT (celA L) → LawWp w nm sc L f cd rest Q E s
theorem own_of {h₀ h : Heap} {L : Addr} {OT all : List (Addr × Obj)} {c1 c2 c3 c4 c5 c6 : Obj} {v1 v2 v3 v4 v5 v6 : Option Value} (N : News h₀ L h all) (hs : ∀ q ∈ cel L c1 c2 c3 c4 c5 c6, q ∈ all) (ho : ∀ q ∈ OT, q ∈ all) (hC : CelIs c1 c2 c3 c4 c5 c6 v1 v2 v3 v4 v5 v6) (hn : NoCell OT) : OwnOff OT (celA L) :=
  own_cel (Mine.News.sub N fun q hq => (List.mem_append.mp hq).elim (ho q) (hs q)) hC hn
theorem tail_in {a : Addr × Obj} {cs rows OT : List (Addr × Obj)} : ∀ q ∈ cs ++ (a :: (rows ++ OT)), q ∈ a :: (rows ++ (cs ++ OT)) := fun q hq => by
  rcases List.mem_append.mp hq with h | h
  · exact .tail _ (List.mem_append_right _ (List.mem_append_left _ h))
  rcases List.mem_cons.mp h with rfl | h
  · exact .head _
  rcases List.mem_append.mp h with h | h
  · exact .tail _ (List.mem_append_left _ h)
  · exact .tail _ (List.mem_append_right _ (List.mem_append_right _ h))
theorem tail_in2 {a b : Addr × Obj} {cs tl OT : List (Addr × Obj)} : ∀ q ∈ cs ++ (tl ++ OT), q ∈ tl ++ (a :: b :: (cs ++ OT)) := fun q hq => by
  rcases List.mem_append.mp hq with h | h
  · exact List.mem_append_right _ (.tail _ (.tail _ (List.mem_append_left _ h)))
  rcases List.mem_append.mp h with h | h
  · exact List.mem_append_left _ h
  · exact List.mem_append_right _ (.tail _ (.tail _ (List.mem_append_right _ h)))
theorem own_add {h₀ h : Heap} {L : Addr} {rs OT : List (Addr × Obj)} {c1 c2 c3 c4 c5 c6 : Obj} {v1 v2 v3 v4 v5 v6 : Option Value} (N : News h₀ L h (cel L c1 c2 c3 c4 c5 c6 ++ (rs ++ OT))) (hC : CelIs c1 c2 c3 c4 c5 c6 v1 v2 v3 v4 v5 v6) (hn : NoCell rs) (hO : OwnOff OT (celA L)) : OwnOff (rs ++ OT) (celA L) :=
  OwnOff.app (own_of N (fun q hq => List.mem_append_left _ hq) (fun q hq => List.mem_append_right _ (List.mem_append_left _ hq)) hC hn) hO
end Mine
end
section
open PySem PySem.W PyProof.Rows PySem.Spec PySem.Calls PyProof.V
namespace Mine
section
variable {C : Cx} {y9x y9e y9b : Expr} {y9a y9n y9m : Int} {p1 p2 p3 p4 p5 : Pos} {k1 k2 : Nat}
theorem six_pow {n : Int} (h : 0 ≤ n ∧ n < 9) : ((6 : Int) ^ n.toNat) ≠ 0 ∧ ((6 : Int) ^ n.toNat).natAbs < 1073741824 := by
  obtain ⟨h0, h1⟩ := h
  have e : n.toNat < 9 := by omega
  have key : ∀ j, j < 9 → ((6 : Int) ^ j) ≠ 0 ∧ ((6 : Int) ^ j).natAbs < 1073741824 := by decide +kernel
  exact key _ e
theorem Ev.digit (x9hx : Ev C y9x (Value.int y9a)) (x9he : Ev C y9e (Value.int y9n)) (x9hn : 0 ≤ y9n ∧ y9n < 9) : Ev C (.BinOp (.BinOp y9x .FloorDiv (.BinOp (.Constant (.int 6) k1 p1) .Pow y9e p2) p3) .Mod (.Constant (.int 6) k2 p4) p5) (Value.int ((y9a.fdiv (6 ^ y9n.toNat)).fmod 6)) := .mk fun Q tk k =>
  wpAny_BinOp (wpAny_BinOp (x9hx.run _ _ fun _ _ => wpAny_BinOp (wpAny_Constant_int (x9he.run _ _ fun _ _ => pow_int_small x9hn.1 (by omega) (by decide) (floordiv_int (six_pow x9hn).1 (wpAny_Constant_int (mod_int (by decide) (k _ _))) (Or.inl (PyProof.noPylong_small (six_pow x9hn).2)))))))
theorem Ev.mulS (x9hl : Ev C y9x (Value.int y9a)) (x9hr : Ev C y9e (Value.int y9n)) (x9h : IntMulOk y9a y9n) : Ev C (.BinOp y9x .Mult y9e p1) (Value.int (y9a * y9n)) := .mk fun Q tk k =>
  wpAny_BinOp (x9hl.run _ _ fun _ _ => x9hr.run _ _ fun _ _ => mul_int (k _ _) x9h)
theorem Ev.iflt {y9p y9q : Expr} (x9hl : Ev C y9x (Value.int y9a)) (x9h1 : y9a < y9n → Ev C y9p (Value.int y9m)) (x9h2 : ¬ y9a < y9n → Ev C y9q (Value.int y9m)) (x9hm : behindInMarks .Lt (.Constant (.int y9n) k1 p1) = false) : Ev C (.IfExp (.Compare y9x [.Lt] [.Constant (.int y9n) k1 p1] p2) y9p y9q p3) (Value.int y9m) := .mk fun Q tk k =>
  IfExp_ (wpAny_isTrue_Compare1 (x9hl.run _ _ fun _ _ => wpAny_Constant_int (lt_int (wpAny_truthy_bool (by
    by_cases c : y9a < y9n
    · simp only [decide_eq_true c, if_true]; exact (x9h1 c).run _ _ k
    · simp only [decide_eq_false c, Bool.false_eq_true, if_false]; exact (x9h2 c).run _ _ k)))))
end
theorem Ev.cG {C : Cx} {x : Str} {pos : Pos} {v : Value} {g : Heap} {L : Addr} {m : Str → Option Value} {K : Frag} {p : Program} {loose : List Str} {mean : ExcName → Option Value} {mg mb : Str → Option Value} {D : Addr} {scope : Scope} {cl : List (Str × Addr)} {env : Env}
    (F : Fr g L C.h m) (X : K.In g) (T : Top p loose mean mg mb g) (e : nsIn K mainGlobals x = some (some v)) (he : C.env = compEnvC scope cl D env) (hg : env.globals = mainGlobals) (hk : (compEnvC scope cl D env).scope.kind = .function) (hx : (compEnvC scope cl D env).kindOf x = some .globalImplicit) (hd : (x == ("__debug__" : Str)) = false) : Ev C (.Name x pos) (fun _ => v) := Ev.of fun Q tk h => by
  rw [he]; exact LCgL.ld_global (s := Shared.mk C.h C.gn C.dr tk C.os) F X T e h hg hk hx hd
noncomputable def sgI (x c : Int) : Int := sg x c.toNat
theorem sgI_bd (x c : Int) : 0 ≤ sgI x c ∧ sgI x c ≤ 5 := sg_bd _ _
theorem sgI_lo {x c : Int} (h : x < 256) : (x.fdiv (6 ^ c.toNat)).fmod 6 = sgI x c := by unfold sgI sg; rw [if_pos h]
theorem sgI_hi {x c : Int} (h : ¬ x < 256) (hc : 0 ≤ c ∧ c < 3) : ((x - 256).fdiv (6 ^ (2 - c).toNat)).fmod 6 = sgI x c := by
  have e : (2 - c).toNat = 2 - c.toNat := by rcases three hc with rfl | rfl | rfl <;> rfl
  unfold sgI sg; rw [if_neg h, e]
theorem Ev.sg1 {C : Cx} {e : Expr} {x c : Int} (h : x < 256) (k : Ev C e (Value.int ((x.fdiv (6 ^ c.toNat)).fmod 6))) : Ev C e (Value.int (sgI x c)) := sgI_lo h ▸ k
theorem Ev.sg2 {C : Cx} {e : Expr} {x c : Int} (h : ¬ x < 256) (hc : 0 ≤ c ∧ c < 3) (k : Ev C e (Value.int (((x - 256).fdiv (6 ^ (2 - c).toNat)).fmod 6))) : Ev C e (Value.int (sgI x c)) := sgI_hi h hc ▸ k
noncomputable def smOf (x0 x1 x2 x3 : Int) : SM := ⟨sgI x0 0, sgI x0 1, sgI x0 2, sgI x1 0, sgI x1 1, sgI x1 2, sgI x2 0, sgI x2 1, sgI x2 2, sgI x3 0, sgI x3 1, sgI x3 2⟩
theorem smOf_ok (x0 x1 x2 x3 : Int) : SM.ok (smOf x0 x1 x2 x3) := ⟨sgI_bd _ _, sgI_bd _ _, sgI_bd _ _, sgI_bd _ _, sgI_bd _ _, sgI_bd _ _, sgI_bd _ _, sgI_bd _ _, sgI_bd _ _, sgI_bd _ _, sgI_bd _ _, sgI_bd _ _⟩
theorem SMIn.sm {rows l : List (Addr × Obj)} {D r0 r1 r2 r3 : Addr} {n : Nat} {x0 x1 x2 x3 : Int} (h0 : RowIn rows r0 (sgI x0)) (h1 : RowIn rows r1 (sgI x1)) (h2 : RowIn rows r2 (sgI x2)) (h3 : RowIn rows r3 (sgI x3)) (hD : (D, listOf #[.ref r0, .ref r1, .ref r2, .ref r3] n) ∈ l) (hs : ∀ q ∈ rows, q ∈ l) : SMIn l D (smOf x0 x1 x2 x3).at :=
  SMIn.of (p := (smOf x0 x1 x2 x3).at) h0 h1 h2 h3 hD hs
theorem ne_tabs {prog : Program} {w : World} {A : Around} {E : Value → Shared → Prop} {s : Shared} {Q : Value → Shared → Prop} {a b : Addr} {f : Int → Int → Int} (Ha : SMAt s.heap a f) (Hb : SMAt s.heap b f) (hu : A.units + 64 < cLine) (hq : Q (.bool false) s) : wpAny (model prog w) A (compareOp .NotEq (.ref a) (.ref b)) Q E s := by
  have rd : ∀ {r : Addr} {g : Int → Int}, RowAt s.heap r g → ∃ as, Reads s.heap (.ref r) (row3D (g 0) (g 1) (g 2)) as := fun ⟨t1, t2, t3, n, e⟩ => ⟨_, reads_list_at e rfl rfl (.cons (.int _ _) (.cons (.int _ _) (.cons (.int _ _) .nil)))⟩
  have rt : ∀ {r : Addr}, SMAt s.heap r f → ∃ as, Reads s.heap (.ref r) (.list [row3D (f 0 0) (f 0 1) (f 0 2), row3D (f 1 0) (f 1 1) (f 1 2), row3D (f 2 0) (f 2 1) (f 2 2), row3D (f 3 0) (f 3 1) (f 3 2)]) as := fun ⟨p0, p1, p2, p3, n, e, h0, h1, h2, h3⟩ => by
    obtain ⟨_, r0⟩ := rd h0
    obtain ⟨_, r1⟩ := rd h1
    obtain ⟨_, r2⟩ := rd h2
    obtain ⟨_, r3⟩ := rd h3
    exact ⟨_, reads_list_at e rfl rfl (.cons r0 (.cons r1 (.cons r2 (.cons r3 .nil))))⟩
  obtain ⟨_, ra⟩ := rt Ha
  obtain ⟨_, rb⟩ := rt Hb
  refine ne_dataH ra rb rfl rfl hu ?_
  have e : PyData.eqv (.list [row3D (f 0 0) (f 0 1) (f 0 2), row3D (f 1 0) (f 1 1) (f 1 2), row3D (f 2 0) (f 2 1) (f 2 2), row3D (f 3 0) (f 3 1) (f 3 2)]) (.list [row3D (f 0 0) (f 0 1) (f 0 2), row3D (f 1 0) (f 1 1) (f 1 2), row3D (f 2 0) (f 2 1) (f 2 2), row3D (f 3 0) (f 3 1) (f 3 2)]) = true := by
    simp [row3D, PyData.eqv, PyData.eqvAll]
  rw [e]
  exact hq
noncomputable def SA3 (w : World) : Prop :=
  ∀ {nm : Str} {body rest : List Stmt} {sc : Scope} {loose mean mg mb} {h₀ : Heap} {L f : Addr} {cd} {m0 : Str → Option Value} {s : Shared} {Q E}, LawIs w nm body sc → body.drop 3 = rest → (hd.heap_1 w.params).In h₀ → Top vw loose mean mg mb h₀ → LawEnd h₀ L s Q →
  ∀ {DR P : Addr} {nd : Nat} (p : PM) (x0 x1 x2 x3 : Int) {t0 t1 t2 t3 : Tok} (OT : List (Addr × Obj)) {c1 c2 c3 c4 c5 c6 : Obj} {v1 v2 v3 v4 v5 v6 : Option Value},
  Fr h₀ L s.heap (fun z => if z = PySem.Str.ofString "drawn" then some (.ref DR) else if z = PySem.Str.ofString "pairs" then some (.ref P) else m0 z) → News h₀ L s.heap (cel L c1 c2 c3 c4 c5 c6 ++ OT) →
  (DR, listOf #[.int x0 t0, .int x1 t1, .int x2 t2, .int x3 t3] nd) ∈ OT → PMIn OT P p.at → PM.ok p → (1 ≤ x0 ∧ x0 < 512) → (1 ≤ x1 ∧ x1 < 512) → (1 ≤ x2 ∧ x2 < 512) → (1 ≤ x3 ∧ x3 < 512) →
  CelIs c1 c2 c3 c4 c5 c6 v1 v2 v3 v4 v5 v6 → OwnOff OT (celA L) → LawWp w nm sc L f cd rest Q E s
noncomputable def SA6 (w : World) : Prop :=
  ∀ {nm : Str} {body rest : List Stmt} {sc : Scope} {loose mean mg mb} {h₀ : Heap} {L f : Addr} {cd} {m0 : Str → Option Value} {s : Shared} {Q E}, LawIs w nm body sc → body.drop 6 = rest → (hd.heap_1 w.params).In h₀ → Top vw loose mean mg mb h₀ → LawEnd h₀ L s Q →
  ∀ {P M G : Addr} (p : PM) (sm : SM) (OT : List (Addr × Obj)) {c1 c2 c3 c4 c5 c6 : Obj} {v1 v2 v3 v4 v5 v6 : Option Value},
  Fr h₀ L s.heap (fr3 m0 G M P (PySem.Str.ofString "signs")) → News h₀ L s.heap (cel L c1 c2 c3 c4 c5 c6 ++ OT) →
  PMIn OT P p.at → SMIn OT M sm.at → SMIn OT G sm.at → PM.ok p → SM.ok sm →
  CelIs c1 c2 c3 c4 c5 c6 v1 v2 v3 v4 v5 v6 → OwnOff OT (celA L) → LawWp w nm sc L f cd rest Q E s
theorem signs_base {extra : List (Addr × Obj)} {vs : List Value} {k : Nat} {x0 x1 x2 x3 : Int} {lS I c l : Addr} (hall : All2 (SignIn extra) vs [x0, x1, x2, x3]) (hoff : OwnOff extra [I, lS, c, l]) (hl : @Ne Nat lS l) :
    ∃ tl, SMIn tl lS (smOf x0 x1 x2 x3).at ∧ NoCell tl ∧ (∀ p ∈ tl, p ∈ (lS, listOf vs.toArray k) :: extra) ∧ ∀ p ∈ tl, p.1 ≠ l := by
  cases hall with | cons r0 hall => cases hall with | cons r1 hall => cases hall with | cons r2 hall => cases hall with | cons r3 hall =>
  cases hall
  refine byG (fun P9 hP9 => ?_)
  obtain ⟨b0, t00, t01, t02, rfl, m0⟩ := r0
  obtain ⟨b1, t10, t11, t12, rfl, m1⟩ := r1
  obtain ⟨b2, t20, t21, t22, rfl, m2⟩ := r2
  obtain ⟨b3, t30, t31, t32, rfl, m3⟩ := r3
  refine hP9 ?_
  clear hP9 P9
  have n : ∀ {b o}, (b, o) ∈ extra → @Ne Nat b l := fun hb => hoff _ hb l (.tail _ (.tail _ (.tail _ (.head _))))
  exact ⟨[(lS, _), (b0, _), (b1, _), (b2, _), (b3, _)], ⟨b0, b1, b2, b3, k, .head _, ⟨t00, t01, t02, 3, .tail _ (.head _)⟩, ⟨t10, t11, t12, 3, .tail _ (.tail _ (.head _))⟩, ⟨t20, t21, t22, 3, .tail _ (.tail _ (.tail _ (.head _)))⟩, ⟨t30, t31, t32, 3, .tail _ (.tail _ (.tail _ (.tail _ (.head _))))⟩⟩,
    .seq (.seq (.seq (.seq (.seq .nil)))), List.forall_mem_cons.mpr ⟨.head _, List.forall_mem_cons.mpr ⟨.tail _ m0, List.forall_mem_cons.mpr ⟨.tail _ m1, List.forall_mem_cons.mpr ⟨.tail _ m2, List.forall_mem_cons.mpr ⟨.tail _ m3, List.forall_mem_nil _⟩⟩⟩⟩⟩,
    List.forall_mem_cons.mpr ⟨hl, List.forall_mem_cons.mpr ⟨n m0, List.forall_mem_cons.mpr ⟨n m1, List.forall_mem_cons.mpr ⟨n m2, List.forall_mem_cons.mpr ⟨n m3, List.forall_mem_nil _⟩⟩⟩⟩⟩⟩
theorem signs_turnX {h₀ : Heap} {L : Addr} {s₁ : Shared} {h' : Heap} {tk : Nat} {m m' : Str → Option Value} {I : Addr} {row : Obj} {xs : List Int} {lS c l : Addr} {x : Int} {t : Tok} {r : List (Int × Tok)} {done : List Int} {vs : List Value} {k : Nat} {extra all : List (Addr × Obj)} {D : Addr} {t0 t1 t2 : Tok} {o' oc' : Obj} {vc' : Option Value}
    (F : Fr h₀ L h' m') (N : News h₀ L h' all) (mD : (D, LCg.lst [.int (sgI x 0) t0, .int (sgI x 1) t1, .int (sgI x 2) t2]) ∈ all) (mI : (I, o') ∈ all) (mS : (lS, listOf (vs ++ [Value.ref D]).toArray k) ∈ all) (mc : (c, oc') ∈ all) (ml : (l, row) ∈ all) (mx : ∀ q ∈ extra, q ∈ all) (hd : oc'.data = .cell vc')
    (hag : Agree [] m m') (nD : ∀ b ∈ [I, lS, c, l], @Ne Nat D b) (hoff : OwnOff extra [I, lS, c, l]) (hall : All2 (SignIn extra) vs done) (hdone : done ++ List.map (fun x => x.1) ((x, t) :: r) = xs) (hr : ∀ p ∈ (x, t) :: r, 1 ≤ p.1 ∧ p.1 < 512)
    (k1 : @Ne Nat I lS) (k2 : @Ne Nat I c) (k3 : @Ne Nat I l) (k4 : @Ne Nat lS c) (k5 : @Ne Nat lS l) (k6 : @Ne Nat c l) :
    UnrEndW h₀ L s₁ [(I, o')] (fun m' n' => SubL [(l, row)] n' ∧ Agree [] m m' ∧ SInv I row xs lS c l r n') { s₁ with heap := h', toks := tk } := by
  have hDx : OwnOff ((D, LCg.lst [.int (sgI x 0) t0, .int (sgI x 1) t1, .int (sgI x 2) t2]) :: extra) [I, lS, c, l] := fun p hp b hb => by
    rcases List.mem_cons.mp hp with rfl | hp
    · exact nD b hb
    · exact hoff p hp b hb
  refine turn_end F N ((lS, listOf (vs ++ [Value.ref D]).toArray k) :: (c, oc') :: (l, row) :: (D, LCg.lst [.int (sgI x 0) t0, .int (sgI x 1) t1, .int (sgI x 2) t2]) :: extra) ?_ ?_ ?_ ⟨⟨.tail _ (.tail _ (.head _)), trivial⟩, hag, done ++ [x], vs ++ [Value.ref D], k, (D, LCg.lst [.int (sgI x 0) t0, .int (sgI x 1) t1, .int (sgI x 2) t2]) :: extra, oc', vc', rfl, hd, hDx, ?_, ?_, ?_, k1, k2, k3, k4, k5, k6⟩
  · exact List.forall_mem_cons.mpr ⟨mI, List.forall_mem_nil _⟩
  · exact List.forall_mem_cons.mpr ⟨mS, List.forall_mem_cons.mpr ⟨mc, List.forall_mem_cons.mpr ⟨ml, List.forall_mem_cons.mpr ⟨mD, mx⟩⟩⟩⟩
  · intro p hp q hq
    rw [List.mem_singleton] at hq
    subst hq
    rcases List.mem_cons.mp hp with rfl | hp
    · exact k1.symm
    rcases List.mem_cons.mp hp with rfl | hp
    · exact k2.symm
    rcases List.mem_cons.mp hp with rfl | hp
    · exact k3.symm
    · exact hDx p hp I (.head _)
  · exact (hall.mono fun a b ⟨d, t0, t1, t2, e, h⟩ => ⟨d, t0, t1, t2, e, List.mem_cons_of_mem _ h⟩).snoc ⟨D, t0, t1, t2, rfl, List.mem_cons_self⟩
  · simpa using hdone
  · exact fun p hp => hr p (List.mem_cons_of_mem _ hp)
theorem row4_at {x0 x1 x2 x3 : Int} {t0 t1 t2 t3 : Tok} {i : Nat} {v : Value} (hi : i < 4) (hv : #[Value.int x0 t0, .int x1 t1, .int x2 t2, .int x3 t3][i]? = some v) : ∃ t, v = .int ((fun i => [x0, x1, x2, x3].getD i 0) i) t := by
  have e : i = 0 ∨ i = 1 ∨ i = 2 ∨ i = 3 := by omega
  rcases e with rfl | rfl | rfl | rfl <;> (cases hv; exact ⟨_, rfl⟩)
end Mine
end
section
open PySem PySem.W PyProof.Rows PySem.Spec PySem.Calls PyProof.V
namespace Mine
theorem PureB.use {w : World} {f : Addr} {d : Nat} {vs : List Value} {Pre : Heap → Prop} {Post : Value → List (Addr × Obj) → Prop} {loose : List Str} {mean : ExcName → Option Value} {mg mb : Str → Option Value} {dp un : Nat} {gd : Option (List Code)} {cn : Str} {cs : Scope} {a : Addr} {ccd : Value} {cl : List (Str × Addr)} {outer : List Env} {A₀ : Around} {base h₀ : Heap} {L : Addr} {m : Str → Option Value} {news : List (Addr × Obj)} {s : Shared} {Q E : Value → Shared → Prop}
    (P : PureB w f d vs Pre Post) (B : Below A₀ base outer h₀) (F : Fr h₀ L s.heap m) (X : (hd.heap_1 w.params).In h₀) (N : News h₀ L s.heap news) (T : Top vw loose mean mg mb h₀) (hk : cs.kind = .function)
    (hp : Pre s.heap) (hd' : dp + d < recursionLimit) (hu : un + 8 * d < cLine) (ret : PinRet h₀ L m news s Post Q) :
    wpAny (model PySem.Challenge.pw_xg0033_01 w) (ktrTop dp un gd cn cs L a ccd cl outer) (call (.ref f) vs) Q E s :=
  P _ _ _ _ _ _ _ _ _ _ _ _ _ _ _ _ _ _ _ _ _ _ B F X N T hk hp hd' hu ret
theorem PMIn.pa {l : List (Addr × Obj)} {P : Addr} {p : PM} (h : PMIn l P p.at) : ∃ pa : PA, pa.P = P ∧ ∀ q ∈ pa.led p, q ∈ l := by
  refine byG (fun P9 hP9 => ?_)
  obtain ⟨p0, p1, p2, n, e, ⟨t1, t2, t3, n0, e0⟩, ⟨t4, t5, t6, n1, e1⟩, ⟨t7, t8, t9, n2, e2⟩⟩ := h
  refine hP9 ?_
  clear hP9 P9
  exact ⟨⟨P, p0, p1, p2, n, n0, n1, n2, t1, t2, t3, t4, t5, t6, t7, t8, t9⟩, rfl, List.forall_mem_cons.mpr ⟨e, List.forall_mem_cons.mpr ⟨e0, List.forall_mem_cons.mpr ⟨e1, List.forall_mem_cons.mpr ⟨e2, List.forall_mem_nil _⟩⟩⟩⟩⟩
theorem SMIn.sa {l : List (Addr × Obj)} {P : Addr} {p : SM} (h : SMIn l P p.at) : ∃ sa : SA, sa.M = P ∧ ∀ q ∈ sa.led p, q ∈ l := by
  refine byG (fun P9 hP9 => ?_)
  obtain ⟨p0, p1, p2, p3, n, e, ⟨t1, t2, t3, n0, e0⟩, ⟨t4, t5, t6, n1, e1⟩, ⟨t7, t8, t9, n2, e2⟩, ⟨t10, t11, t12, n3, e3⟩⟩ := h
  refine hP9 ?_
  clear hP9 P9
  exact ⟨⟨P, p0, p1, p2, p3, n, n0, n1, n2, n3, t1, t2, t3, t4, t5, t6, t7, t8, t9, t10, t11, t12⟩, rfl, List.forall_mem_cons.mpr ⟨e, List.forall_mem_cons.mpr ⟨e0, List.forall_mem_cons.mpr ⟨e1, List.forall_mem_cons.mpr ⟨e2, List.forall_mem_cons.mpr ⟨e3, List.forall_mem_nil _⟩⟩⟩⟩⟩⟩
noncomputable abbrev lateF (BK KP : Addr) (nb nk : Nat) (l0 l1 l2 l3 : LvA) (k0 k1 k2 : TrA) (L3 : Lev) (T0 T1 T2 : T3) : List (Addr × Obj) :=
  fourRef BK nb l0.B l1.B l2.B l3.B :: threeRef KP nk k0.R k1.R k2.R :: (l3.led L3 ++ (l3.dics ++ [k0.row T0, k1.row T1, k2.row T2]))
theorem lv_in {tl : List (Addr × Obj)} {l : LvA} {L : Lev} (h : ∀ q ∈ l.led L, q ∈ tl) : LvIn tl l.B (fun c => (L.at c).ct) :=
  ⟨l.a0.t, l.a1.t, l.a2.t, l.n, h _ (.head _), ⟨_, _, _, l.a0.x4, l.a0.d, h _ (.tail _ (.head _))⟩, ⟨_, _, _, l.a1.x4, l.a1.d, h _ (.tail _ (.tail _ (.head _)))⟩, ⟨_, _, _, l.a2.x4, l.a2.d, h _ (.tail _ (.tail _ (.tail _ (.head _))))⟩⟩
theorem forth_res {w : World} {p : PM} {sm : SM} {v : Value} {tl : List (Addr × Obj)} (h : ∃ T BK KP lv ks nb nk n0 extra Ls ts, v = .ref T ∧ tl = (T, ({ cls := .type "tuple", data := .seq #[.ref BK, .ref KP] n0 } : Obj)) :: (KP, listOf ks.toArray nk) :: (BK, listOf lv.toArray nb) :: extra ∧ All2 (LevIn w extra) lv (List.reverse Ls) ∧ All2 (KeptIn extra) ks (List.reverse ts) ∧ FC p sm Ls ts ∧ ts.length = 3) :
    ∃ (T BK KP : Addr) (nb nk n0 : Nat) (l0 l1 l2 l3 : LvA) (k0 k1 k2 : TrA) (L0 L1 L2 L3 : Lev) (T0 T1 T2 : T3), v = .ref T ∧ (T, ({ cls := .type "tuple", data := .seq #[.ref BK, .ref KP] n0 } : Obj)) ∈ tl ∧ BooksIn tl BK (bkT L0 L1 L2 L3) ∧ FC p sm [L3, L2, L1, L0] [T2, T1, T0] ∧
      (∀ q ∈ lateF BK KP nb nk l0 l1 l2 l3 k0 k1 k2 L3 T0 T1 T2, q ∈ tl) ∧ DictIs w l3.a0.d l3.a0.o L3.1.D ∧ DictIs w l3.a1.d l3.a1.o L3.2.1.D ∧ DictIs w l3.a2.d l3.a2.o L3.2.2.D := by
  refine byG (fun P9 hP9 => ?_)
  obtain ⟨T, BK, KP, lv, ks, nb, nk, n0, extra, Ls, ts, rfl, rfl, h1, h2, h3, h4⟩ := h
  obtain ⟨l0, l1, l2, l3, k0, k1, k2, L0, L1, L2, L3, T0, T1, T2, rfl, rfl, hf, hm, i0, i1, i2⟩ := forth_open h1 h2 h3 h4
  refine hP9 ?_
  clear hP9 P9
  have m0 : ∀ q ∈ l0.led L0, q ∈ extra := fun q hq => hm q (List.mem_append_left _ hq)
  have m1 : ∀ q ∈ l1.led L1, q ∈ extra := fun q hq => hm q (List.mem_append_right _ (List.mem_append_left _ hq))
  have m2 : ∀ q ∈ l2.led L2, q ∈ extra := fun q hq => hm q (List.mem_append_right _ (List.mem_append_right _ (List.mem_append_left _ hq)))
  have m3 : ∀ q ∈ l3.led L3 ++ (l3.dics ++ [k0.row T0, k1.row T1, k2.row T2]), q ∈ extra := fun q hq => hm q (List.mem_append_right _ (List.mem_append_right _ (List.mem_append_right _ hq)))
  have up : ∀ {q}, q ∈ extra → q ∈ (T, ({ cls := .type "tuple", data := .seq #[.ref BK, .ref KP] n0 } : Obj)) :: (KP, listOf #[.ref k0.R, .ref k1.R, .ref k2.R] nk) :: (BK, listOf #[.ref l0.B, .ref l1.B, .ref l2.B, .ref l3.B] nb) :: extra := fun hq => .tail _ (.tail _ (.tail _ hq))
  exact ⟨T, BK, KP, nb, nk, n0, l0, l1, l2, l3, k0, k1, k2, L0, L1, L2, L3, T0, T1, T2, rfl, .head _, ⟨l0.B, l1.B, l2.B, l3.B, nb, .tail _ (.tail _ (.head _)), lv_in fun q hq => up (m0 q hq), lv_in fun q hq => up (m1 q hq), lv_in fun q hq => up (m2 q hq), lv_in fun q hq => up (m3 q (List.mem_append_left _ hq))⟩, hf,
    List.forall_mem_cons.mpr ⟨.tail _ (.tail _ (.head _)), List.forall_mem_cons.mpr ⟨.tail _ (.head _), fun q hq => up (m3 q hq)⟩⟩, i0, i1, i2⟩
theorem ahead_res {p : PM} {sm : SM} {v : Value} {tl : List (Addr × Obj)} (h : ∃ AH vs k extra done, v = .ref AH ∧ tl = extra ∧ (AH, listOf vs.toArray k) ∈ extra ∧ All2 (TripIn extra) vs done ∧ AF p sm done ∧ done.length = 4) :
    ∃ (AH : Addr) (A0 A1 A2 A3 : T3), v = .ref AH ∧ SMIn tl AH (trT A0 A1 A2 A3) ∧ AF p sm [A0, A1, A2, A3] := by
  refine byG (fun P9 hP9 => ?_)
  obtain ⟨AH, vs, k, extra, done, rfl, rfl, hm, hall, haf, h4⟩ := h
  obtain ⟨a0, a1, a2, a3, A0, A1, A2, A3, rfl, rfl, g⟩ := ahead_open hall h4
  refine hP9 ?_
  clear hP9 P9
  exact ⟨AH, A0, A1, A2, A3, rfl, ⟨a0.R, a1.R, a2.R, a3.R, k, hm, ⟨a0.t0, a0.t1, a0.t2, a0.n, g _ (.head _)⟩, ⟨a1.t0, a1.t1, a1.t2, a1.n, g _ (.tail _ (.head _))⟩, ⟨a2.t0, a2.t1, a2.t2, a2.n, g _ (.tail _ (.tail _ (.head _)))⟩, ⟨a3.t0, a3.t1, a3.t2, a3.n, g _ (.tail _ (.tail _ (.tail _ (.head _))))⟩⟩, haf⟩
theorem own_ne {tl OT : List (Addr × Obj)} {L : Addr} {c1 c2 c3 c4 c5 c6 : Obj} (h : NeAll tl (cel L c1 c2 c3 c4 c5 c6 ++ OT)) : OwnOff tl (celA L) := cel_own (pre := []) fun q hq => h q (List.mem_append_left _ hq)
theorem tail_in3 {a : Addr × Obj} {cs tl OT : List (Addr × Obj)} (ha : a ∈ tl) : ∀ q ∈ a :: (cs ++ (tl ++ OT)), q ∈ tl ++ (cs ++ OT) := fun q hq => by
  rcases List.mem_cons.mp hq with rfl | h
  · exact List.mem_append_left _ ha
  rcases List.mem_append.mp h with h | h
  · exact List.mem_append_right _ (List.mem_append_left _ h)
  rcases List.mem_append.mp h with h | h
  · exact List.mem_append_left _ h
  · exact List.mem_append_right _ (List.mem_append_right _ h)
theorem tail_in4 {a : Addr × Obj} {cs tl OT : List (Addr × Obj)} : ∀ q ∈ cs ++ (tl ++ OT), q ∈ tl ++ (a :: (cs ++ OT)) := fun q hq => by
  rcases List.mem_append.mp hq with h | h
  · exact List.mem_append_right _ (.tail _ (List.mem_append_left _ h))
  rcases List.mem_append.mp h with h | h
  · exact List.mem_append_left _ h
  · exact List.mem_append_right _ (.tail _ (List.mem_append_right _ h))
theorem late_in {BK KP : Addr} {nb nk : Nat} {l0 l1 l2 l3 : LvA} {k0 k1 k2 : TrA} {L3 : Lev} {T0 T1 T2 : T3} {pa : PA} {sa : SA} {p : PM} {sm : SM} {t2 t1 OT : List (Addr × Obj)} (hf : ∀ q ∈ lateF BK KP nb nk l0 l1 l2 l3 k0 k1 k2 L3 T0 T1 T2, q ∈ t1) (hp : ∀ q ∈ pa.led p, q ∈ OT) (hs : ∀ q ∈ sa.led sm, q ∈ OT) : ∀ q ∈ lateLed BK KP nb nk l0 l1 l2 l3 k0 k1 k2 L3 T0 T1 T2 pa sa p sm, q ∈ t2 ++ (t1 ++ OT) := fun q hq => by
  refine List.mem_append_right _ ?_
  have a : ∀ {q}, q ∈ t1 → q ∈ t1 ++ OT := fun h => List.mem_append_left _ h
  rcases List.mem_cons.mp hq with rfl | hq
  · exact a (hf _ (.head _))
  rcases List.mem_cons.mp hq with rfl | hq
  · exact a (hf _ (.tail _ (.head _)))
  rcases List.mem_append.mp hq with hq | hq
  · exact a (hf _ (.tail _ (.tail _ (List.mem_append_left _ hq))))
  rcases List.mem_append.mp hq with hq | hq
  · exact a (hf _ (.tail _ (.tail _ (List.mem_append_right _ (List.mem_append_left _ hq)))))
  rcases List.mem_append.mp hq with hq | hq
  · exact a (hf _ (.tail _ (.tail _ (List.mem_append_right _ (List.mem_append_right _ hq)))))
  rcases List.mem_append.mp hq with hq | hq
  · exact List.mem_append_right _ (hp q hq)
  · exact List.mem_append_right _ (hs q hq)
end Mine
end
section
open PySem PySem.W PyProof.Rows PySem.Spec PySem.Calls PyProof.V
namespace Mine
theorem mul3_ok {u : Int} (h : 0 ≤ u ∧ u < 3) : IntMulOk 3 u := by
  rcases three h with rfl | rfl | rfl <;> mul_fits
section
variable {prog : Program} {w : World} {A : Around} {E : Value → Shared → Prop} {s : Shared} {Q : Value → Shared → Prop} {h₀ : Heap} {L : Addr} {news : List (Addr × Obj)} {value slice : Expr}
end
section
variable {w : World} {A : Around} {h₀ : Heap} {L : Addr} {m : Str → Option Value} {env : Env} {elt : Expr} {x : Str} {scope : Scope} {cl : List (Str × Addr)} {S : List (Addr × Obj) → Prop} {Fin : List Value → List (Addr × Obj) → Prop} {news : List (Addr × Obj)} {g : Heap} {gn : Array GenState} {dr : Drawn} {tk₀ : Nat} {os : OsState}
noncomputable def SomeInt (R : Int → Prop) (h₀ : Heap) (L : Addr) (m : Str → Option Value) (led : List (Addr × Obj)) (gn : Array GenState) (dr : Drawn) (os : OsState) (v : Value) (s : Shared) : Prop := ∃ x t h tk, v = .int x t ∧ R x ∧ s = Shared.mk h gn dr tk os ∧ Fr h₀ L h m ∧ News h₀ L h led
theorem cr_some4 {R : Int → Prop} (hS : S news)
    (h : ∀ (u : Int) t I oI C oC D oD m₂ h₁ tk (E' : Value → Shared → Prop), 1 ≤ u ∧ u < 5 → LCg.NsObj oC m₂ → m₂ x = some (.int u t) → Fr h₀ L h₁ m → News h₀ L h₁ ((I, oI) :: (C, oC) :: (D, oD) :: news) →
      wpAny (model prg w) A (eval elt (compEnvC scope cl C env)) (SomeInt R h₀ L m ((I, oI) :: (C, oC) :: (D, oD) :: news) gn dr os) E' (Shared.mk h₁ gn dr tk os))
    (k : ∀ x0 x1 x2 x3 t0 t1 t2 t3, R x0 → R x1 → R x2 → R x3 → Fin [.int x0 t0, .int x1 t1, .int x2 t2, .int x3 t3] news) :
    LCg.CompRest prg w A h₀ L m env elt x scope cl (Shared.mk g gn dr tk₀ os) S (fun i v => ∃ t, v = .int (1 + (i : Int)) t) Fin 4 0 [] news := by
  have turn : ∀ (n i : Nat) (ys : List Value), i < 4 → (∀ y t, R y → LCg.CompRest prg w A h₀ L m env elt x scope cl (Shared.mk g gn dr tk₀ os) S (fun i v => ∃ t, v = .int (1 + (i : Int)) t) Fin n (i + 1) (ys ++ [.int y t]) news) →
      LCg.CompRest prg w A h₀ L m env elt x scope cl (Shared.mk g gn dr tk₀ os) S (fun i v => ∃ t, v = .int (1 + (i : Int)) t) Fin (n + 1) i ys news := fun n i ys hi ih =>
    cr_turn (v := fun t : Tok => .int (1 + (i : Int)) t) (fun u hu => hu) fun t I oI C oC D m₂ h₁ tk E' hC hx F N off ne => wpAny_mono (h _ t I oI C oC D _ m₂ h₁ tk E' ⟨by omega, by omega⟩ hC hx F N) (fun v s₂ e => by
      refine byG (fun P9 hP9 => ?_)
      obtain ⟨y, t', h', tk', rfl, hR, rfl, F', N'⟩ := e
      refine hP9 ?_
      clear hP9 P9
      exact LCg.CompEnd.intro F' N' news (fun _ hp => hp) off hS (ih y t' hR)) fun _ _ e => e
  exact turn 3 0 [] (by decide) fun x0 t0 r0 => turn 2 1 _ (by decide) fun x1 t1 r1 => turn 1 2 _ (by decide) fun x2 t2 r2 => turn 0 3 _ (by decide) fun x3 t3 r3 => k x0 x1 x2 x3 t0 t1 t2 t3 r0 r1 r2 r3
end
noncomputable def pmOf (n : Int) : PM := ⟨(n.fdiv (6 ^ (3 * (0 : Int) + 0).toNat)).fmod 6, (n.fdiv (6 ^ (3 * (0 : Int) + 1).toNat)).fmod 6, (n.fdiv (6 ^ (3 * (0 : Int) + 2).toNat)).fmod 6, (n.fdiv (6 ^ (3 * (1 : Int) + 0).toNat)).fmod 6, (n.fdiv (6 ^ (3 * (1 : Int) + 1).toNat)).fmod 6, (n.fdiv (6 ^ (3 * (1 : Int) + 2).toNat)).fmod 6, (n.fdiv (6 ^ (3 * (2 : Int) + 0).toNat)).fmod 6, (n.fdiv (6 ^ (3 * (2 : Int) + 1).toNat)).fmod 6, (n.fdiv (6 ^ (3 * (2 : Int) + 2).toNat)).fmod 6⟩
noncomputable def figT (n u v : Int) : Int := (n.fdiv (6 ^ (3 * u + v).toNat)).fmod 6
theorem fm6' (x : Int) : 0 ≤ x.fmod 6 ∧ x.fmod 6 ≤ 5 := ⟨Int.fmod_nonneg_of_pos x (by decide), Int.lt_add_one_iff.mp (Int.fmod_lt_of_pos x (b := 6) (by decide))⟩
theorem fm511' (x : Int) : 1 ≤ 1 + x.fmod 511 ∧ 1 + x.fmod 511 < 512 := by
  have a := Int.fmod_nonneg_of_pos x (b := 511) (by decide)
  have b := Int.fmod_lt_of_pos x (b := 511) (by decide)
  omega
theorem pmOf_ok (n : Int) : PM.ok (pmOf n) := ⟨fm6' _, fm6' _, fm6' _, fm6' _, fm6' _, fm6' _, fm6' _, fm6' _, fm6' _⟩
theorem PMIn.fig {n : Int} {rows l : List (Addr × Obj)} {D r0 r1 r2 : Addr} {k : Nat} (h0 : RowIn rows r0 (figT n 0)) (h1 : RowIn rows r1 (figT n 1)) (h2 : RowIn rows r2 (figT n 2)) (hD : (D, listOf #[.ref r0, .ref r1, .ref r2] k) ∈ l) (hs : ∀ q ∈ rows, q ∈ l) : PMIn l D (pmOf n).at :=
  PMIn.of (p := (pmOf n).at) h0 h1 h2 hD hs
theorem tail_in5 {a : Addr × Obj} {cs rows led : List (Addr × Obj)} (h : ∀ q ∈ cs, q ∈ led) : ∀ q ∈ cs ++ (a :: rows), q ∈ a :: (rows ++ led) := fun q hq => by
  rcases List.mem_append.mp hq with hq | hq
  · exact .tail _ (List.mem_append_right _ (h q hq))
  rcases List.mem_cons.mp hq with rfl | hq
  · exact .head _
  · exact .tail _ (List.mem_append_left _ hq)
theorem tail_in6 {a : Addr × Obj} {cs OT : List (Addr × Obj)} : ∀ q ∈ cs ++ (a :: OT), q ∈ a :: (cs ++ OT) := fun q hq => by
  rcases List.mem_append.mp hq with hq | hq
  · exact .tail _ (List.mem_append_left _ hq)
  rcases List.mem_cons.mp hq with rfl | hq
  · exact .head _
  · exact .tail _ (List.mem_append_right _ hq)
theorem lights_rows {l : List (Addr × Obj)} {LT : Addr} {L0 L1 L2 L3 : Lev} {A0 A1 A2 A3 : T3} (h : SMIn l LT (fun k c => bkT L0 L1 L2 L3 k c + trT A0 A1 A2 A3 k c)) : ∃ (nl : Nat) (g0 g1 g2 g3 : TrA), ∀ q ∈ fourRef LT nl g0.R g1.R g2.R g3.R :: [g0.row (lightT L0 A0), g1.row (lightT L1 A1), g2.row (lightT L2 A2), g3.row (lightT L3 A3)], q ∈ l := by
  refine byG (fun P9 hP9 => ?_)
  obtain ⟨r0, r1, r2, r3, n, e, ⟨t1, t2, t3, n0, e0⟩, ⟨t4, t5, t6, n1, e1⟩, ⟨t7, t8, t9, n2, e2⟩, ⟨t10, t11, t12, n3, e3⟩⟩ := h
  refine hP9 ?_
  clear hP9 P9
  exact ⟨n, ⟨r0, n0, t1, t2, t3⟩, ⟨r1, n1, t4, t5, t6⟩, ⟨r2, n2, t7, t8, t9⟩, ⟨r3, n3, t10, t11, t12⟩, List.forall_mem_cons.mpr ⟨e, List.forall_mem_cons.mpr ⟨e0, List.forall_mem_cons.mpr ⟨e1, List.forall_mem_cons.mpr ⟨e2, List.forall_mem_cons.mpr ⟨e3, List.forall_mem_nil _⟩⟩⟩⟩⟩⟩
theorem KF.tabs {w : World} {p : PM} {sm : SM} {L0 L1 L2 L3 : Lev} {T0 T1 T2 A0 A1 A2 A3 : T3} {l0 l1 l2 l3 : LvA} {OT led : List (Addr × Obj)} {BK KP : Addr} {nb nk : Nat} {k0 k1 k2 : TrA} {pa : PA} {sa : SA} {g h : Heap} {L : Addr} (K : KF w p sm L0 L1 L2 L3 T0 T1 T2 A0 A1 A2 A3 l3 (lateLed BK KP nb nk l0 l1 l2 l3 k0 k1 k2 L3 T0 T1 T2 pa sa p sm) OT) (N : News g L h led) (hs : ∀ q ∈ OT, q ∈ led) : TabsAt pa.P sa.M p sm h :=
  TabsAt.of h fun q hq => (N q (hs q (K.late q (late_pins q hq)))).1
theorem tail_in7 {a : Addr × Obj} {cs tl OT : List (Addr × Obj)} : ∀ q ∈ a :: (cs ++ (tl ++ OT)), q ∈ (a :: tl) ++ (cs ++ OT) := fun q hq => by
  rcases List.mem_cons.mp hq with rfl | h
  · exact .head _
  rcases List.mem_append.mp h with h | h
  · exact .tail _ (List.mem_append_right _ (List.mem_append_left _ h))
  rcases List.mem_append.mp h with h | h
  · exact .tail _ (List.mem_append_left _ h)
  · exact .tail _ (List.mem_append_right _ (List.mem_append_right _ h))
theorem ledR_in {WS WO LT : Addr} {ns no nl : Nat} {g0 g1 g2 g3 : TrA} {G0 G1 G2 G3 : T3} {vs ws : List Value} {cs tail led : List (Addr × Obj)} (h1 : (WS, listOf vs.toArray ns) ∈ led) (h2 : (WO, listOf ws.toArray no) ∈ led) (hg : ∀ q ∈ fourRef LT nl g0.R g1.R g2.R g3.R :: [g0.row G0, g1.row G1, g2.row G2, g3.row G3], q ∈ tail) (hc : ∀ q ∈ cs, q ∈ led) (ht : ∀ q ∈ tail, q ∈ led) : ∀ q ∈ ledR WS WO LT ns no nl g0 g1 g2 g3 G0 G1 G2 G3 vs ws ++ (cs ++ tail), q ∈ led := fun q hq => by
  rcases List.mem_append.mp hq with hq | hq
  · rcases List.mem_cons.mp hq with rfl | hq; · exact h1
    rcases List.mem_cons.mp hq with rfl | hq; · exact h2
    exact ht q (hg q hq)
  rcases List.mem_append.mp hq with hq | hq
  · exact hc q hq
  · exact ht q hq
end Mine
end
section
open PySem PySem.W PyProof.Rows PySem.Spec PySem.Calls PyProof.V
namespace Mine
section
variable {w : World} {A : Around} {h₀ : Heap} {L : Addr} {m : Str → Option Value} {env : Env} {elt : Expr} {x : Str} {scope : Scope} {cl : List (Str × Addr)} {S : List (Addr × Obj) → Prop} {Fin : List Value → List (Addr × Obj) → Prop} {news : List (Addr × Obj)} {g : Heap} {gn : Array GenState} {dr : Drawn} {tk₀ : Nat} {os : OsState}
structure LightsAt (news : List (Addr × Obj)) (g0 g1 g2 g3 : TrA) (G0 G1 G2 G3 : T3) : Prop where
  m0 : g0.row G0 ∈ news
  m1 : g1.row G1 ∈ news
  m2 : g2.row G2 ∈ news
  m3 : g3.row G3 ∈ news
  b0 : Bd G0
  b1 : Bd G1
  b2 : Bd G2
  b3 : Bd G3
theorem cr_lights {R : T3 → Int → Prop} {g0 g1 g2 g3 : TrA} {G0 G1 G2 G3 : T3} (hS : S news) (HL : LightsAt news g0 g1 g2 g3 G0 G1 G2 G3)
    (h : ∀ (gg : TrA) (G : T3) I oI C oC D oD m₂ h₁ tk (E' : Value → Shared → Prop), Bd G → gg.row G ∈ news → LCg.NsObj oC m₂ → m₂ x = some (.ref gg.R) → Fr h₀ L h₁ m → News h₀ L h₁ ((I, oI) :: (C, oC) :: (D, oD) :: news) →
      wpAny (model prg w) A (eval elt (compEnvC scope cl C env)) (SomeInt (R G) h₀ L m ((I, oI) :: (C, oC) :: (D, oD) :: news) gn dr os) E' (Shared.mk h₁ gn dr tk os))
    (k : ∀ x0 x1 x2 x3 t0 t1 t2 t3, R G0 x0 → R G1 x1 → R G2 x2 → R G3 x3 → Fin [.int x0 t0, .int x1 t1, .int x2 t2, .int x3 t3] news) :
    LCg.CompRest prg w A h₀ L m env elt x scope cl (Shared.mk g gn dr tk₀ os) S (fun i v => #[Value.ref g0.R, .ref g1.R, .ref g2.R, .ref g3.R][i]? = some v) Fin 4 0 [] news := by
  have turn : ∀ (gg : TrA) (G : T3) (n i : Nat) (ys : List Value), #[Value.ref g0.R, .ref g1.R, .ref g2.R, .ref g3.R][i]? = some (.ref gg.R) → Bd G → gg.row G ∈ news → (∀ y t, R G y → LCg.CompRest prg w A h₀ L m env elt x scope cl (Shared.mk g gn dr tk₀ os) S (fun i v => #[Value.ref g0.R, .ref g1.R, .ref g2.R, .ref g3.R][i]? = some v) Fin n (i + 1) (ys ++ [.int y t]) news) →
      LCg.CompRest prg w A h₀ L m env elt x scope cl (Shared.mk g gn dr tk₀ os) S (fun i v => #[Value.ref g0.R, .ref g1.R, .ref g2.R, .ref g3.R][i]? = some v) Fin (n + 1) i ys news := fun gg G n i ys hi hb hm ih =>
    cr_turn (cp_led hi) fun t I oI C oC D m₂ h₁ tk E' hC hx F N off ne => wpAny_mono (h gg G I oI C oC D _ m₂ h₁ tk E' hb hm hC hx F N) (fun v s₂ e => by
      refine byG (fun P9 hP9 => ?_)
      obtain ⟨y, t', h', tk', rfl, hR, rfl, F', N'⟩ := e
      refine hP9 ?_
      clear hP9 P9
      exact LCg.CompEnd.intro F' N' news (fun _ hp => hp) off hS (ih y t' hR)) fun _ _ e => e
  exact turn g0 G0 3 0 [] rfl HL.b0 HL.m0 fun x0 t0 r0 => turn g1 G1 2 1 _ rfl HL.b1 HL.m1 fun x1 t1 r1 => turn g2 G2 1 2 _ rfl HL.b2 HL.m2 fun x2 t2 r2 => turn g3 G3 0 3 _ rfl HL.b3 HL.m3 fun x3 t3 r3 => k x0 x1 x2 x3 t0 t1 t2 t3 r0 r1 r2 r3
theorem cr_ints4 {f : Int → Int} (hS : S news)
    (h : ∀ (u : Int) t I oI C oC D oD m₂ h₁ (E' : Value → Shared → Prop), 0 ≤ u ∧ u < 4 → LCg.NsObj oC m₂ → m₂ x = some (.int u t) → Fr h₀ L h₁ m → News h₀ L h₁ ((I, oI) :: (C, oC) :: (D, oD) :: news) → Ev ⟨w, A, E', compEnvC scope cl C env, h₁, gn, dr, os⟩ elt (Value.int (f u)))
    (k : ∀ t1 t2 t3 t4, Fin [.int (f 0) t1, .int (f 1) t2, .int (f 2) t3, .int (f 3) t4] news) :
    LCg.CompRest prg w A h₀ L m env elt x scope cl (Shared.mk g gn dr tk₀ os) S (fun i v => ∃ t, v = .int (0 + (i : Int)) t) Fin 4 0 [] news := by
  have turn : ∀ (n i : Nat) (ys : List Value), i < 4 → (∀ t, LCg.CompRest prg w A h₀ L m env elt x scope cl (Shared.mk g gn dr tk₀ os) S (fun i v => ∃ t, v = .int (0 + (i : Int)) t) Fin n (i + 1) (ys ++ [.int (f (i : Int)) t]) news) →
      LCg.CompRest prg w A h₀ L m env elt x scope cl (Shared.mk g gn dr tk₀ os) S (fun i v => ∃ t, v = .int (0 + (i : Int)) t) Fin (n + 1) i ys news := fun n i ys hi ih =>
    cr_turn (v := fun t : Tok => .int (i : Int) t) (fun u hu => by obtain ⟨t, e⟩ := hu; rw [Int.zero_add] at e; exact ⟨t, e⟩) fun t I oI C oC D m₂ h₁ tk E' hC hx F N off ne => (h _ t I oI C oC D _ m₂ h₁ E' ⟨by omega, by omega⟩ hC hx F N).run _ _ fun t' tk' =>
      LCg.CompEnd.intro F N news (fun _ hp => hp) off hS (ih t')
  exact turn 3 0 [] (by decide) fun t1 => turn 2 1 _ (by decide) fun t2 => turn 1 2 _ (by decide) fun t3 => turn 0 3 _ (by decide) fun t4 => k t1 t2 t3 t4
end
section
variable {C : Cx} {y9e y9j : Expr} {y9pos : Pos} {y9g : Heap} {y9L : Addr} {y9led : List (Addr × Obj)}
theorem Ev.it3 {y9R : Addr} {y9x y9y y9z y9v : Int} {y9a y9b y9c : Tok} {y9n : Nat} (x9he : Ev C y9e (fun _ => .ref y9R)) (x9N : News y9g y9L C.h y9led) (x9hm : (y9R, listOf #[.int y9x y9a, .int y9y y9b, .int y9z y9c] y9n) ∈ y9led) (x9hj : Ev C y9j (Value.int y9v)) (x9hv : Dig y9v) (x9s : Plain y9j) : Ev C (.Subscript y9e y9j y9pos) (Value.int (pick3 y9x y9y y9z y9v)) := .mk fun Q tk k =>
  Subscript_ (x9he.run _ _ fun _ _ => x9hj.run _ _ fun _ _ => item3 (s := Shared.mk C.h C.gn C.dr _ C.os) x9N x9hm x9hv.1 x9hv.2 (fun t => k t _) (fun _ => x9s _ _ _))
end
noncomputable def kpF (T0 T1 T2 : T3) (k c : Int) : Int := T3.at (if k = 0 then T0 else if k = 1 then T1 else T2) c
theorem kpF_dig {T0 T1 T2 : T3} (h : Dg T0 ∧ Dg T1 ∧ Dg T2) (i u : Int) (_ : 0 ≤ i ∧ i < 3) (_ : 0 ≤ u ∧ u < 3) : 0 ≤ kpF T0 T1 T2 i u ∧ kpF T0 T1 T2 i u < 3 := by
  have key : ∀ T : T3, Dg T → Dig (T3.at T u) := fun T hT => pick3_mem (P := Dig) hT.1 hT.2.1 hT.2.2
  unfold kpF
  split
  · exact key _ h.1
  · split
    · exact key _ h.2.1
    · exact key _ h.2.2
theorem kept_at {h₀ h : Heap} {L : Addr} {led : List (Addr × Obj)} {KP : Addr} {nk : Nat} {k0 k1 k2 : TrA} {T0 T1 T2 : T3} (N : News h₀ L h led) (hs : ∀ q ∈ [threeRef KP nk k0.R k1.R k2.R, k0.row T0, k1.row T1, k2.row T2], q ∈ led) : PMAt h KP (kpF T0 T1 T2) :=
  ⟨k0.R, k1.R, k2.R, nk, (N _ (hs _ (.head _))).1, ⟨k0.t0, k0.t1, k0.t2, k0.n, (N _ (hs _ (.tail _ (.head _)))).1⟩, ⟨k1.t0, k1.t1, k1.t2, k1.n, (N _ (hs _ (.tail _ (.tail _ (.head _))))).1⟩, ⟨k2.t0, k2.t1, k2.t2, k2.n, (N _ (hs _ (.tail _ (.tail _ (.tail _ (.head _)))))).1⟩⟩
theorem u4 {u : Int} (h : 0 ≤ u ∧ u < 4) : u = 0 ∨ u = 1 ∨ u = 2 ∨ u = 3 := four h
theorem four_eq {a0 a1 a2 a3 T x0 x1 x2 x3 : Int} (h : a0 = T ∧ a1 = T ∧ a2 = T ∧ a3 = T) (r0 : x0 = a0) (r1 : x1 = a1) (r2 : x2 = a2) (r3 : x3 = a3) : x0 = T ∧ x1 = T ∧ x2 = T ∧ x3 = T :=
  ⟨r0.trans h.1, r1.trans h.2.1, r2.trans h.2.2.1, r3.trans h.2.2.2⟩
end Mine
end
section
open PySem PySem.W PyProof.Rows PySem.Spec PySem.Calls PyProof.V
namespace Mine
section
variable {w : World} {A : Around} {h₀ : Heap} {L : Addr} {m : Str → Option Value} {env : Env} {elt : Expr} {x : Str} {scope : Scope} {cl : List (Str × Addr)} {S : List (Addr × Obj) → Prop} {Fin : List Value → List (Addr × Obj) → Prop} {news : List (Addr × Obj)} {g : Heap} {gn : Array GenState} {dr : Drawn} {tk₀ : Nat} {os : OsState}
theorem cr_str4 {a b c d : Int} (hS : S news) (ha : 0 ≤ a ∧ a < 3) (hb : 0 ≤ b ∧ b < 3) (hc : 0 ≤ c ∧ c < 3) (hd : 0 ≤ d ∧ d < 3)
    (h : ∀ (u : Int) t I oI C oC D oD m₂ h₁ (E' : Value → Shared → Prop), 0 ≤ u ∧ u < 3 → LCg.NsObj oC m₂ → m₂ x = some (.str (tx [u]) t) → Fr h₀ L h₁ m → News h₀ L h₁ ((I, oI) :: (C, oC) :: (D, oD) :: news) → Ev ⟨w, A, E', compEnvC scope cl C env, h₁, gn, dr, os⟩ elt (Value.int u))
    (k : ∀ t1 t2 t3 t4, Fin [.int a t1, .int b t2, .int c t3, .int d t4] news) :
    LCg.CompRest prg w A h₀ L m env elt x scope cl (Shared.mk g gn dr tk₀ os) S (fun i v => ∃ c' t, [a, b, c, d][i]? = some c' ∧ v = .str (tx [c']) t) Fin 4 0 [] news := by
  have turn : ∀ (u : Int) (n i : Nat) (ys : List Value), [a, b, c, d][i]? = some u → 0 ≤ u ∧ u < 3 → (∀ t, LCg.CompRest prg w A h₀ L m env elt x scope cl (Shared.mk g gn dr tk₀ os) S (fun i v => ∃ c' t, [a, b, c, d][i]? = some c' ∧ v = .str (tx [c']) t) Fin n (i + 1) (ys ++ [.int u t]) news) →
      LCg.CompRest prg w A h₀ L m env elt x scope cl (Shared.mk g gn dr tk₀ os) S (fun i v => ∃ c' t, [a, b, c, d][i]? = some c' ∧ v = .str (tx [c']) t) Fin (n + 1) i ys news := fun u n i ys hi hu ih =>
    cr_turn (cp_str hi) fun t I oI C oC D m₂ h₁ tk E' hC hx F N off ne => (h u t I oI C oC D _ m₂ h₁ E' hu hC hx F N).run _ _ fun t' tk' =>
      LCg.CompEnd.intro F N news (fun _ hp => hp) off hS (ih t')
  exact turn a 3 0 [] rfl ha fun t1 => turn b 2 1 _ rfl hb fun t2 => turn c 1 2 _ rfl hc fun t3 => turn d 0 3 _ rfl hd fun t4 => k t1 t2 t3 t4
theorem crc_some3 {R : Int → Int → Prop} (hS : S news)
    (h : ∀ (u : Int) t I oI C oC c oc D oD h₁ tk (E' : Value → Shared → Prop), 0 ≤ u ∧ u < 3 → oc.data = .cell (some (.int u t)) → Fr h₀ L h₁ m → News h₀ L h₁ ((I, oI) :: (C, oC) :: (c, oc) :: (D, oD) :: news) →
      wpAny (model prg w) A (eval elt (compEnvC scope ((x, c) :: cl) C env)) (SomeInt (R u) h₀ L m ((I, oI) :: (C, oC) :: (c, oc) :: (D, oD) :: news) gn dr os) E' (Shared.mk h₁ gn dr tk os))
    (k : ∀ x0 x1 x2 t0 t1 t2, R 0 x0 → R 1 x1 → R 2 x2 → Fin [.int x0 t0, .int x1 t1, .int x2 t2] news) :
    CRest prg w A h₀ L m env elt x scope cl (Shared.mk g gn dr tk₀ os) S (fun i v => ∃ t, v = .int (0 + (i : Int)) t) Fin 3 0 [] news := by
  have turn : ∀ (n i : Nat) (ys : List Value), i < 3 → (∀ y t, R (i : Int) y → CRest prg w A h₀ L m env elt x scope cl (Shared.mk g gn dr tk₀ os) S (fun i v => ∃ t, v = .int (0 + (i : Int)) t) Fin n (i + 1) (ys ++ [.int y t]) news) →
      CRest prg w A h₀ L m env elt x scope cl (Shared.mk g gn dr tk₀ os) S (fun i v => ∃ t, v = .int (0 + (i : Int)) t) Fin (n + 1) i ys news := fun n i ys hi ih =>
    crc_turn (v := fun t : Tok => .int (i : Int) t) (fun u hu => by obtain ⟨t, e⟩ := hu; rw [Int.zero_add] at e; exact ⟨t, e⟩) fun t I oI C oC c oc D h₁ tk E' hc F N off ne => wpAny_mono (h _ t I oI C oC c oc D _ h₁ tk E' ⟨by omega, by omega⟩ hc F N) (fun v s₂ e => by
      refine byG (fun P9 hP9 => ?_)
      obtain ⟨y, t', h', tk', rfl, hR, rfl, F', N'⟩ := e
      refine hP9 ?_
      clear hP9 P9
      exact CEnd.intro F' N' off (fun _ hp => hp) hS (ih y t' hR)) fun _ _ e => e
  exact turn 2 0 [] (by decide) fun x0 t0 r0 => turn 1 1 _ (by decide) fun x1 t1 r1 => turn 0 2 _ (by decide) fun x2 t2 r2 => k x0 x1 x2 t0 t1 t2 r0 r1 r2
end
section
variable {C : Cx} {y9e y9j : Expr} {y9pos : Pos} {y9g : Heap} {y9L : Addr} {y9led : List (Addr × Obj)}
theorem Ev.it4 {y9R : Addr} {y9a y9b y9c y9d y9v : Int} {ta tb tc td : Tok} {y9n : Nat} (x9he : Ev C y9e (fun _ => .ref y9R)) (x9N : News y9g y9L C.h y9led) (x9hm : (y9R, listOf #[.int y9a ta, .int y9b tb, .int y9c tc, .int y9d td] y9n) ∈ y9led) (x9hj : Ev C y9j (Value.int y9v)) (x9hv : 0 ≤ y9v ∧ y9v < 4) (x9s : Plain y9j) : Ev C (.Subscript y9e y9j y9pos) (Value.int (pick4 y9a y9b y9c y9d y9v)) := .mk fun Q tk k =>
  Subscript_ (x9he.run _ _ fun _ _ => x9hj.run _ _ fun _ _ => by
    rcases four x9hv with rfl | rfl | rfl | rfl
    · exact item_h (s := Shared.mk C.h C.gn C.dr _ C.os) (x9N _ x9hm).1 (by decide) (by decide) rfl (k ta _) (x9s _ _ _)
    · exact item_h (s := Shared.mk C.h C.gn C.dr _ C.os) (x9N _ x9hm).1 (by decide) (by decide) rfl (k tb _) (x9s _ _ _)
    · exact item_h (s := Shared.mk C.h C.gn C.dr _ C.os) (x9N _ x9hm).1 (by decide) (by decide) rfl (k tc _) (x9s _ _ _)
    · exact item_h (s := Shared.mk C.h C.gn C.dr _ C.os) (x9N _ x9hm).1 (by decide) (by decide) rfl (k td _) (x9s _ _ _))
end
theorem offD_all {a : Addr} {l : List (Addr × Obj)} {bs : List Addr} (ha : OffD a l) (h : ∀ b ∈ bs, ∃ o, (b, o) ∈ l) : ∀ b ∈ bs, @Ne Nat a b := fun b hb => let ⟨_, m⟩ := h b hb; Ne.symm (ha _ m)
theorem offD_all2 {a c : Addr} {l : List (Addr × Obj)} {bs : List Addr} (ha : OffD a l) (hc : OffD c l) (h : ∀ b ∈ bs, ∃ o, (b, o) ∈ l) : ∀ b ∈ bs, @Ne Nat a b ∧ @Ne Nat c b := fun b hb => let ⟨_, m⟩ := h b hb; ⟨Ne.symm (ha _ m), Ne.symm (hc _ m)⟩
theorem pick4_dig {a b c d v : Int} (ha : 0 ≤ a ∧ a < 3) (hb : 0 ≤ b ∧ b < 3) (hc : 0 ≤ c ∧ c < 3) (hd : 0 ≤ d ∧ d < 3) : 0 ≤ pick4 a b c d v ∧ pick4 a b c d v < 3 := by
  unfold pick4
  split
  · exact ha
  · split
    · exact hb
    · split
      · exact hc
      · exact hd
end Mine
end
section
open PySem PySem.W PyProof.Rows PySem.Spec PySem.Calls PyProof.V
namespace Mine
section
variable {C : Cx} {y9l y9r y9e : Expr} {y9a y9b : Nat} {y9x y9y : UInt64} {p1 : Pos} {k1 : Nat}
theorem Ev.fwk {y9t : Tok} (x9h : Ev C y9e (fun _ => .float y9x y9t)) : Ev C y9e (Value.float y9x) := .mk fun Q tk k => x9h.run Q tk fun _ tk' => k y9t tk'
theorem Ev.fconst : Ev C (.Constant (.float y9x) k1 p1) (Value.float y9x) := .mk fun Q tk h => wpAny_Constant_float (h _ _)
theorem Ev.fsubF (x9l : Ev C y9l (Value.float (F64 y9a))) (x9r : Ev C y9r (Value.float (F64 y9b))) (x9a : y9a < 36) (x9b : y9b ≤ y9a) : Ev C (.BinOp y9l .Sub y9r p1) (Value.float (F64 (y9a - y9b))) := .mk fun Q tk k => wpAny_BinOp (x9l.run _ _ fun _ _ => x9r.run _ _ fun _ _ => sub_FF x9a x9b (k · ·))
theorem Ev.faddF (x9l : Ev C y9l (Value.float (F64 y9a))) (x9r : Ev C y9r (Value.float (F64 y9b))) (x9a : y9a < 36) (x9b : y9b < 36) : Ev C (.BinOp y9l .Add y9r p1) (Value.float (F64 (y9a + y9b))) := .mk fun Q tk k => wpAny_BinOp (x9l.run _ _ fun _ _ => x9r.run _ _ fun _ _ => add_FF x9a x9b (k · ·))
theorem Ev.fdivF (x9l : Ev C y9l (Value.float (F64 y9a))) (x9r : Ev C y9r (Value.float (F64 y9b))) (x9b : y9b < 72) (x90 : y9b ≠ 0) : Ev C (.BinOp y9l .Div y9r p1) (Value.float (D64 y9a y9b)) := .mk fun Q tk k => wpAny_BinOp (x9l.run _ _ fun _ _ => x9r.run _ _ fun _ _ => div_FG x9b x90 (k · ·))
theorem Ev.fsub (x9l : Ev C y9l (Value.float y9x)) (x9r : Ev C y9r (Value.float y9y)) : Ev C (.BinOp y9l .Sub y9r p1) (Value.float (Float64.sub y9x y9y)) := .mk fun Q tk k => wpAny_BinOp (x9l.run _ _ fun _ _ => x9r.run _ _ fun _ _ => sub_float (k _ _))
theorem Ev.fadd (x9l : Ev C y9l (Value.float y9x)) (x9r : Ev C y9r (Value.float y9y)) : Ev C (.BinOp y9l .Add y9r p1) (Value.float (Float64.add y9x y9y)) := .mk fun Q tk k => wpAny_BinOp (x9l.run _ _ fun _ _ => x9r.run _ _ fun _ _ => add_float (k _ _))
theorem Ev.hue {p2 p3 p4 : Pos} {k2 : Nat} (x9l : Ev C y9l (Value.float y9x)) : Ev C (.BinOp (.BinOp y9l .Div (.Constant (.float 4618441417868443648) k1 p1) p2) .Mod (.Constant (.float 4607182418800017408) k2 p3) p4) (Value.float (hueOf y9x)) := .mk fun Q tk k =>
  wpAny_BinOp (wpAny_BinOp (x9l.run _ _ fun _ _ => wpAny_Constant_float (div_c (by decide +kernel) fun _ _ => wpAny_Constant_float (mod_c (by decide +kernel) (k · ·)))))
end
theorem fbA {n k : Nat} (h : ¬ k = n) (e : k ≤ n) : n ≠ 0 := Nat.ne_of_gt (Nat.lt_of_le_of_lt (Nat.zero_le k) (Nat.lt_of_le_of_ne e h))
theorem fbB {n k : Nat} (h : ¬ k = n) (e : k ≤ n) : n - k ≠ 0 := Nat.sub_ne_zero_of_lt (Nat.lt_of_le_of_ne e h)
theorem fbC {n k : Nat} (h : n < 36) : n - k < 72 := Nat.lt_of_le_of_lt (Nat.sub_le _ _) (Nat.lt_trans h (by decide))
theorem fbD {n : Nat} (h : n < 36) : n < 72 := Nat.lt_trans h (by decide)
theorem fbE {n k : Nat} (h : n < 36) (g : k < 36) : n + k < 72 := Nat.add_lt_add h g
theorem fbF {n k : Nat} (h : ¬ k = n) (e : k ≤ n) : n + k ≠ 0 := fun q => fbA h e (Nat.eq_zero_of_add_eq_zero_right q)
noncomputable def JoinR (R : UInt64 → Prop) (x : Str) (g : Heap) (L : Addr) (m : Str → Option Value) (news : List (Addr × Obj)) (gn : Array GenState) (dr : Drawn) (os : OsState) (fl : Flow) (s : Shared) : Prop :=
  ∃ S t h tk, R S ∧ fl = .next ∧ s = Shared.mk h gn dr tk os ∧ Fr g L h (fun y => if y = x then some (.float S t) else m y) ∧ News g L h news
theorem join_r {M : Model} {A : Around} {E : Value → Shared → Prop} {env : Env} {st : Stmt} {rest : List Stmt} {Q : Flow → Shared → Prop} {s : Shared} (R : UInt64 → Prop) (x : Str) {g : Heap} {L : Addr} {m : Str → Option Value} {news : List (Addr × Obj)} {gn : Array GenState} {dr : Drawn} {os : OsState}
    (h : wpAny M A (exec st env) (JoinR R x g L m news gn dr os) E s) (k : ∀ S t h tk, R S → Fr g L h (fun y => if y = x then some (.float S t) else m y) → News g L h news → wpAny M A (execs rest env) Q E (Shared.mk h gn dr tk os)) : wpAny M A (execs (st :: rest) env) Q E s :=
  wpAny_execs_cons (wpAny_mono h (fun fl s' e => by
    refine byG (fun P9 hP9 => ?_)
    obtain ⟨S, t, h, tk, hR, rfl, rfl, F, N⟩ := e
    refine hP9 ?_
    clear hP9 P9
    exact k S t h tk hR F N) fun _ _ e => e)
section
variable {C : Cx} {y9l y9r y9e : Expr} {y9a y9b : Nat} {y9x y9y : UInt64} {p1 : Pos} {k1 : Nat}
theorem Ev.fhalf {p2 : Pos} (x9l : Ev C y9l (Value.float (F64 y9a))) : Ev C (.BinOp y9l .Div (.Constant (.float 4611686018427387904) k1 p1) p2) (Value.float (L64 y9a)) := .mk fun Q tk k => wpAny_BinOp (x9l.run _ _ fun _ _ => wpAny_Constant_float (div_L (k · ·)))
end
theorem useB {w : World} {f : Addr} {d : Nat} {vs : List Value} {Pre : Heap → Prop} {Post : Value → List (Addr × Obj) → Prop} {loose : List Str} {mean : ExcName → Option Value} {mg mb : Str → Option Value} {dp un r : Nat} {gd : Option (List Code)} {cn : Str} {cs : Scope} {a : Addr} {ccd : Value} {cl : List (Str × Addr)} {outer : List Env} {A₀ : Around} {base h₀ : Heap} {L : Addr} {m : Str → Option Value} {news : List (Addr × Obj)} {s : Shared} {Q E : Value → Shared → Prop}
    (P : PureB w f d vs Pre Post) (B : Below A₀ base outer h₀) (F : Fr h₀ L s.heap m) (X : (hd.heap_1 w.params).In h₀) (N : News h₀ L s.heap news) (T : Top vw loose mean mg mb h₀) (hk : cs.kind = .function)
    (hp : Pre s.heap) (hd' : dp + r < recursionLimit) (hu : un + 8 * r < cLine) (hr : Nat.ble d r = true) (ret : PinRet h₀ L m news s Post Q) :
    wpAny (model PySem.Challenge.pw_xg0033_01 w) (ktrTop dp un gd cn cs L a ccd cl outer) (call (.ref f) vs) Q E s :=
  P _ _ _ _ _ _ _ _ _ _ _ _ _ _ _ _ _ _ _ _ _ _ B F X N T hk hp (room_le hd' hr) (units_le hu hr) ret
section
variable {C : Cx} {y9l y9r y9e : Expr} {p1 p2 : Pos} {k1 : Nat} {y9i : Int}
theorem Ev.d64 (x9l : Ev C y9l (Value.int y9i)) (x90 : 0 ≤ y9i ∧ y9i < 36) : Ev C (.BinOp y9l .Div (.Constant (.float 4634204016564240384) k1 p1) p2) (Value.float (F64 y9i.toNat)) := .mk fun Q tk k => wpAny_BinOp (x9l.run _ _ fun _ _ => wpAny_Constant_float (div_64 x90.1 x90.2 (k · ·)))
end
section
variable {prog : Program} {w : World} {A : Around} {E : Value → Shared → Prop} {s : Shared} {Q : Value → Shared → Prop} {g : Heap} {L : Addr} {m : Str → Option Value} {news : List (Addr × Obj)}
theorem sum3_b {l : Addr} {f : Int → Int} (hh : A.handled = none) (F : Fr g L s.heap m) (N : News g L s.heap news) (H : RowAt g l f)
    (h : ∀ h' tk t', Fr g L h' m → News g L h' news → Q (.int (f 0 + f 1 + f 2) t') { s with heap := h', toks := tk }) : wpAny (model prog w) A (call (.builtin "sum") [.ref l]) Q E s := by
  refine byG (fun P9 hP9 => ?_)
  obtain ⟨t1, t2, t3, n, e⟩ := H
  refine hP9 ?_
  clear hP9 P9
  exact sumK (ns := [f 0, f 1, f 2]) hh F N ⟨_, F.keep _ _ e, rfl, _, rfl⟩ (.cons _ _ (.cons _ _ (.cons _ _ .nil))) fun h' tk t' F' N' => by
    have e : ([f 0, f 1, f 2] : List Int).sum = f 0 + f 1 + f 2 := by
      show f 0 + (f 1 + (f 2 + 0)) = _
      rw [Int.add_zero, Int.add_assoc]
    rw [e]; exact h h' tk t' F' N'
end
theorem natI {a : Int} {n : Nat} (ha : 0 ≤ a) (e : n = a.toNat) : (n : Int) = a := e ▸ Int.toNat_of_nonneg ha
theorem mx3_nat {a b c : Int} {n : Nat} (ha : 0 ≤ a ∧ a < 36) (hb : 0 ≤ b ∧ b < 36) (hc : 0 ≤ c ∧ c < 36) (h : a.toNat ≤ n ∧ b.toNat ≤ n ∧ c.toNat ≤ n ∧ (n = a.toNat ∨ n = b.toNat ∨ n = c.toNat)) : (n : Int) = mx3 a b c := mx3_is (Int.toNat_le.mp h.1) (Int.toNat_le.mp h.2.1) (Int.toNat_le.mp h.2.2.1) (h.2.2.2.imp (natI ha.1) (Or.imp (natI hb.1) (natI hc.1)))
theorem mn3_nat {a b c : Int} {n : Nat} (ha : 0 ≤ a ∧ a < 36) (hb : 0 ≤ b ∧ b < 36) (hc : 0 ≤ c ∧ c < 36) (h : n ≤ a.toNat ∧ n ≤ b.toNat ∧ n ≤ c.toNat ∧ (n = a.toNat ∨ n = b.toNat ∨ n = c.toNat)) : (n : Int) = mn3 a b c := mn3_is ((Int.le_toNat ha.1).mp h.1) ((Int.le_toNat hb.1).mp h.2.1) ((Int.le_toNat hc.1).mp h.2.2.1) (h.2.2.2.imp (natI ha.1) (Or.imp (natI hb.1) (natI hc.1)))
theorem nat36 {a : Int} (h : 0 ≤ a ∧ a < 36) : a.toNat < 36 := (Int.toNat_lt h.1).mpr h.2
theorem row_pick {h : Heap} {l : Addr} {x y z : Int} {t1 t2 t3 : Tok} {n : Nat} (H : ∀ p ∈ [(l, listOf #[.int x t1, .int y t2, .int z t3] n)], h.get? p.1 = some p.2) : RowAt h l (pick3 x y z) := ⟨t1, t2, t3, n, H _ (.head _)⟩
theorem p3_bd {x y z : Int} (hx : 0 ≤ x ∧ x < 36) (hy : 0 ≤ y ∧ y < 36) (hz : 0 ≤ z ∧ z < 36) : ∀ c : Int, 0 ≤ pick3 x y z c ∧ pick3 x y z c < 36 := fun _ => pick3_mem (P := fun r => 0 ≤ r ∧ r < 36) hx hy hz
theorem lt36 {f : Int → Int} {n : Nat} {A B C : Prop} (hf : ∀ c, 0 ≤ f c ∧ f c < 36) (h : A ∧ B ∧ C ∧ (n = (f 0).toNat ∨ n = (f 1).toNat ∨ n = (f 2).toNat)) : n < 36 := by
  obtain ⟨_, _, _, rfl | rfl | rfl⟩ := h <;> exact nat36 (hf _)
theorem lt72 {n k : Nat} (h : n < 36) (g : k < 36) : n + k < 72 := Nat.add_lt_add h g
theorem mid_nat {a b c x y : Int} {n k : Nat} (h : (n : Int) = x) (g : (k : Int) = y) : a + b + c - ((n + k : Nat) : Int) = a + b + c - x - y := by rw [← h, ← g, Int.natCast_add, Int.sub_sub]
theorem tagF0 {H : UInt64} (h : (Float64.cmp H 4595172819793696085 == some Ordering.lt) = true) : tagF H = 0 := if_pos (by unfold ltB; rw [h]; rfl)
theorem tagF0' {H : UInt64} (h : (Float64.cmp H (Float64.add 4604180019048437077 4595172819793696085) == some Ordering.gt || Float64.cmp H (Float64.add 4604180019048437077 4595172819793696085) == some Ordering.eq) = true) : tagF H = 0 := if_pos (by unfold geB; rw [h, Bool.or_true])
theorem tagFn {H : UInt64} (h : (Float64.cmp H 4595172819793696085 == some Ordering.lt) = false) (g : (Float64.cmp H (Float64.add 4604180019048437077 4595172819793696085) == some Ordering.gt || Float64.cmp H (Float64.add 4604180019048437077 4595172819793696085) == some Ordering.eq) = false) : tagF H = if ltB H 4602678819172646912 then 1 else 2 := if_neg (by unfold ltB geB; rw [h, g]; exact Bool.false_ne_true)
theorem tagF1 {H : UInt64} (h : (Float64.cmp H 4595172819793696085 == some Ordering.lt) = false) (g : (Float64.cmp H (Float64.add 4604180019048437077 4595172819793696085) == some Ordering.gt || Float64.cmp H (Float64.add 4604180019048437077 4595172819793696085) == some Ordering.eq) = false) (k : (Float64.cmp H 4602678819172646912 == some Ordering.lt) = true) : tagF H = 1 := (tagFn h g).trans (if_pos k)
theorem tagF2 {H : UInt64} (h : (Float64.cmp H 4595172819793696085 == some Ordering.lt) = false) (g : (Float64.cmp H (Float64.add 4604180019048437077 4595172819793696085) == some Ordering.gt || Float64.cmp H (Float64.add 4604180019048437077 4595172819793696085) == some Ordering.eq) = false) (k : (Float64.cmp H 4602678819172646912 == some Ordering.lt) = false) : tagF H = 2 := (tagFn h g).trans (if_neg (by unfold ltB; rw [k]; exact Bool.false_ne_true))
noncomputable def TagP (f : Int → Int) (c : Int) : Prop := (c = 0 ∧ f 1 ≤ f 0 ∧ f 2 ≤ f 0) ∨ (c = 1 ∧ f 0 ≤ f 1 ∧ f 2 ≤ f 1) ∨ (c = 2 ∧ f 0 ≤ f 2 ∧ f 1 ≤ f 2)
theorem toNat_le {a b : Int} (ha : 0 ≤ a) (hb : 0 ≤ b) (h : a.toNat ≤ b.toNat) : a ≤ b := Int.le_trans (Int.toNat_le.mp h) (Int.le_of_eq (Int.toNat_of_nonneg hb))
section
variable {f : Int → Int} {H : UInt64} (hf : ∀ c, 0 ≤ f c ∧ f c < 36) (h : HueOK (f 0).toNat (f 1).toNat (f 2).toNat H)
include hf h
theorem tagP0 (e : tagF H = 0) : TagP f 0 := .inl ⟨rfl, toNat_le (hf _).1 (hf _).1 (h.1 e).1, toNat_le (hf _).1 (hf _).1 (h.1 e).2⟩
theorem tagP1 (e : tagF H = 1) : TagP f 1 := .inr (.inl ⟨rfl, toNat_le (hf _).1 (hf _).1 (h.2.1 e).1, toNat_le (hf _).1 (hf _).1 (h.2.1 e).2⟩)
theorem tagP2 (e : tagF H = 2) : TagP f 2 := .inr (.inr ⟨rfl, toNat_le (hf _).1 (hf _).1 (h.2.2 e).1, toNat_le (hf _).1 (hf _).1 (h.2.2 e).2⟩)
end
end Mine
end
section
open PySem PySem.W PyProof.Rows PySem.Spec PySem.Calls PyProof.V
namespace Mine
inductive DI (w : World) (d : Addr) (T : List (Addr × Obj)) (G : List (Str × Int) → List (Str × Int) → Prop) (r : List (Str × Int)) : List (Addr × Obj) → Prop
  | mk {o : Obj} {kvs : List (Str × Value)} {C : List (Str × Int)} (hd : o.IsDictOf (strKind prg w) kvs) (hf : FlatPairs PyData.str kvs (kdpD C)) (nd : (C.map (·.1)).Nodup) (hl : C.length + r.length ≤ 3) (hg : G C r) : DI w d T G r ((d, o) :: T)
noncomputable def toD : Str × Int → Itm := fun p => Itm.pairF (fun t => Value.str p.1 t) (.int p.2)
theorem pd_its (D : List (Str × Int)) : (pd D).map (fun p => Itm.pairF (kyVal p.1) p.2) = D.map toD ++ [] := by
  rw [pd, List.map_map, List.append_nil]; rfl
theorem put_no {C : List (Str × Int)} {k : Str} (n : Int) (h : kdpHas C k = false) : kdpPut C k n = C ++ [(k, n)] := by
  unfold kdpPut; unfold kdpHas at h; rw [h]; rfl
theorem add_no {C : List (Str × Int)} {k : Str} (n : Int) (h : kdpHas C k = false) : kdpPut C k n = addC C k n := by
  rw [put_no n h]; unfold addC; unfold kdpHas at h; rw [h]; rfl
theorem look_nd : ∀ {C : List (Str × Int)} {p : Str × Int}, (C.map (·.1)).Nodup → p ∈ C → kdpLook C p.1 0 = p.2
  | q :: C, p, nd, hp => by
    rw [List.map_cons, List.nodup_cons] at nd
    unfold kdpLook
    rw [List.find?_cons]
    by_cases e : q.1 = p.1
    · rw [decide_eq_true e]
      rcases List.mem_cons.mp hp with rfl | hp
      · rfl
      · exact absurd (List.mem_map_of_mem (f := (·.1)) hp) (e ▸ nd.1)
    · rw [decide_eq_false e]
      rcases List.mem_cons.mp hp with rfl | hp
      · exact absurd rfl e
      · exact look_nd nd.2 hp
theorem add_has {C : List (Str × Int)} {k : Str} (n : Int) (nd : (C.map (·.1)).Nodup) (h : kdpHas C k = true) : kdpPut C k (kdpLook C k 0 + n) = addC C k n := by
  unfold kdpPut addC; unfold kdpHas at h; rw [if_pos h, if_pos h]
  refine List.map_congr_left fun p hp => ?_
  by_cases e : p.1 = k
  · rw [if_pos (decide_eq_true e), if_pos e, ← e, look_nd nd hp]
  · rw [if_neg (by simp [e]), if_neg e]
theorem has_not {C r : List (Str × Int)} {k : Str} {n : Int} (nd : ((C ++ (k, n) :: r).map (·.1)).Nodup) : kdpHas C k = false := by
  rw [List.map_append, List.nodup_append] at nd
  unfold kdpHas
  rw [List.any_eq_false]
  intro p hp e
  exact nd.2.2 _ (List.mem_map_of_mem (f := (·.1)) hp) k (List.mem_cons_self ..) (of_decide_eq_true e)
theorem agree2 {a b : Str} {v1 v2 : Option Value} {u m : Str → Option Value} : Agree [a, b] m (fun y => if y = b then v2 else if y = a then v1 else if [a, b].contains y then u y else m y) := fun z hz => by
  have e : ¬ z = b := fun e => by subst e; simp at hz
  have e' : ¬ z = a := fun e => by subst e; simp at hz
  dsimp only
  rw [if_neg e, if_neg e', if_neg (by rw [hz]; decide)]
theorem has_of {C : List (Str × Int)} {k : Str} (h : (PySem.Spec.lookup (PyData.str k) (kdpD C)).isSome = true) : kdpHas C k = true := (kdpD_isSome k C).symm.trans h
section
variable {w : World} {h₀ h' : Heap} {L d I : Addr} {m m' : Str → Option Value} {s₁ : Shared} {oI o : Obj} {all T kp : List (Addr × Obj)} {S : List Str} {r C D1 : List (Str × Int)} {tk : Nat} {k : Str} {n : Int} {kvs : List (Str × Value)} {R : List (Str × Int)} {P : Prop}
theorem loopD {prog : Program} {w' : World} {A : Around} {E : Value → Shared → Prop} {s : Shared} {env : Env} {target : Expr} {body : List Stmt} {Q : Flow → Shared → Prop} {ws : List (Addr × String)} (Inv : List (Str × Int) → List (Addr × Obj) → Prop) {xs : List (Str × Int)} {news : List (Addr × Obj)} (hi : Inv xs news)
    (step : ∀ a r news (u : Str → Option Value), Inv (a :: r) news → ∀ v h tk, (toD a).Is v h → Fr h₀ env.locals h (fun z => if S.contains z then u z else m z) → AllObj ws (fun its => News h₀ env.locals h (its ++ news) →
      wpAny (model prog w') A (assign target env v) (fun _ s₂ => wpAny (model prog w') A (execs body env) (UnrPostW h₀ env.locals { s with heap := h, toks := tk } its (fun m' n' => SubL kp n' ∧ Agree S m m' ∧ Inv r n') Q) E s₂) E { s with heap := h, toks := tk }))
    (base : ∀ news (u : Str → Option Value), Inv [] news → ItemsRest prog w' A E h₀ env target body Q s ws kp [] (fun z => if S.contains z then u z else m z) news) :
    ItemsRest prog w' A E h₀ env target body Q s ws kp (xs.map toD ++ []) m news :=
  items_ind toD [] S m Inv base step xs news m (fun _ _ => rfl) hi
theorem d_end {G : List (Str × Int) → List (Str × Int) → Prop} (F : Fr h₀ L h' m') (N : News h₀ L h' all) (mI : (I, oI) ∈ all) (md : (d, o) ∈ all) (hT : ∀ q ∈ T, q ∈ all) (nI : @Ne Nat d I) (oT : OffD I T) (hk : SubL kp ((d, o) :: T)) (ag : Agree S m m') (i : DI w d T G r ((d, o) :: T)) :
    UnrEndW h₀ L s₁ [(I, oI)] (fun m' n' => SubL kp n' ∧ Agree S m m' ∧ DI w d T G r n') { s₁ with heap := h', toks := tk } :=
  turn_end F N ((d, o) :: T) (fun p hp => by rw [List.mem_singleton.mp hp]; exact mI) (fun p hp => (List.mem_cons.mp hp).elim (fun e => e ▸ md) (hT p))
    (fun p hp q hq => by
      rw [List.mem_singleton.mp hq]
      rcases List.mem_cons.mp hp with rfl | hp
      · exact nI
      · exact fun e => oT p hp e) ⟨hk, ag, i⟩
theorem di_first (hd : o.IsDictOf (strKind prg w) kvs) (hf : FlatPairs PyData.str kvs (putD (PyData.str k) (PyData.int n) (kdpD C))) (nd1 : (D1.map (·.1)).Nodup) (hl : C.length + ((k, n) :: r).length ≤ 3) (hg : C ++ (k, n) :: r = D1) : DI w d T (fun C r => C ++ r = D1) r ((d, o) :: T) := by
  subst hg
  rw [kdpD_put, put_no n (has_not nd1)] at hf
  refine .mk hd hf ?_ (by rw [List.length_append, List.length_singleton]; rw [List.length_cons] at hl; omega) (by rw [List.append_assoc]; rfl)
  rw [List.append_cons, List.map_append, List.nodup_append] at nd1
  exact nd1.1
theorem di_has (hd : o.IsDictOf (strKind prg w) kvs) (hf : FlatPairs PyData.str kvs (putD (PyData.str k) (PyData.int (kdpLook C k 0 + n)) (kdpD C))) (hh : (PySem.Spec.lookup (PyData.str k) (kdpD C)).isSome = true) (nd : (C.map (·.1)).Nodup) (hl : C.length + ((k, n) :: r).length ≤ 3) (hg : mergeC C ((k, n) :: r) = R) : DI w d T (fun C r => mergeC C r = R) r ((d, o) :: T) := by
  rw [kdpD_isSome] at hh
  rw [kdpD_put, add_has n nd hh] at hf
  exact .mk hd hf (addC_nodup nd) (by have := addC_length C k n; rw [List.length_cons] at hl; omega) hg
theorem di_no (hd : o.IsDictOf (strKind prg w) kvs) (hf : FlatPairs PyData.str kvs (putD (PyData.str k) (PyData.int n) (kdpD C))) (hh : (PySem.Spec.lookup (PyData.str k) (kdpD C)).isSome = false) (nd : (C.map (·.1)).Nodup) (hl : C.length + ((k, n) :: r).length ≤ 3) (hg : mergeC C ((k, n) :: r) = R) : DI w d T (fun C r => mergeC C r = R) r ((d, o) :: T) := by
  rw [kdpD_isSome] at hh
  rw [kdpD_put, add_no n hh] at hf
  exact .mk hd hf (addC_nodup nd) (by have := addC_length C k n; rw [List.length_cons] at hl; omega) hg
theorem di_end (hi : DI w d T (fun C r => mergeC C r = R) [] all) (k : ∀ o, all = (d, o) :: T → (∃ kvs, o.IsDictOf (strKind prg w) kvs ∧ FlatPairs PyData.str kvs (pd R)) → (R.map (·.1)).Nodup → P) : P := by
  cases hi with
  | mk hd hf nd hl hg => exact k _ rfl ⟨_, hd, hg ▸ hf⟩ (hg ▸ nd)
end
end Mine
namespace Mine
noncomputable def mV (c n : Str) (k : Int) (t : Tok) (u : Option Value) (m : Str → Option Value) : Str → Option Value := fun z => if z = c then u else if z = n then some (.int k t) else m z
theorem mV_in {c n : Str} {t : Tok} {m : Str → Option Value} (h : c ≠ n) : (fun y => if y = n then some (.int 0 t) else m y) = mV c n 0 t (m c) m := by
  funext z
  unfold mV
  by_cases e : z = c
  · subst e; rw [if_neg h, if_pos rfl]
  · rw [if_neg e]
theorem mV_out {c n : Str} {k k' : Int} {t t' : Tok} {u v : Option Value} {m : Str → Option Value} (h : c ≠ n) : (fun y => if y = n then some (.int k' t') else if y = c then v else mV c n k t u m y) = mV c n k' t' v m := by
  funext z
  unfold mV
  by_cases e : z = c
  · subst e; rw [if_neg h, if_pos rfl, if_pos rfl]
  · rw [if_neg e, if_neg e]
    by_cases e' : z = n
    · rw [if_pos e', if_pos e', if_neg e]
    · rw [if_neg e', if_neg e', if_neg e, if_neg e']
noncomputable def toV : Str × Int → Itm := fun p => Itm.flat (.int p.2)
theorem pd_vals (D : List (Str × Int)) : (pd D).map (fun p => Itm.flat p.2) = D.map toV := by rw [pd, List.map_map]; rfl
section
variable {prog : Program} {w : World} {A : Around} {E : Value → Shared → Prop} {s : Shared} {env : Env} {h₀ : Heap} {target : Expr} {body : List Stmt} {Q : Flow → Shared → Prop} {ws : List (Addr × String)} {kp T : List (Addr × Obj)} {m : Str → Option Value} {c n : Str} {tot : Int}
theorem loopV (step : ∀ (x k : Int) t u t9 h tk, Fr h₀ env.locals h (mV c n k t u m) → AllObj ws (fun its => News h₀ env.locals h (its ++ T) →
      wpAny (model prog w) A (assign target env (.int x t9)) (fun _ s₂ => wpAny (model prog w) A (execs body env) (UnrPostW h₀ env.locals { s with heap := h, toks := tk } its (fun m' n' => SubL kp n' ∧ n' = T ∧ ∃ t' u', m' = mV c n (k + x) t' u' m) Q) E s₂) E { s with heap := h, toks := tk }))
    (base : ∀ t u, ItemsRest prog w A E h₀ env target body Q s ws kp [] (mV c n tot t u m) T) :
    ∀ (xs : List (Str × Int)) (k : Int) (t : Tok) (u : Option Value), k + (xs.map (·.2)).sum = tot → ItemsRest prog w A E h₀ env target body Q s ws kp (xs.map toV) (mV c n k t u m) T
  | [], k, t, u, e => by
    have e' : k = tot := by rw [← e]; exact (Int.add_zero k).symm
    rw [e']; exact base t u
  | p :: r, k, t, u, e => by
    intro v h tk hv F
    obtain ⟨t9, rfl⟩ := Flat.int_inv hv
    refine allObj_mono (fun its hk N => ?_) (step p.2 k t u t9 h tk F)
    refine wpAny_mono (hk N) (fun _ s₂ h₂ => wpAny_mono h₂ (fun f s₃ h₃ => ?_) fun _ _ x => x) fun _ _ x => x
    have fin : UnrEndW h₀ env.locals { s with heap := h, toks := tk } its (fun m' n' => SubL kp n' ∧ n' = T ∧ ∃ t' u', m' = mV c n (k + p.2) t' u' m) s₃ → UnrEndW h₀ env.locals { s with heap := h, toks := tk } its (fun m' n' => SubL kp n' ∧ ItemsRest prog w A E h₀ env target body Q s ws kp (r.map toV) m' n') s₃ := by
      intro h90
      refine byG (fun P9 hP9 => ?_)
      obtain ⟨h', tk', m', news', e9, F', N', ho, hs, hn, t', u', hm⟩ := h90
      refine hP9 ?_
      clear hP9 P9
      exact ⟨h', tk', m', news', e9, F', N', ho, hs, by rw [hn, hm]; exact loopV step base r _ t' u' (by rw [← e, List.map_cons, List.sum_cons, Int.add_assoc])⟩
    cases f with
    | ret v => exact h₃
    | brk => exact h₃
    | next => exact fin h₃
    | cont => exact fin h₃
theorem loopV_in {xs : List (Str × Int)} {t : Tok} (hc : c ≠ n) (e : tot = (xs.map (·.2)).sum)
    (step : ∀ (x k : Int) t u t9 h tk, Fr h₀ env.locals h (mV c n k t u m) → AllObj ws (fun its => News h₀ env.locals h (its ++ T) →
      wpAny (model prog w) A (assign target env (.int x t9)) (fun _ s₂ => wpAny (model prog w) A (execs body env) (UnrPostW h₀ env.locals { s with heap := h, toks := tk } its (fun m' n' => SubL kp n' ∧ n' = T ∧ ∃ t' u', m' = mV c n (k + x) t' u' m) Q) E s₂) E { s with heap := h, toks := tk }))
    (base : ∀ t u, ItemsRest prog w A E h₀ env target body Q s ws kp [] (mV c n tot t u m) T) :
    ItemsRest prog w A E h₀ env target body Q s ws kp (xs.map toV) (fun y => if y = n then some (.int 0 t) else m y) T := by
  rw [mV_in hc]
  exact loopV step base xs 0 t _ (by rw [e]; exact Int.zero_add _)
theorem v_end {L I : Addr} {s₁ : Shared} {oI : Obj} {all : List (Addr × Obj)} {k k' : Int} {t t' : Tok} {u v : Option Value} {h' : Heap} {tk : Nat} (hc : c ≠ n) (F : Fr h₀ L h' (fun y => if y = n then some (.int k' t') else if y = c then v else mV c n k t u m y)) (N : News h₀ L h' all) (mI : (I, oI) ∈ all) (hT : ∀ q ∈ T, q ∈ all) (oT : OffD I T) (hk : SubL kp T) :
    UnrEndW h₀ L s₁ [(I, oI)] (fun m' n' => SubL kp n' ∧ n' = T ∧ ∃ t' u', m' = mV c n k' t' u' m) { s₁ with heap := h', toks := tk } :=
  turn_end F N T (fun p hp => by rw [List.mem_singleton.mp hp]; exact mI) hT (fun p hp q hq => by rw [List.mem_singleton.mp hq]; exact fun e => oT p hp e) ⟨hk, rfl, _, _, mV_out hc⟩
end
end Mine
end
section
open PySem PySem.W PyProof.Rows PySem.Spec PySem.Calls PyProof.V
local macro_rules | `(tactic| walk_at $s:str) => `(tactic| k_extra $s)
section
namespace Mine
example : True := by k_with_none; trivial
local macro_rules | `(tactic| k_ne) => `(tactic| k_extra "m nescan")
example : True := by
  k_with "m plain" => ((refine' pin_call ?B ?F ?X ?N ?T ?hA ?hf ?hke ?ho ?hcd ?hroom ?hbind ?hloc ?hp ?k ?_ ?hco ?hgen ?hk ?hcell; (case hA => exact rfl); (case hf => exact rfl); (case hke => assumption); (case B => k_asm); (case F => k_asm); (case X => k_asm); (case N => k_asm); (case T => k_asm); (case ho => k_is); (case hcd => k_is); (case hroom => ktr_room); (case hbind => exact BindsTo.of_eq rfl); (case hcell => decide); (case hloc => exact locs rfl); (case hp => assumption); (case k => assumption); (case hco => exact rfl); (case hgen => exact rfl); (case hk => exact rfl); k_whole; intro g' L' h' FG' F' N' B' X' T' l1; (try k_lt l1); (try dsimp only); (try k_fold)))
  k_with "m sub" => (first | exact List.forall_mem_nil _ | (refine' List.forall_mem_cons.mpr ⟨?a, ?b⟩; (case a => k_mem); (case b => k_extra "m sub")))
  k_with "m ne1" => (first | exact List.forall_mem_nil _ | (refine' List.forall_mem_cons.mpr ⟨?a, ?b⟩; (case a => k_ne); (case b => k_extra "m ne1")))
  k_with "m ne" => (first | exact List.forall_mem_nil _ | (refine' List.forall_mem_cons.mpr ⟨?a, ?b⟩; (case a => k_extra "m ne1"); (case b => k_extra "m ne")))
  k_with "subscriptTail Name Constant ref int" => ((k_here; (with_unfolding_all refine' item_here ?k1 ?k2 ?k3 ?k4 ?_ ?k6; (case k1 => k_asm); (case k2 => k_mem); (case k3 => with_unfolding_all decide); (case k4 => with_unfolding_all rfl); (case k6 => with_unfolding_all rfl); k_whole)))
  k_with "subscriptTail Name Name ref int" => ((k_here; (with_unfolding_all refine' item_here ?k1 ?k2 ?k3 ?k4 ?_ ?k6; (case k1 => k_asm); (case k2 => k_mem); (case k3 => with_unfolding_all decide); (case k4 => with_unfolding_all rfl); (case k6 => with_unfolding_all rfl); k_whole)))
  k_with "subscriptTail Name BinOp ref int" => ((k_here; (with_unfolding_all refine' item_here ?k1 ?k2 ?k3 ?k4 ?_ ?k6; (case k1 => k_asm); (case k2 => k_mem); (case k3 => with_unfolding_all decide); (case k4 => with_unfolding_all rfl); (case k6 => with_unfolding_all rfl); k_whole)))
  k_with "subscriptTail Name Subscript ref int" => ((k_here; (with_unfolding_all refine' item_here ?k1 ?k2 ?k3 ?k4 ?_ ?k6; (case k1 => k_asm); (case k2 => k_mem); (case k3 => with_unfolding_all decide); (case k4 => with_unfolding_all rfl); (case k6 => with_unfolding_all rfl); k_whole)))
  k_with "subscriptTail Name UnaryOp ref int" => ((k_here; (with_unfolding_all refine' item_here ?k1 ?k2 ?k3 ?k4 ?_ ?k6; (case k1 => k_asm); (case k2 => k_mem); (case k3 => with_unfolding_all decide); (case k4 => with_unfolding_all rfl); (case k6 => with_unfolding_all rfl); k_whole)))
  k_with "subscriptTail Subscript Constant ref int" => ((k_here; (with_unfolding_all refine' item_here ?k1 ?k2 ?k3 ?k4 ?_ ?k6; (case k1 => k_asm); (case k2 => k_mem); (case k3 => with_unfolding_all decide); (case k4 => with_unfolding_all rfl); (case k6 => with_unfolding_all rfl); k_whole)))
  k_with "subscriptTail Subscript Name ref int" => ((k_here; (with_unfolding_all refine' item_here ?k1 ?k2 ?k3 ?k4 ?_ ?k6; (case k1 => k_asm); (case k2 => k_mem); (case k3 => with_unfolding_all decide); (case k4 => with_unfolding_all rfl); (case k6 => with_unfolding_all rfl); k_whole)))
  k_with "subscriptTail Subscript BinOp ref int" => ((k_here; (with_unfolding_all refine' item_here ?k1 ?k2 ?k3 ?k4 ?_ ?k6; (case k1 => k_asm); (case k2 => k_mem); (case k3 => with_unfolding_all decide); (case k4 => with_unfolding_all rfl); (case k6 => with_unfolding_all rfl); k_whole)))
  k_with "subscriptTail Subscript Subscript ref int" => ((k_here; (with_unfolding_all refine' item_here ?k1 ?k2 ?k3 ?k4 ?_ ?k6; (case k1 => k_asm); (case k2 => k_mem); (case k3 => with_unfolding_all decide); (case k4 => with_unfolding_all rfl); (case k6 => with_unfolding_all rfl); k_whole)))
  k_with "subscriptTail Subscript UnaryOp ref int" => ((k_here; (with_unfolding_all refine' item_here ?k1 ?k2 ?k3 ?k4 ?_ ?k6; (case k1 => k_asm); (case k2 => k_mem); (case k3 => with_unfolding_all decide); (case k4 => with_unfolding_all rfl); (case k6 => with_unfolding_all rfl); k_whole)))
  k_with "subscriptTail List Constant ref int" => ((k_here; (with_unfolding_all refine' item_here ?k1 ?k2 ?k3 ?k4 ?_ ?k6; (case k1 => k_asm); (case k2 => k_mem); (case k3 => with_unfolding_all decide); (case k4 => with_unfolding_all rfl); (case k6 => with_unfolding_all rfl); k_whole)))
  k_with "subscriptTail List Name ref int" => ((k_here; (with_unfolding_all refine' item_here ?k1 ?k2 ?k3 ?k4 ?_ ?k6; (case k1 => k_asm); (case k2 => k_mem); (case k3 => with_unfolding_all decide); (case k4 => with_unfolding_all rfl); (case k6 => with_unfolding_all rfl); k_whole)))
  k_with "subscriptTail List BinOp ref int" => ((k_here; (with_unfolding_all refine' item_here ?k1 ?k2 ?k3 ?k4 ?_ ?k6; (case k1 => k_asm); (case k2 => k_mem); (case k3 => with_unfolding_all decide); (case k4 => with_unfolding_all rfl); (case k6 => with_unfolding_all rfl); k_whole)))
  k_with "subscriptTail List Subscript ref int" => ((k_here; (with_unfolding_all refine' item_here ?k1 ?k2 ?k3 ?k4 ?_ ?k6; (case k1 => k_asm); (case k2 => k_mem); (case k3 => with_unfolding_all decide); (case k4 => with_unfolding_all rfl); (case k6 => with_unfolding_all rfl); k_whole)))
  k_with "subscriptTail List UnaryOp ref int" => ((k_here; (with_unfolding_all refine' item_here ?k1 ?k2 ?k3 ?k4 ?_ ?k6; (case k1 => k_asm); (case k2 => k_mem); (case k3 => with_unfolding_all decide); (case k4 => with_unfolding_all rfl); (case k6 => with_unfolding_all rfl); k_whole)))
  k_with "m nescan" => (((with_reducible rename NeAll _ _ => q9); first | exact NeAll.ne2 q9 (by k_mem) (by k_mem) | exact Ne.symm (NeAll.ne2 q9 (by k_mem) (by k_mem)) | (clear q9; k_extra "m nescan")))
  k_with "m cells" => ((refine' pin_callC ?B ?F ?X ?N ?T ?hA ?hf ?hke ?ho ?hcd ?hroom ?hbind ?hkind ?hnd ?hp ?k ?_ ?hco ?hgen ?hk; (case hA => exact rfl); (case hf => exact rfl); (case hke => assumption); (case B => k_asm); (case F => k_asm); (case X => k_asm); (case N => k_asm); (case T => k_asm); (case ho => k_is); (case hcd => k_is); (case hroom => ktr_room); (case hbind => exact BindsTo.of_eq rfl); (case hkind => exact rfl); (case hnd => decide +kernel); (case hp => assumption); (case k => assumption); (case hco => exact rfl); (case hgen => exact rfl); (case hk => exact rfl); k_whole; intro g' L' h' tk' cells' FG' F' N' Y' B' X' T' l1; (try k_lt l1); k_cells Y'; (try dsimp only [List.cons_append, List.nil_append] at N'); (try dsimp only); (try k_lift B'); (try k_fold)))
  trivial
theorem iseof_spec (w : World) (x : Int) (t : Tok) : Pure w 161 1 [.int x t] [] (fun v tl => v = .bool (decide (x = 0)) ∧ tl = []) := by
  w_top off
  intro loose mean mg mb dp un gd cn cs a ccd cl outer A₀ base h₀ L m news s Q E B F X N T hk hp hd hu k
  k_dflt (k_extra "m plain")
  k_steps
  all_goals (try dsimp only)
  all_goals (refine' pin_end _ ⟨congrArg Value.bool (by first | rfl | simp), rfl⟩ ?F ?N ?s ?s' ?ne; (case F => k_asm); (case N => k_asm); (case s => k_extra "m sub"); (case s' => k_extra "m sub"); (case ne => k_extra "m ne"))
theorem isnont_spec (w : World) (x : Int) (t : Tok) : Pure w 154 1 [.int x t] [] (fun v tl => v = .bool (decide (256 ≤ x)) ∧ tl = []) := by
  w_top off
  intro loose mean mg mb dp un gd cn cs a ccd cl outer A₀ base h₀ L m news s Q E B F X N T hk hp hd hu k
  k_dflt (k_extra "m plain")
  k_steps
  all_goals (try dsimp only)
  all_goals (refine' pin_end _ ⟨congrArg Value.bool (by first | rfl | simp), rfl⟩ ?F ?N ?s ?s' ?ne; (case F => k_asm); (case N => k_asm); (case s => k_extra "m sub"); (case s' => k_extra "m sub"); (case ne => k_extra "m ne"))
theorem ist_spec (w : World) (x : Int) (t : Tok) : Pure w 147 1 [.int x t] [] (fun v tl => v = .bool (decide (x < 256)) ∧ tl = []) := by
  w_top off
  intro loose mean mg mb dp un gd cn cs a ccd cl outer A₀ base h₀ L m news s Q E B F X N T hk hp hd hu k
  k_dflt (k_extra "m plain")
  k_steps
  all_goals (try dsimp only)
  all_goals (refine' pin_end _ ⟨congrArg Value.bool (by first | rfl | simp), rfl⟩ ?F ?N ?s ?s' ?ne; (case F => k_asm); (case N => k_asm); (case s => k_extra "m sub"); (case s' => k_extra "m sub"); (case ne => k_extra "m ne"))
local macro_rules | `(tactic| k_inst) => `(tactic| (refine' inst_acc ?N ?h1 ?h2; (case N => k_asm); (case h1 => k_mem); (case h2 => k_mem)))
local macro_rules | `(tactic| k_room) => `(tactic| ktr_room)
example : True := by
  k_with "call ref" => ((k_here; (with_reducible show wpAny _ _ (call (Value.ref 136) _) _ _ _); k_dflt (refine' call_L ?k1 ?k2 ?k3 ?k4 ?k5 ?k6 ?_; (case k1 => k_asm); (case k2 => k_asm); (case k3 => k_asm); (case k4 => exact acc_makes _); (case k5 => k_is); (case k6 => kernel_rfl); intro x' d' h' F' N' l1 l2; (try k_lt l1); (try k_lt2 l2)); (k_dflt (refine' ks_code_super ?k1 ?k2 ?k3 ?k4 ?k5 ?kA ?kF ?kK ?k6 ?k7 ?k8 ?k9 ?kB ?_ ?c1 ?c2 ?c3 ?c4; (case kA => exact rfl); (case kF => exact rfl); (case kK => first | exact rfl | assumption); (case k1 => k_asm); (case k2 => k_asm); (case k3 => k_asm); (case k4 => k_asm); (case k5 => k_asm); (case k6 => k_is); (case k7 => k_is); (case k8 => ktr_room); (case k9 => first | exact BindsTo.of_eq rfl | exact binds_K (by k_in) rfl (by k_is) rfl rfl rfl); (case kB => exact locs rfl); (case c1 => decide); (case c2 => exact rfl); (case c3 => exact rfl); (case c4 => exact rfl)); intro g' L' h' FG' F' N' B' X' T' l1; (try k_lt l1); (try dsimp only); (try k_lift B'))))
  k_with "setAttr ref" => ((k_here; k_dflt (refine' set_dict_L ?k1 ?k2 ?k3 ?k4 ?k5 ?k6 ?k7 ?k8 ?k9 ?k10 ?k11 ?k12 ?k13 ?_; (case k1 => k_asm); (case k2 => k_asm); (case k3 => k_asm); (case k4 => k_inst); (case k5 => exact rfl); (case k6 => k_is); (case k7 => exact acc_over _); (case k8 => k_is); (case k9 => k_is); (case k10 => k_get); (case k11 => k_put); (case k12 => k_upd); (case k13 => exact Nat.le_of_ble_eq_true rfl); k_whole; intro h' F' N'; (try k_sweep); (try dsimp only))))
  k_with "getMethod ref" => ((k_here; k_dflt (first
      | (refine' super_methodB (fun _ => bound_init) ?k1 ?k2 ?k3 ?k4 ?k5 ?k6 ?k7 ?k8 ?k9 ?_; (case k1 => k_asm); (case k2 => k_asm); (case k3 => k_asm); (case k4 => k_mem); (case k5 => k_inst); (case k6 => k_is); (case k7 => ks_is); (case k8 => kernel_rfl); (case k9 => decide); intro q' h' F' N' l1; (try k_lt l1))
      | (refine' super_methodB (fun _ => bound_len) ?k1 ?k2 ?k3 ?k4 ?k5 ?k6 ?k7 ?k8 ?k9 ?_; (case k1 => k_asm); (case k2 => k_asm); (case k3 => k_asm); (case k4 => k_mem); (case k5 => k_inst); (case k6 => k_is); (case k7 => ks_is); (case k8 => kernel_rfl); (case k9 => decide); intro q' h' F' N' l1; (try k_lt l1))
      | (refine' super_methodB (fun _ => bound_pop) ?k1 ?k2 ?k3 ?k4 ?k5 ?k6 ?k7 ?k8 ?k9 ?_; (case k1 => k_asm); (case k2 => k_asm); (case k3 => k_asm); (case k4 => k_mem); (case k5 => k_inst); (case k6 => k_is); (case k7 => ks_is); (case k8 => kernel_rfl); (case k9 => decide); intro q' h' F' N' l1; (try k_lt l1))
      | (refine' method_LF ?k1 ?k2 ?k3 ?k4 ?k5 ?k6 ?k7 ?_; (case k1 => k_asm); (case k2 => k_asm); (case k3 => k_inst); (case k4 => exact acc_plain _); (case k5 => k_is); (case k6 => k_is); (case k7 => k_get); k_whole)
      | (refine' method_B ?k1 ?k2 ?k3 ?k4 ?k5 ?k6 ?k7 ?_; (case k1 => k_asm); (case k2 => k_asm); (case k3 => k_inst); (case k4 => exact acc_plain _); (case k5 => k_is); (case k6 => exact PySem.F.type_list_append); (case k7 => k_get); k_whole))))
  k_with "callWith ref" => ((k_here; k_dflt (refine' callWith_B0 ?k1 ?k2 ?k3 ?k4 ?_; (case k1 => k_asm); (case k2 => k_mem); (case k3 => decide); (case k4 => decide); k_whole; try dsimp only [List.nil_append, List.cons_append])))
  k_with "call ref" => ((k_here; (with_reducible show wpAny _ _ (call (Value.ref _) []) _ _ _); k_dflt (first
      | (refine' init_B ?k1 ?k2 ?k3 ?k4 ?_; (case k1 => k_asm); (case k2 => k_asm); (case k3 => k_mem); (case k4 => k_upd); intro h' F' N'; (try k_sweep))
      | (refine' len_B ?k1 ?k2 ?k3 ?k4 ?_; (case k1 => k_asm); (case k2 => k_asm); (case k3 => k_mem); (case k4 => k_mem); k_whole)
      | (refine' pop_B ?k1 ?k2 ?k3 ?k4 ?k5 ?k6 ?k7 ?k8 ?k9 ?k10 ?k11 ?_; (case k1 => k_asm); (case k2 => k_asm); (case k3 => k_asm); (case k4 => k_mem); (case k5 => k_upd); (case k6 => k_inst); (case k7 => first | assumption | exact Nat.le_of_ble_eq_true rfl); (case k8 => kernel_rfl); (case k9 => exact acc_cls _); (case k10 => kernel_rfl); (case k11 => exact rfl); intro h' F' N'; (try k_sweep)))))
  k_with "call builtin:list.append" => ((k_here; (with_reducible show wpAny _ _ (call (Value.builtin _) [Value.ref _, _]) _ _ _); k_dflt (refine' append_B ?k1 ?k2 ?k3 ?k4 ?k5 ?k6 ?k7 ?_; (case k1 => k_asm); (case k2 => k_asm); (case k3 => k_asm); (case k6 => k_upd); (case k4 => k_inst); (case k5 => kernel_rfl); (case k7 => first | assumption | exact Nat.le_of_ble_eq_true rfl); intro h' F' N'; (try k_sweep))))
  k_with "wpAt" => ((ks_step "execs cons"; k_dflt (refine ks_wpAt_execs_cons ?_)))
  k_with "wpAt" => ((ks_step "exec Expr"; k_dflt (refine ks_wpAt_Expr_any ?_)))
  k_with "wpAt" => ((ks_step "exec Return"; k_dflt (refine ks_wpAt_Return_some ?_)))
  k_with "wpAt" => ((ks_step "exec If"; k_dflt (refine ks_wpAt_If ?_)))
  k_with "wpAt" => ((ks_step "eval Call"; k_dflt (refine ks_wpAt_MethodCall ?_)))
  k_with "wpAt" => (dsimp only)
  trivial
example : True := by
  k_with "m plainM" => ((refine' pin_callM ?B ?F ?X ?N ?T ?hA ?hf ?hke ?ho ?hcd ?hroom ?hbind ?hloc ?hp ?U ?k ?_ ?hco ?hgen ?hk ?hcell; (case hA => exact rfl); (case hf => exact rfl); (case hke => assumption); (case B => k_asm); (case F => k_asm); (case X => k_asm); (case N => k_asm); (case T => k_asm); (case ho => k_is); (case hcd => k_is); (case hroom => ktr_room); (case hbind => exact BindsTo.of_eq rfl); (case hcell => decide); (case hloc => exact locs rfl); (case hp => assumption); (case U => assumption); (case k => assumption); (case hco => exact rfl); (case hgen => exact rfl); (case hk => exact rfl); k_whole; intro g' L' h' FG' F' N' B' X' T' l1; (try k_lt l1); (try dsimp only); (try k_fold)))
  k_with "m superM" => ((refine' pin_callS ?B ?F ?X ?N ?T ?hA ?hf ?hke ?ho ?hcd ?hroom ?hbind ?hloc ?hp ?U ?k ?_ ?hco ?hgen ?hk ?hcell; (case hA => exact rfl); (case hf => exact rfl); (case hke => assumption); (case B => k_asm); (case F => k_asm); (case X => k_asm); (case N => k_asm); (case T => k_asm); (case ho => k_is); (case hcd => k_is); (case hroom => ktr_room); (case hbind => exact BindsTo.of_eq rfl); (case hcell => decide); (case hloc => exact locs rfl); (case hp => assumption); (case U => assumption); (case k => assumption); (case hco => exact rfl); (case hgen => exact rfl); (case hk => exact rfl); k_whole; intro g' L' h' FG' F' N' B' X' T' l1; (try k_lt l1); (try dsimp only)))
  trivial
noncomputable abbrev accD (w : World) (tk : Tok) : Obj := dictOf [{ hash := PyData.keyHash w.params (Str.ofString "_initial_size"), key := .str (Str.ofString "_initial_size") tk, val := .int 0 297 }] 1
theorem push_spec (w : World) (x dx : Addr) (vs : Array Value) (n : Nat) (tk ta tb : Tok) (a b : Str) (hz : vs.size ≤ sizeLine) (hx : @Ne Nat dx x) : PureM w 80 4 [.ref x, .str a ta, .str b tb] x (accObj 136 dx vs n) [(dx, accD w tk)] (fun v o' tl => v = .none ∧ ∃ D, o' = accObj 136 dx (vs.push (.ref D)) (n + 1) ∧ tl = [(D, tupO [.str a ta, .str b tb])]) := by
  w_top off
  intro loose mean mg mb dp un gd cn cs a' ccd cl outer A₀ base h₀ L m news up s Q E B F X N T hk hp U hd hu k
  k_dflt (k_extra "m plainM")
  k_steps
  (try dsimp only)
  refine' pinM_end _ _ ⟨rfl, _, rfl, rfl⟩ ?F ?N ?s ?s' ?ne
  case F => k_asm
  case N => k_asm
  case s => k_extra "m sub"
  case s' => k_extra "m sub"
  case ne => ((repeat' (first | exact List.forall_mem_nil _ | refine List.forall_mem_cons.mpr ⟨?_, ?_⟩)); all_goals k_ne)
theorem count_spec (w : World) (x dx : Addr) (vs : Array Value) (n : Nat) (tk : Tok) : PureM w 133 6 [.ref x] x (accObj 136 dx vs n) [(dx, accD w tk)] (fun v o' tl => (∃ t, v = .int vs.size t) ∧ o' = accObj 136 dx vs n ∧ tl = []) := by
  w_top off
  intro loose mean mg mb dp un gd cn cs a' ccd cl outer A₀ base h₀ L m news up s Q E B F X N T hk hp U hd hu k
  k_dflt (k_extra "m superM")
  k_steps
  (try dsimp only)
  refine' pinM_end _ _ ⟨⟨_, rfl⟩, rfl, rfl⟩ ?F ?N ?s ?s' ?ne
  case F => k_asm
  case N => k_asm
  case s => k_extra "m sub"
  case s' => k_extra "m sub"
  case ne => ((repeat' (first | exact List.forall_mem_nil _ | refine List.forall_mem_cons.mpr ⟨?_, ?_⟩)); all_goals k_ne)
theorem pop_spec (w : World) (x dx : Addr) (vs : Array Value) (v : Value) (n : Nat) (tk : Tok) (hz : vs.size ≤ 1000) (hx : @Ne Nat dx x) : PureM w 96 9 [.ref x] x (accObj 136 dx (vs.push v) n) [(dx, accD w tk)] (fun r o' tl => r = v ∧ o' = accObj 136 dx vs (n + 1) ∧ tl = []) := by
  w_top off
  intro loose mean mg mb dp un gd cn cs a' ccd cl outer A₀ base h₀ L m news up s Q E B F X N T hk hp U hd hu k
  k_dflt (k_extra "m superM")
  k_steps
  all_goals first
    | (exfalso; (rename _ = (0 : Int) => q9); revert q9; simp; done)
    | (exfalso; (rename _ = (0 : Int) => q9); revert q9; simp; omega)
    | (refine' pinM_end _ _ ⟨rfl, rfl, rfl⟩ ?F ?N ?s ?s' ?ne; (case F => k_asm); (case N => k_asm); (case s => k_extra "m sub"); (case s' => k_extra "m sub"); (case ne => ((repeat' (first | exact List.forall_mem_nil _ | refine List.forall_mem_cons.mpr ⟨?_, ?_⟩)); all_goals k_ne)))
theorem pop4_spec (w : World) (x dx : Addr) (a b c d : Value) (n : Nat) (tk : Tok) (hx : @Ne Nat dx x) : PureM w 96 9 [.ref x] x (accObj 136 dx #[a, b, c, d] n) [(dx, accD w tk)] (fun r o' tl => r = d ∧ o' = accObj 136 dx #[a, b, c] (n + 1) ∧ tl = []) :=
  pop_spec w x dx #[a, b, c] d n tk (by simp) hx
theorem pop3_spec (w : World) (x dx : Addr) (a b c : Value) (n : Nat) (tk : Tok) (hx : @Ne Nat dx x) : PureM w 96 9 [.ref x] x (accObj 136 dx #[a, b, c] n) [(dx, accD w tk)] (fun r o' tl => r = c ∧ o' = accObj 136 dx #[a, b] (n + 1) ∧ tl = []) :=
  pop_spec w x dx #[a, b] c n tk (by simp) hx
theorem pop2_spec (w : World) (x dx : Addr) (a b : Value) (n : Nat) (tk : Tok) (hx : @Ne Nat dx x) : PureM w 96 9 [.ref x] x (accObj 136 dx #[a, b] n) [(dx, accD w tk)] (fun r o' tl => r = b ∧ o' = accObj 136 dx #[a] (n + 1) ∧ tl = []) :=
  pop_spec w x dx #[a] b n tk (by simp) hx
theorem pop1_spec (w : World) (x dx : Addr) (a : Value) (n : Nat) (tk : Tok) (hx : @Ne Nat dx x) : PureM w 96 9 [.ref x] x (accObj 136 dx #[a] n) [(dx, accD w tk)] (fun r o' tl => r = a ∧ o' = accObj 136 dx #[] (n + 1) ∧ tl = []) :=
  pop_spec w x dx #[] a n tk (by simp) hx
end Mine
end
section
open PySem PySem.W PyProof.Rows PySem.Spec PySem.Calls PyProof.V
namespace Mine
theorem updF_self {d : Addr} {o : Obj} {l : List (Addr × Obj)} {g : Obj → List (Addr × Obj)} (h : UpdF d o l g) : g o = l := by
  refine byG (fun P9 hP9 => ?_)
  obtain ⟨pre, post, e1, e2, _⟩ := h.split
  refine hP9 ?_
  clear hP9 P9
  rw [e1, e2]
theorem updF_mem {d : Addr} {o : Obj} {l : List (Addr × Obj)} {g : Obj → List (Addr × Obj)} (h : UpdF d o l g) : (d, o) ∈ l := by
  obtain ⟨pre, post, e1, _⟩ := h.split
  rw [e1]; exact List.mem_append_right _ (.head _)
section
variable {w : World} {loose : List Str} {mean : ExcName → Option Value} {mg mb : Str → Option Value} {dp un r : Nat} {gd : Option (List Code)} {cn : Str} {cs : Scope} {a : Addr} {ccd : Value} {cl : List (Str × Addr)} {outer : List Env} {A₀ : Around} {base h₀ h : Heap} {L x dx : Addr} {m : Str → Option Value} {news : List (Addr × Obj)} {Q E : Value → Shared → Prop} {gn : Array GenState} {dr : Drawn} {tk : Nat} {os : OsState} {vs : List Value} {n : Nat} {td ta tb : Tok} {sa sb : Str} {v : Value} {up : Obj → List (Addr × Obj)}
theorem push_use (B : Below A₀ base outer h₀) (F : Fr h₀ L h m) (X : (hd.heap_1 w.params).In h₀) (N : News h₀ L h news) (T : Top vw loose mean mg mb h₀) (hk : cs.kind = .function) (hd' : dp + r < recursionLimit) (hu : un + 8 * r < cLine) (hr : Nat.ble 4 r = true)
    (m2 : (dx, accD w td) ∈ news) (U : UpdF x (accObj 136 dx vs.toArray n) news up) (hz : vs.length ≤ sizeLine) (hx : @Ne Nat dx x)
    (k : ∀ D h' tk', Fr h₀ L h' m → News h₀ L h' ((D, tupO [.str sa ta, .str sb tb]) :: up (accObj 136 dx (vs ++ [Value.ref D]).toArray (n + 1))) → OffD D (up (accObj 136 dx (vs ++ [Value.ref D]).toArray (n + 1))) → Q .none (Shared.mk h' gn dr tk' os)) :
    wpAny (model prg w) (ktrTop dp un gd cn cs L a ccd cl outer) (call (.ref 80) [.ref x, .str sa ta, .str sb tb]) Q E (Shared.mk h gn dr tk os) :=
  PureM.use (push_spec w x dx vs.toArray n td ta tb sa sb (by simpa using hz) hx) B F X N T hk (List.forall_mem_cons.mpr ⟨updF_mem U, List.forall_mem_cons.mpr ⟨m2, List.forall_mem_nil _⟩⟩) U (room_le hd' hr) (units_le hu hr)
    fun v o' tl h' tk' F' N' ne P => by
      obtain ⟨rfl, D, rfl, rfl⟩ := P
      rw [List.push_toArray] at N' ne
      exact k D h' tk' F' N' fun q hq => Ne.symm (ne q hq _ (.head _))
theorem count_use (B : Below A₀ base outer h₀) (F : Fr h₀ L h m) (X : (hd.heap_1 w.params).In h₀) (N : News h₀ L h news) (T : Top vw loose mean mg mb h₀) (hk : cs.kind = .function) (hd' : dp + r < recursionLimit) (hu : un + 8 * r < cLine) (hr : Nat.ble 6 r = true)
    (m2 : (dx, accD w td) ∈ news) (U : UpdF x (accObj 136 dx vs.toArray n) news up)
    (k : ∀ t h' tk', Fr h₀ L h' m → News h₀ L h' news → Q (.int vs.length t) (Shared.mk h' gn dr tk' os)) :
    wpAny (model prg w) (ktrTop dp un gd cn cs L a ccd cl outer) (call (.ref 133) [.ref x]) Q E (Shared.mk h gn dr tk os) :=
  PureM.use (count_spec w x dx vs.toArray n td) B F X N T hk (List.forall_mem_cons.mpr ⟨updF_mem U, List.forall_mem_cons.mpr ⟨m2, List.forall_mem_nil _⟩⟩) U (room_le hd' hr) (units_le hu hr)
    fun v o' tl h' tk' F' N' ne P => by
      obtain ⟨⟨t, rfl⟩, rfl, rfl⟩ := P
      rw [updF_self U] at N'
      rw [List.size_toArray]
      exact k t h' tk' F' N'
theorem pop_use (B : Below A₀ base outer h₀) (F : Fr h₀ L h m) (X : (hd.heap_1 w.params).In h₀) (N : News h₀ L h news) (T : Top vw loose mean mg mb h₀) (hk : cs.kind = .function) (hd' : dp + r < recursionLimit) (hu : un + 8 * r < cLine) (hr : Nat.ble 9 r = true)
    (m2 : (dx, accD w td) ∈ news) (U : UpdF x (accObj 136 dx (vs ++ [v]).toArray n) news up) (hz : vs.length ≤ 1000) (hx : @Ne Nat dx x)
    (k : ∀ h' tk', Fr h₀ L h' m → News h₀ L h' (up (accObj 136 dx vs.toArray (n + 1))) → Q v (Shared.mk h' gn dr tk' os)) :
    wpAny (model prg w) (ktrTop dp un gd cn cs L a ccd cl outer) (call (.ref 96) [.ref x]) Q E (Shared.mk h gn dr tk os) :=
  PureM.use (pop_spec w x dx vs.toArray v n td (by simpa using hz) hx) B F X N T hk (List.forall_mem_cons.mpr ⟨by rw [List.push_toArray]; exact updF_mem U, List.forall_mem_cons.mpr ⟨m2, List.forall_mem_nil _⟩⟩) (by rw [List.push_toArray]; exact U) (room_le hd' hr) (units_le hu hr)
    fun r o' tl h' tk' F' N' ne P => by
      refine byG (fun P9 hP9 => ?_)
      obtain ⟨rfl, rfl, rfl⟩ := P
      refine hP9 ?_
      clear hP9 P9
      exact k h' tk' F' N'
end
noncomputable def PTup (Y : List (Addr × Obj)) (v : Value) (c : Int) : Prop := ∃ D ta tb, v = .ref D ∧ (D, tupO [.str (Str.ofString "") ta, .str (tx [c]) tb]) ∈ Y
theorem PTup.mono {Y Y' : List (Addr × Obj)} {v : Value} {c : Int} (h : PTup Y v c) (hs : ∀ q ∈ Y, q ∈ Y') : PTup Y' v c := by obtain ⟨D, ta, tb, e, hm⟩ := h; exact ⟨D, ta, tb, e, hs _ hm⟩
noncomputable def pst (kp : Int → Int → Int) (l : Int) : Nat → List Int × Int
  | 0 => ([l], l)
  | j + 1 => ((pst kp l j).1 ++ [kp (2 - (j : Int)) (pst kp l j).2], kp (2 - (j : Int)) (pst kp l j).2)
theorem pst_len (kp : Int → Int → Int) (l : Int) : ∀ j, (pst kp l j).1.length = j + 1
  | 0 => rfl
  | j + 1 => by simp [pst, pst_len kp l j]
section
variable {prog : Program} {w : World} {A : Around} {E : Value → Shared → Prop} {s : Shared} {env : Env} {test : PySem.Expr} {body orelse : List Stmt} {Q : Flow → Shared → Prop}
theorem whl_ind (Inv : Nat → Shared → Prop) (hE : PassesOwn (model prog w) A env E)
    (step : ∀ n s, Inv n s → wpAny (model prog w) A (isTrue test env (eval test env)) (fun b s₂ => WhlIf b (wpAny (model prog w) A (execs body env) (fun f s₃ => f = .next ∧ 0 < n ∧ Inv (n - 1) s₃) E s₂) (wpAny (model prog w) A (execs orelse env) Q E s₂)) E s) :
    ∀ n k s, Inv n s → WhlRest prog w A E env test body orelse Q k s
  | 0, k, s, hi => whl_turn (k := k) hE (wpAny_mono (step 0 s hi) (fun b s₂ h => by
      cases b with
      | false => exact WhlIf.no rfl (by unfold WhlIf at h; rwa [if_neg Bool.false_ne_true] at h)
      | true => exact WhlIf.yes rfl (by
          unfold WhlIf at h; rw [if_pos rfl] at h
          exact wpAny_mono h (fun f s₃ e => absurd e.2.1 (Nat.lt_irrefl _)) fun _ _ e => e)) fun _ _ e => e)
  | n + 1, k, s, hi => whl_turn (k := k) hE (wpAny_mono (step (n + 1) s hi) (fun b s₂ h => by
      cases b with
      | false => exact WhlIf.no rfl (by unfold WhlIf at h; rwa [if_neg Bool.false_ne_true] at h)
      | true => exact WhlIf.yes rfl (by
          unfold WhlIf at h; rw [if_pos rfl] at h
          exact wpAny_mono h (fun f s₃ e => by obtain ⟨rfl, _, hi'⟩ := e; exact whl_ind Inv hE step n k s₃ hi') fun _ _ e => e)) fun _ _ e => e)
end
inductive PInvF (w : World) (kp : Int → Int → Int) (l : Int) (x dx TU I : Addr) (tuO : Obj) (td : Tok) : List (Int × Tok) → (Str → Option Value) → List (Addr × Obj) → Prop
  | mk (r : List (Int × Tok)) (m : Str → Option Value) (j : Nat) (vs : List Value) (nn : Nat) (Y : List (Addr × Obj)) (t : Tok) (h1 : r.length + j = 3) (h2 : ∀ (i : Nat) (q : Int × Tok), r[i]? = some q → q.1 = 2 - (j : Int) - (i : Int)) (hm : m (Str.ofString "tag") = some (.int (pst kp l j).2 t))
      (hall : All2 (PTup Y) vs (pst kp l j).1) (hoff : OwnOff Y [I, TU, x, dx]) : PInvF w kp l x dx TU I tuO td r m ((TU, tuO) :: (x, accObj 136 dx vs.toArray nn) :: (dx, accD w td) :: Y)
theorem pop_turn {w : World} {kp : Int → Int → Int} {l c : Int} {x dx TU I D : Addr} {tuO o' : Obj} {td t ta tb : Tok} {S : List Str} {h₀ h' : Heap} {L : Addr} {s₁ : Shared} {tk : Nat} {m m' : Str → Option Value} {all Y : List (Addr × Obj)} {r : List (Int × Tok)} {q : Int × Tok} {j nn : Nat} {vs : List Value}
    (F : Fr h₀ L h' m') (N : News h₀ L h' all) (mI : (I, o') ∈ all) (mT : (TU, tuO) ∈ all) (mx : (x, accObj 136 dx (vs ++ [Value.ref D]).toArray nn) ∈ all) (md : (dx, accD w td) ∈ all) (mD : (D, tupO [.str (Str.ofString "") ta, .str (tx [c]) tb]) ∈ all) (mY : ∀ q ∈ Y, q ∈ all) (hag : Agree S m m')
    (hm : m' (Str.ofString "tag") = some (.int c t)) (hc : c = kp (2 - (j : Int)) (pst kp l j).2) (h1 : (q :: r).length + j = 3) (h2 : ∀ (i : Nat) (p : Int × Tok), (q :: r)[i]? = some p → p.1 = 2 - (j : Int) - (i : Int)) (hall : All2 (PTup Y) vs (pst kp l j).1) (hoff : OwnOff Y [I, TU, x, dx])
    (nD : ∀ b ∈ [I, TU, x, dx], @Ne Nat D b) (nI : ∀ b ∈ [TU, x, dx], @Ne Nat b I) :
    UnrEndW h₀ L s₁ [(I, o')] (fun m' n' => SubL [(TU, tuO)] n' ∧ Agree S m m' ∧ PInvF w kp l x dx TU I tuO td r m' n') { s₁ with heap := h', toks := tk } := by
  have hY : OwnOff ((D, tupO [.str (Str.ofString "") ta, .str (tx [c]) tb]) :: Y) [I, TU, x, dx] := fun p hp b hb => by
    rcases List.mem_cons.mp hp with rfl | hp
    · exact nD b hb
    · exact hoff p hp b hb
  subst hc
  refine turn_end F N ((TU, tuO) :: (x, accObj 136 dx (vs ++ [Value.ref D]).toArray nn) :: (dx, accD w td) :: (D, tupO [.str (Str.ofString "") ta, .str (tx [_]) tb]) :: Y) ?_ ?_ ?_ ⟨⟨.head _, trivial⟩, hag, .mk r m' (j + 1) _ nn _ t ?_ ?_ hm ((hall.mono fun a b z => z.mono fun q hq => .tail _ hq).snoc ⟨D, ta, tb, rfl, .head _⟩) hY⟩
  · exact List.forall_mem_cons.mpr ⟨mI, List.forall_mem_nil _⟩
  · exact List.forall_mem_cons.mpr ⟨mT, List.forall_mem_cons.mpr ⟨mx, List.forall_mem_cons.mpr ⟨md, List.forall_mem_cons.mpr ⟨mD, mY⟩⟩⟩⟩
  · intro p hp q hq
    rw [List.mem_singleton] at hq
    subst hq
    rcases List.mem_cons.mp hp with rfl | hp
    · exact nI _ (.head _)
    rcases List.mem_cons.mp hp with rfl | hp
    · exact nI _ (.tail _ (.head _))
    rcases List.mem_cons.mp hp with rfl | hp
    · exact nI _ (.tail _ (.tail _ (.head _)))
    · exact hY p hp I (.head _)
  · simp only [List.length_cons] at h1; omega
  · intro i p hp
    have := h2 (i + 1) p (by simpa using hp)
    rw [this]; omega
inductive PInvW (w : World) (x dx : Addr) (td : Tok) (full : List Int) (g : Heap) (L : Addr) (gn : Array GenState) (dr : Drawn) (os : OsState) : Nat → Shared → Prop
  | mk (vs : List Value) (nn : Nat) (Y : List (Addr × Obj)) (done cs : List Int) (m : Str → Option Value) (t : Tok) (h : Heap) (tk : Nat) (hall : All2 (PTup Y) vs cs) (hc : done ++ cs.reverse = full) (hw : m (Str.ofString "way") = some (.str (tx done) t)) (hp : m (Str.ofString "pile") = some (.ref x))
      (F : Fr g L h m) (N : News g L h ((x, accObj 136 dx vs.toArray nn) :: (dx, accD w td) :: Y)) (hoff : OwnOff Y [x, dx]) : PInvW w x dx td full g L gn dr os vs.length (Shared.mk h gn dr tk os)
theorem ptup_last {Y : List (Addr × Obj)} {v : Value} {us : List Value} {cs : List Int} (h : All2 (PTup Y) (us ++ [v]) cs) : ∃ cs' c D ta tb, cs = cs' ++ [c] ∧ All2 (PTup Y) us cs' ∧ v = .ref D ∧ (D, tupO [.str (Str.ofString "") ta, .str (tx [c]) tb]) ∈ Y := by
  have hlen := h.length
  rcases List.eq_nil_or_concat cs with rfl | ⟨cs', c, rfl⟩
  · simp at hlen
  · rw [List.concat_eq_append] at h ⊢
    refine byG (fun P9 hP9 => ?_)
    obtain ⟨as', a, e, h1, D, ta, tb, rfl, hm⟩ := h.last
    obtain ⟨e1, e2⟩ := List.append_inj' e rfl
    refine hP9 ?_
    clear hP9 P9
    cases e1
    cases e2
    exact ⟨cs', c, D, ta, tb, rfl, h1, rfl, hm⟩
theorem pst_full (kp : Int → Int → Int) (l : Int) : (pst kp l 3).1.reverse = [kp 0 (kp 1 (kp 2 l)), kp 1 (kp 2 l), kp 2 l, l] := rfl
theorem pst_bd {kp : Int → Int → Int} {l : Int} (hl : 0 ≤ l ∧ l < 3) (hk : ∀ i u, 0 ≤ i ∧ i < 3 → 0 ≤ u ∧ u < 3 → 0 ≤ kp i u ∧ kp i u < 3) : ∀ j, j ≤ 3 → 0 ≤ (pst kp l j).2 ∧ (pst kp l j).2 < 3
  | 0, _ => hl
  | j + 1, h => hk _ _ ⟨by omega, by omega⟩ (pst_bd hl hk j (by omega))
theorem tx_nil0 : PySem.Str.ofString "" = tx [] := by decide +kernel
theorem p3_heads {a b c : Tok} : ∀ (i : Nat) (q : Int × Tok), [((2 : Int), a), (1, b), (0, c)][i]? = some q → q.1 = 2 - ((0 : Nat) : Int) - (i : Int)
  | 0, _, h => by cases h; rfl
  | 1, _, h => by cases h; rfl
  | 2, _, h => by cases h; rfl
  | _ + 3, _, h => nomatch h
theorem nil_or_snoc {α : Type} (l : List α) : l = [] ∨ ∃ us v, l = us ++ [v] := by
  rcases List.eq_nil_or_concat l with h | ⟨us, v, h⟩
  · exact .inl h
  · exact .inr ⟨us, v, h.trans (List.concat_eq_append ..)⟩
end Mine
end
section
namespace Mine
example : True := by k_with_none; trivial
local macro_rules | `(tactic| k_ne) => `(tactic| k_extra "m nescan")
example : True := by
  k_with "m plain" => ((refine' pin_call ?B ?F ?X ?N ?T ?hA ?hf ?hke ?ho ?hcd ?hroom ?hbind ?hloc ?hp ?k ?_ ?hco ?hgen ?hk ?hcell; (case hA => exact rfl); (case hf => exact rfl); (case hke => assumption); (case B => k_asm); (case F => k_asm); (case X => k_asm); (case N => k_asm); (case T => k_asm); (case ho => k_is); (case hcd => k_is); (case hroom => ktr_room); (case hbind => exact BindsTo.of_eq rfl); (case hcell => decide); (case hloc => exact locs rfl); (case hp => assumption); (case k => assumption); (case hco => exact rfl); (case hgen => exact rfl); (case hk => exact rfl); k_whole; intro g' L' h' FG' F' N' B' X' T' l1; (try k_lt l1); (try dsimp only); (try k_fold)))
  k_with "m sub" => (first | exact List.forall_mem_nil _ | (refine' List.forall_mem_cons.mpr ⟨?a, ?b⟩; (case a => k_mem); (case b => k_extra "m sub")))
  k_with "m ne1" => (first | exact List.forall_mem_nil _ | (refine' List.forall_mem_cons.mpr ⟨?a, ?b⟩; (case a => k_ne); (case b => k_extra "m ne1")))
  k_with "m ne" => (first | exact List.forall_mem_nil _ | (refine' List.forall_mem_cons.mpr ⟨?a, ?b⟩; (case a => k_extra "m ne1"); (case b => k_extra "m ne")))
  k_with "subscriptTail Name Constant ref int" => ((k_here; (with_unfolding_all refine' item_here ?k1 ?k2 ?k3 ?k4 ?_ ?k6; (case k1 => k_asm); (case k2 => k_mem); (case k3 => with_unfolding_all decide); (case k4 => with_unfolding_all rfl); (case k6 => with_unfolding_all rfl); k_whole)))
  k_with "subscriptTail Name Name ref int" => ((k_here; (with_unfolding_all refine' item_here ?k1 ?k2 ?k3 ?k4 ?_ ?k6; (case k1 => k_asm); (case k2 => k_mem); (case k3 => with_unfolding_all decide); (case k4 => with_unfolding_all rfl); (case k6 => with_unfolding_all rfl); k_whole)))
  k_with "subscriptTail Name BinOp ref int" => ((k_here; (with_unfolding_all refine' item_here ?k1 ?k2 ?k3 ?k4 ?_ ?k6; (case k1 => k_asm); (case k2 => k_mem); (case k3 => with_unfolding_all decide); (case k4 => with_unfolding_all rfl); (case k6 => with_unfolding_all rfl); k_whole)))
  k_with "subscriptTail Name Subscript ref int" => ((k_here; (with_unfolding_all refine' item_here ?k1 ?k2 ?k3 ?k4 ?_ ?k6; (case k1 => k_asm); (case k2 => k_mem); (case k3 => with_unfolding_all decide); (case k4 => with_unfolding_all rfl); (case k6 => with_unfolding_all rfl); k_whole)))
  k_with "subscriptTail Name UnaryOp ref int" => ((k_here; (with_unfolding_all refine' item_here ?k1 ?k2 ?k3 ?k4 ?_ ?k6; (case k1 => k_asm); (case k2 => k_mem); (case k3 => with_unfolding_all decide); (case k4 => with_unfolding_all rfl); (case k6 => with_unfolding_all rfl); k_whole)))
  k_with "subscriptTail Subscript Constant ref int" => ((k_here; (with_unfolding_all refine' item_here ?k1 ?k2 ?k3 ?k4 ?_ ?k6; (case k1 => k_asm); (case k2 => k_mem); (case k3 => with_unfolding_all decide); (case k4 => with_unfolding_all rfl); (case k6 => with_unfolding_all rfl); k_whole)))
  k_with "subscriptTail Subscript Name ref int" => ((k_here; (with_unfolding_all refine' item_here ?k1 ?k2 ?k3 ?k4 ?_ ?k6; (case k1 => k_asm); (case k2 => k_mem); (case k3 => with_unfolding_all decide); (case k4 => with_unfolding_all rfl); (case k6 => with_unfolding_all rfl); k_whole)))
  k_with "subscriptTail Subscript BinOp ref int" => ((k_here; (with_unfolding_all refine' item_here ?k1 ?k2 ?k3 ?k4 ?_ ?k6; (case k1 => k_asm); (case k2 => k_mem); (case k3 => with_unfolding_all decide); (case k4 => with_unfolding_all rfl); (case k6 => with_unfolding_all rfl); k_whole)))
  k_with "subscriptTail Subscript Subscript ref int" => ((k_here; (with_unfolding_all refine' item_here ?k1 ?k2 ?k3 ?k4 ?_ ?k6; (case k1 => k_asm); (case k2 => k_mem); (case k3 => with_unfolding_all decide); (case k4 => with_unfolding_all rfl); (case k6 => with_unfolding_all rfl); k_whole)))
  k_with "subscriptTail Subscript UnaryOp ref int" => ((k_here; (with_unfolding_all refine' item_here ?k1 ?k2 ?k3 ?k4 ?_ ?k6; (case k1 => k_asm); (case k2 => k_mem); (case k3 => with_unfolding_all decide); (case k4 => with_unfolding_all rfl); (case k6 => with_unfolding_all rfl); k_whole)))
  k_with "subscriptTail List Constant ref int" => ((k_here; (with_unfolding_all refine' item_here ?k1 ?k2 ?k3 ?k4 ?_ ?k6; (case k1 => k_asm); (case k2 => k_mem); (case k3 => with_unfolding_all decide); (case k4 => with_unfolding_all rfl); (case k6 => with_unfolding_all rfl); k_whole)))
  k_with "subscriptTail List Name ref int" => ((k_here; (with_unfolding_all refine' item_here ?k1 ?k2 ?k3 ?k4 ?_ ?k6; (case k1 => k_asm); (case k2 => k_mem); (case k3 => with_unfolding_all decide); (case k4 => with_unfolding_all rfl); (case k6 => with_unfolding_all rfl); k_whole)))
  k_with "subscriptTail List BinOp ref int" => ((k_here; (with_unfolding_all refine' item_here ?k1 ?k2 ?k3 ?k4 ?_ ?k6; (case k1 => k_asm); (case k2 => k_mem); (case k3 => with_unfolding_all decide); (case k4 => with_unfolding_all rfl); (case k6 => with_unfolding_all rfl); k_whole)))
  k_with "subscriptTail List Subscript ref int" => ((k_here; (with_unfolding_all refine' item_here ?k1 ?k2 ?k3 ?k4 ?_ ?k6; (case k1 => k_asm); (case k2 => k_mem); (case k3 => with_unfolding_all decide); (case k4 => with_unfolding_all rfl); (case k6 => with_unfolding_all rfl); k_whole)))
  k_with "subscriptTail List UnaryOp ref int" => ((k_here; (with_unfolding_all refine' item_here ?k1 ?k2 ?k3 ?k4 ?_ ?k6; (case k1 => k_asm); (case k2 => k_mem); (case k3 => with_unfolding_all decide); (case k4 => with_unfolding_all rfl); (case k6 => with_unfolding_all rfl); k_whole)))
  k_with "m nescan" => (((with_reducible rename NeAll _ _ => q9); first | exact NeAll.ne2 q9 (by k_mem) (by k_mem) | exact Ne.symm (NeAll.ne2 q9 (by k_mem) (by k_mem)) | (clear q9; k_extra "m nescan")))
  k_with "m cells" => ((refine' pin_callC ?B ?F ?X ?N ?T ?hA ?hf ?hke ?ho ?hcd ?hroom ?hbind ?hkind ?hnd ?hp ?k ?_ ?hco ?hgen ?hk; (case hA => exact rfl); (case hf => exact rfl); (case hke => assumption); (case B => k_asm); (case F => k_asm); (case X => k_asm); (case N => k_asm); (case T => k_asm); (case ho => k_is); (case hcd => k_is); (case hroom => ktr_room); (case hbind => exact BindsTo.of_eq rfl); (case hkind => exact rfl); (case hnd => decide +kernel); (case hp => assumption); (case k => assumption); (case hco => exact rfl); (case hgen => exact rfl); (case hk => exact rfl); k_whole; intro g' L' h' tk' cells' FG' F' N' Y' B' X' T' l1; (try k_lt l1); k_cells Y'; (try dsimp only [List.cons_append, List.nil_append] at N'); (try dsimp only); (try k_lift B'); (try k_fold)))
  trivial
example : True := by
  k_with "binaryOp Div float float" => ((k_here; (with_reducible show wpAny _ _ (binaryOp _ (Value.float (F64 _) _) (Value.float 4611686018427387904 _)) _ _ _); refine' div_L ?_; intro x' tk'))
  k_with "binaryOp Div float float" => ((k_here; (with_reducible show wpAny _ _ (binaryOp _ (Value.float (F64 _) _) (Value.float (F64 (_ + _)) _)) _ _ _); refine' div_FG ?a ?b ?_; (case a => omega); (case b => omega); intro x' tk'))
  k_with "binaryOp Div float float" => ((k_here; (with_reducible show wpAny _ _ (binaryOp _ (Value.float _ _) (Value.float (Float64.sub (Float64.sub 4611686018427387904 (F64 _)) (F64 _)) _)) _ _ _); refine' div_two ?a ?b ?_; (case a => omega); (case b => omega); intro x' y' tk'))
  k_with "binaryOp Div int float" => ((k_here; (with_reducible show wpAny _ _ (binaryOp _ (Value.int _ _) (Value.float 4634204016564240384 _)) _ _ _); refine' div_64 ?a ?b ?_; (case a => omega); (case b => omega); intro x' tk'))
  k_with "binaryOp Mult float float" => ((k_here; (with_reducible show wpAny _ _ (binaryOp _ (Value.float (F64 _) _) (Value.float 4634204016564240384 _)) _ _ _); refine' mul_M ?_; intro x' tk'))
  k_with "binaryOp Mult float float" => ((k_here; (with_reducible show wpAny _ _ (binaryOp _ (Value.float (L64 _) _) (Value.float 4638707616191610880 _)) _ _ _); refine' mul_H ?_; intro x' tk'))
  k_with "call type:int" => ((k_here; (with_reducible show wpAny _ _ (call _ [Value.float (M64 _) _]) _ _ _); refine' int_M ?a ?_; (case a => omega); intro x' tk'))
  k_with "call type:int" => ((k_here; (with_reducible show wpAny _ _ (call _ [Value.float (H64 _) _]) _ _ _); refine' int_H ?a ?_; (case a => omega); intro x' tk'))
  trivial
example : True := by
  k_with "m plain" => ((refine' pin_callZ ?B ?F ?X ?N ?T ?hA ?hf ?hke ?ho ?hcd ?hroom ?hbind ?hloc ?hp ?k ?_ ?hco ?hgen ?hk ?hcell; (case hA => exact rfl); (case hf => exact rfl); (case hke => assumption); (case B => k_asm); (case F => k_asm); (case X => k_asm); (case N => k_asm); (case T => k_asm); (case ho => k_is); (case hcd => k_is); (case hroom => ktr_room); (case hbind => exact BindsTo.of_eq rfl); (case hcell => decide); (case hloc => exact locs rfl); (case hp => assumption); (case k => assumption); (case hco => exact rfl); (case hgen => exact rfl); (case hk => exact rfl); k_whole; intro g' L' h' gn' dr' tk' os' Z' FG' m0' F' N' B' X' T' l1 hZ env' A'; (try k_lt l1); (try dsimp only); (try k_lift B')))
  k_with "m cells" => ((refine' pin_callCZ ?B ?F ?X ?N ?T ?hA ?hf ?hke ?ho ?hcd ?hroom ?hbind ?hkind ?hnd ?hp ?k ?_ ?hco ?hgen ?hk; (case hA => exact rfl); (case hf => exact rfl); (case hke => assumption); (case B => k_asm); (case F => k_asm); (case X => k_asm); (case N => k_asm); (case T => k_asm); (case ho => k_is); (case hcd => k_is); (case hroom => ktr_room); (case hbind => exact BindsTo.of_eq rfl); (case hkind => exact rfl); (case hnd => decide +kernel); (case hp => assumption); (case k => assumption); (case hco => exact rfl); (case hgen => exact rfl); (case hk => exact rfl); k_whole; intro g' L' h' gn' dr' tk' os' Z' cells' FG' m0' F' N' Y' B' X' T' l1 hZ env' A'; (try k_lt l1); k_cells Y'; (try simp only [List.cons_append, List.nil_append] at N'); (try dsimp only); (try k_lift B')))
  k_with "execs cons" => ((k_here; (with_reducible refine execs_tk ?_); intro tk'; k_fold))
  k_with "storeName" => ((k_here; k_dflt (refine' storeX_let ?F ?N ?_ ?a ?b; (case F => k_asm); (case N => k_asm); (case a => rfl); (case b => rfl); k_whole; intro h' m' F' N'; (try k_sweep))))
  k_with "m go" => (repeat' (first | (k_unfold; (try dsimp only)) | walk1 | (dsimp only; walk1) | (leave1; (try dsimp only))))
  trivial
local macro_rules | `(tactic| k_ne) => `(tactic| k_extra "m neq")
local macro_rules | `(tactic| k_all) => `(tactic| k_extra "m alloff")
local macro_rules | `(tactic| k_mem) => `(tactic| k_extra "m mem")
example : True := by
  k_with "m go1" => (first | (k_unfold; (try dsimp only)) | k_extra "m tab" | (walk1; (try k_extra "m say"); (all_goals ((try k_extra "m foldN"); (try k_extra "m foldO"))); (try k_extra "m say2")) | (dsimp only; walk1; (try k_extra "m say"); (all_goals ((try k_extra "m foldN"); (try k_extra "m foldO")))) | (leave1; (try dsimp only)))
  k_with "m updF" => (first | (refine' UpdF.head ?fa; (case fa => k_extra "m alloff")) | (refine' UpdF.tail ?fa ?fb; (case fa => k_extra "m neq"); (case fb => k_extra "m updF")))
  k_with "m upd" => (first | (refine' Upd.head ?ua; (case ua => k_extra "m alloff")) | (refine' Upd.tail ?ua ?ub; (case ua => k_extra "m neq"); (case ub => k_extra "m upd")))
  k_with "m foldN" => ((with_reducible rename News _ _ _ _ => N9; dsimp only [newsT] at N9; refine (let row9 := _; let led9 := row9 :: _; have N8 : NewsT _ _ _ led9 := N9; ?_); clear N9; dsimp only [newsTr] at N8))
  k_with "m go" => (repeat' (k_extra "m go1"))
  k_with "m stepsR" => (repeat' ((fail_if_success (with_reducible show RangeRest _ _ _ _ _ _ _ _ _ _ _ _ _ _ _ _ _)); (fail_if_success (with_reducible show wpAny _ _ (pyIter (Value.ref _)) (fun it s₂ => TurnsAt _ _ _ _ _ _ _ _ _ it s₂) _ _)); (k_extra "m go1")))
  k_with "m steps" => (repeat' ((fail_if_success (with_reducible show wpAny _ _ (pyIter (Value.ref _)) (fun it s₂ => TurnsAt _ _ _ _ _ _ _ _ _ it s₂) _ _)); (k_extra "m go1")))
  k_with "m scN" => (((with_reducible rename NeAll _ _ => q9); first | ((with_reducible apply na_ne q9); k_mem; k_mem) | ((with_reducible refine Ne.symm ?_); (with_reducible apply na_ne q9); k_mem; k_mem) | (clear q9; k_extra "m scN")))
  k_with "m ofN" => (((with_reducible rename NeAll _ _ => q9); first | ((with_reducible apply na_off q9); k_mem; k_extra "m tails") | (clear q9; k_extra "m ofN")))
  k_with "m tails" => (first | exact fun _ h => h | (refine sub_tl ?_; k_extra "m tails"))
  k_with "m open" => ((with_reducible rename News _ _ _ _ => N9; dsimp +zetaDelta only at N9))
  k_with "CompEnd" => ((k_here; k_dflt (first
      | (refine' keep1 ?F ?N ?off ?ne ?src ?_; (case F => k_asm); (case N => k_asm); (case off => assumption); (case ne => exact ⟨by k_extra "m neq", by k_extra "m neq", by k_extra "m neq"⟩); (case src => lcg_src); k_whole)
      | (refine' keep2 ?F ?N ?off ?ne ?ne' ?src ?_; (case F => k_asm); (case N => k_asm); (case off => assumption); (case ne => exact ⟨by k_extra "m neq", by k_extra "m neq", by k_extra "m neq"⟩); (case ne' => exact ⟨by k_extra "m neq", by k_extra "m neq", by k_extra "m neq"⟩); (case src => lcg_src); k_whole))))
  k_with "storeName" => ((k_here; k_dflt (first
      | (refine' storeX_let ?F ?N ?_ ?a ?b; (case F => k_asm); (case N => k_asm); (case a => rfl); (case b => rfl); k_whole; intro h' m' F' N'; (try k_sweep))
      | (refine' storeX_C ?F ?N ?c ?U ?d ?_ ?a ?b; (case a => rfl); (case b => rfl); (case F => k_asm); (case N => k_asm); (case c => rfl); (case U => k_extra "m updF"); (case d => k_asm); k_whole; intro h' o' F' N' d'; (try dsimp only at N'); (try k_sweep)))))
  k_with "FinE" => (((unfold LCg.FinE); intro D' h' tk' F' N' o1'; (try dsimp only); (try k_sweep)))
  k_with "FinA" => (((unfold LCg.FinA); intro D' h' tk' F' N' o1'; (try dsimp only); (try k_sweep)))
  k_with "m mem" => (first | exact List.Mem.head _ | (refine' List.Mem.tail _ ?_; k_extra "m mem") | assumption)
  k_with "m foldO" => (first
      | (with_reducible rename Old _ _ => q9; replace q9 := OffD.of q9)
      | (with_reducible rename LCg.Off1 _ _ => q9; replace q9 := OffD.of1 q9))
  k_with "m neq" => (first | with_reducible assumption | ((with_reducible refine Ne.symm ?_); with_reducible assumption) | exact cell_ne rfl | ((with_reducible apply OffD.ne); (with_reducible assumption); k_mem) | ((with_reducible refine Ne.symm ?_); (with_reducible apply OffD.ne); (with_reducible assumption); k_mem) | k_extra "m o3" | ((with_reducible refine Ne.symm ?_); k_extra "m o3") | k_extra "m scN" | k_extra "m own0")
  k_with "m o3" => (first | ((with_reducible apply o3_I); (with_reducible assumption); k_mem) | ((with_reducible apply o3_C); (with_reducible assumption); k_mem) | ((with_reducible apply o3_D); (with_reducible assumption); k_mem))
  k_with "m own0" => (((with_reducible rename OwnOff _ _ => q9); first | ((with_reducible apply OwnOff.ne1 q9); k_mem; k_mem) | ((with_reducible refine Ne.symm ?_); (with_reducible apply OwnOff.ne1 q9); k_mem; k_mem) | (clear q9; k_extra "m own0")))
  k_with "m alloff" => (first | exact List.forall_mem_nil _ | exact OffD.off (by with_reducible assumption) (fun _ h => h) | (refine' List.forall_mem_cons.mpr ⟨?la, ?lb⟩; (case la => k_extra "m neq"); (case lb => k_extra "m alloff")) | ((with_reducible apply OffD.off); (with_reducible assumption); k_extra "m tails") | k_extra "m ofN" | k_extra "m ownA")
  trivial
example : True := by
  k_with "m openC" => (((case ho => k_is); (case hcd => k_is); (case hb => exact fun _ => BindsTo.of_eq rfl); (case hkind => exact rfl); (case hnd => decide +kernel); (case c1 => exact rfl); (case c2 => exact rfl); (case c3 => exact rfl); (case hcl => exact fun _ => rfl); intro loose' mean' mg' mb' dp' un' gd' outer' A0' base' g' L' h' gn' dr' tk' os' Z' cells' env' m0' hpre F' N' Y' B' X' T' hdp hun hZ A'; k_cells Y'))
  k_with "m openP" => (((case ho => k_is); (case hcd => k_is); (case hb => exact fun _ => BindsTo.of_eq rfl); (case hl => exact locs rfl); (case c1 => exact rfl); (case c2 => exact rfl); (case c3 => exact rfl); (case hcell => decide); intro loose' mean' mg' mb' dp' un' gd' outer' A0' base' g' L' h' gn' dr' tk' os' Z' m0' hpre F' N' B' X' T' hdp hun hZ env' A'))
  k_with "m rng" => (first | with_reducible assumption | exact ⟨by decide, by decide⟩ | k_extra "m om")
  k_with "m tab" => (((with_reducible show wpAny _ _ (subscriptTail _ _ (Value.ref _) (Value.int _ _)) _ _ _); k_dflt (first
      | (refine' row_b ?F ?H ?v ?_; (case H => with_reducible assumption); (case F => k_asm); (case v => k_extra "m rng"); intro t')
      | (refine' pm_b ?F ?H ?v ?_; (case H => with_reducible assumption); (case F => k_asm); (case v => k_extra "m rng"); intro r' H')
      | (refine' sm_b ?F ?H ?v ?_; (case H => with_reducible assumption); (case F => k_asm); (case v => k_extra "m rng"); intro r' H'))))
  k_with "call builtin:sum" => ((k_here; (with_reducible show wpAny _ _ (call (Value.builtin "sum") [Value.ref _]) _ _ _); k_dflt (first
      | (refine' sum3_N ?hh ?F ?N ?hm9 ?_; (case F => k_asm); (case N => k_asm); (case hm9 => k_mem); (case hh => exact rfl))
      | (refine' sum4_N ?hh ?F ?N ?hm9 ?_; (case F => k_asm); (case N => k_asm); (case hm9 => k_mem); (case hh => exact rfl))); intro h' tk' t' F' N'; (try k_sweep)))
  k_with "UnrEnd" => (((with_reducible rename Fr _ _ _ _ => F9); (with_reducible rename News _ _ _ _ => N9); k_dflt (k_extra "m unr0")))
  k_with "m unr0" => (first
      | (refine' rturn0 F9 N9 ?off ?_; (case off => k_extra "m alloff"))
      | (replace N9 := news_tl N9; k_extra "m unr0"))
  trivial
example : True := by
  k_with "m evN" => (first
      | (refine' Ev.nL ?nF ?nV ?nE ?nK ?nX ?nD; (case nF => k_asm); (case nE => with_reducible exact rfl); (case nX => exact rfl); (case nK => exact rfl); (case nV => exact rfl); (case nD => decide))
      | (refine' Ev.nC ?nN ?nC ?nM ?nD ?nE ?nK ?nX ?nB; (case nE => with_reducible exact rfl); (case nX => exact rfl); (case nK => exact rfl); (case nN => k_asm); (case nC => exact rfl); (case nM => k_mem); (case nD => k_asm); (case nB => decide))
      | (refine' Ev.cL ?nN ?nM ?nC ?nX ?nE ?nK ?nL ?nD; (case nE => with_reducible exact rfl); (case nL => exact rfl); (case nK => exact rfl); (case nN => k_asm); (case nM => k_mem); (case nC => assumption); (case nX => assumption); (case nD => decide))
      | (refine' Ev.cC ?nN ?nC ?nM ?nD ?nE ?nK ?nX ?nB; (case nE => with_reducible exact rfl); (case nX => exact rfl); (case nK => exact rfl); (case nN => k_asm); (case nC => exact rfl); (case nM => k_mem); (case nD => k_asm); (case nB => decide))
      | (refine' Ev.cF ?nN ?nC ?nM ?nD ?nE ?nK ?nX ?nB ?nZ; (case nE => with_reducible exact rfl); (case nX => exact rfl); (case nK => exact rfl); (case nN => k_asm); (case nC => exact rfl); (case nM => k_mem); (case nD => k_asm); (case nB => decide); (case nZ => decide)))
  k_with "m evI" => (first
      | exact Ev.int
      | ((with_reducible apply Ev.add); (k_extra "m evI"); (k_extra "m evI"))
      | ((with_reducible apply Ev.sub); (k_extra "m evI"); (k_extra "m evI"))
      | ((with_reducible apply Ev.pm2); (k_extra "m evN"); k_asm; (with_reducible assumption); (k_extra "m evI"); (k_extra "m evI"); (k_extra "m rng"); (k_extra "m rng"); (exact fun _ _ _ => by with_unfolding_all rfl); (exact fun _ _ _ => by with_unfolding_all rfl))
      | ((with_reducible apply Ev.sm2); (k_extra "m evN"); k_asm; (with_reducible assumption); (k_extra "m evI"); (k_extra "m evI"); (k_extra "m rng"); (k_extra "m rng"); (exact fun _ _ _ => by with_unfolding_all rfl); (exact fun _ _ _ => by with_unfolding_all rfl))
      | ((with_reducible apply Ev.wk); first | (k_extra "m evN") | (k_extra "m evR"))
      | ((with_reducible apply Ev.rowN); (k_extra "m evN"); k_asm; (with_reducible assumption); (k_extra "m evI"); (k_extra "m rng"); (exact fun _ _ _ => by with_unfolding_all rfl)))
  k_with "m evR" => (((with_reducible apply Ev.itL); (first | k_extra "m evN" | k_extra "m evR"); k_asm; k_mem; (k_extra "m evI"); decide; (exact rfl); (exact fun _ _ _ => by with_unfolding_all rfl)))
  k_with "m evA" => (first | k_extra "m evI" | k_extra "m evN" | k_extra "m evR" | exact Ev.str)
  k_with "eval BinOp" => ((k_here; k_dflt ((refine' Ev.go ?ev9 ?_); (case ev9 => (intro C9; k_extra "m evI")); intro t' tk')))
  k_with "eval Subscript" => ((k_here; k_dflt ((refine' Ev.go ?ev9 ?_); (case ev9 => (intro C9; first | k_extra "m evI" | k_extra "m evR")); intro t' tk')))
  k_with "spliced" => ((k_here; k_dflt (first
      | ((with_reducible show wpAny _ _ (spliced (backTo _ (starEach [_] _))) _ _ _); refine' Ev.go1 ?ev9 ?s ?_; (case s => exact fun _ _ => rfl); (case ev9 => (intro C9; k_extra "m evA")); intro t' tk')
      | ((with_reducible show wpAny _ _ (spliced (backTo _ (starEach [_, _] _))) _ _ _); refine' Ev.go2 ?ev9 ?s ?_; (case s => exact ⟨fun _ _ => rfl, fun _ _ => rfl⟩); (case ev9 => (intro C9; refine' ⟨?a1, ?a2⟩; (case a1 => k_extra "m evA"); (case a2 => k_extra "m evA"))); intro t1' t2' tk')
      | ((with_reducible show wpAny _ _ (spliced (backTo _ (starEach [_, _, _] _))) _ _ _); refine' Ev.go3 ?ev9 ?s ?_; (case s => exact ⟨fun _ _ => rfl, fun _ _ => rfl, fun _ _ => rfl⟩); (case ev9 => (intro C9; refine' ⟨?a1, ?a2, ?a3⟩; (case a1 => k_extra "m evA"); (case a2 => k_extra "m evA"); (case a3 => k_extra "m evA"))); intro t1' t2' t3' tk')
      | ((with_reducible show wpAny _ _ (spliced (backTo _ (starEach (_ :: _ :: _ :: _ :: _) _))) _ _ _); refine' Ev.go4 ?ev9 ?s ?_; (case s => exact ⟨fun _ _ => rfl, fun _ _ => rfl, fun _ _ => rfl, fun _ _ => rfl⟩); (case ev9 => (intro C9; refine' ⟨?a1, ?a2, ?a3, ?a4⟩; (case a1 => k_extra "m evA"); (case a2 => k_extra "m evA"); (case a3 => k_extra "m evA"); (case a4 => k_extra "m evA"))); intro t1' t2' t3' t4' tk')); (try dsimp only [List.nil_append, List.cons_append])))
  k_with "CompRest" => ((k_dflt (first
      | ((refine' cr_turn ?cp9 ?_); (case cp9 => first | exact cp_range | exact cp_str (by exact rfl) | exact cp_ledL (by exact rfl) | exact cp_led (by exact rfl)); intro t' I' oI' C' oC' D' m' h' tk' E' hC' hx' F' N' off' ne' qk'; (try dsimp only at hx'))
      | refine LCg.CompRest.zero ?_)))
  k_with "CompSrc" => ((k_here; k_dflt ((first
      | (refine LCg.CompSrc.ledger (by rfl) (by k_asm) (by k_asm) (by k_mem) (by first | exact Nat.le_of_ble_eq_true rfl | size_fits) ?_; intro g'; lcg_lit)
      | (refine LCg.CompSrc.range (by rfl) (by k_asm) (by k_asm) (by assumption) (by first | decide | rfl) (by first | rfl | decide) (by first | exact Nat.le_of_ble_eq_true rfl | size_fits) ?_; intro g'; lcg_lit)); (try dsimp only); refine cr_fold ?_; intro Fin')))
  k_with "SrcS" => ((k_here; k_dflt ((refine SrcS.intro (by rfl) (by k_asm) (by k_asm) (by exact Nat.le_of_ble_eq_true rfl) ?_); intro g'; (try dsimp only); refine cr_fold ?_; intro Fin')))
  k_with "And" => (((with_reducible show Frag.In _ _ ∧ _); k_dflt (refine ⟨Frag.In.keeps (by with_reducible assumption) (Fr.keep (by k_asm)), ?_⟩); (try dsimp only [List.nil_append, List.cons_append])))
  trivial
theorem add_callers_spec (w : World) (at' as' : Addr) (ot os : Obj) (D1 D2 : List (Str × Int)) (ht : DictIs w at' ot D1) (hs : DictIs w as' os D2) (h3 : D1.length + D2.length ≤ 3) :
   Pure w 35 2 [.ref at', .ref as'] [(at', ot), (as', os)] (fun v tl => ∃ a o, v = .ref a ∧ tl = [(a, o)] ∧ DictIs w a o (mergeC D1 D2)) := by
  w_top off
  have hN := ht.nodup
  obtain ⟨lo1, ⟨kvt, ht1, hft⟩, hn1⟩ := ht
  obtain ⟨lo2, ⟨kvs, hs1, hfs⟩, hn2⟩ := hs
  intro loose mean mg mb dp un gd cn cs a ccd cl outer A₀ base h₀ L m news s Q E B F X N T hk hp hd hu k
  k_with "exec For Tuple Call" => (k_here; ((rename Fr _ _ _ _ => lF'); (rename News _ _ _ _ => lN'); with_unfolding_all ((refine' For_turns lF' ?_); k_whole; (refine MethodCall_ ?_); (refine ld lF' (by rfl) ?_); (refine getMethod_tab (knd := PySem.strKind _ _) (enc := PyData.str) PySem.F.slot_dict_items PySem.F.type_dict_items (by k_tabat) ?_); (refine callWith_method0 ?_); (refine call_items_tab (knd := PySem.strKind _ _) (enc := PyData.str) (by k_tabat) lF' lN' ?_); intro h' o' hv' F' N'; (replace N' := kti_tail N'); (refine kti_items (knd := PySem.strKind _ _) (enc := PyData.str) (by rfl) F' N' hv' (by k_tabat) (by k_mem) (fun _ _ h => Value.isStrOf_shape h) (pd_its _) ?_)); clear lF' lN'; intro i' l1; (try k_lt l1)))
  k_with "getItem ref str" => (k_here; k_dflt (refine kdp_getItem (by k_tabat) (has_of (by assumption)) ?_); intro _)
  k_dflt (k_extra "m plain")
  repeat' ((fail_if_success (with_reducible show wpAny _ _ (PySem.storeName _ (PySem.Str.ofString "new_callers") _) _ _ _)); k_extra "m go1")
  with_reducible rename Addr => d0
  rename OffD d0 _ => od0
  repeat' ((fail_if_success (with_reducible show ItemsRest _ _ _ _ _ _ _ _ _ _ _ _ _ _ _)); k_extra "m go1")
  with_reducible rename Addr => I1
  rename Obj.IsDictOf (PySem.strKind _ _) _ [] => hd0
  rename FlatPairs PyData.str [] [] => hf0
  rename OffD I1 _ => oI1
  refine' loopD (S := [PySem.Str.ofString "func", PySem.Str.ofString "caller"]) (DI w d0 [(at', ot), (as', os)] (fun C r => C ++ r = D1)) ?inv ?step ?base
  case inv => exact .mk (C := []) hd0 hf0 .nil (by rw [List.length_nil]; omega) rfl
  case base =>
    intro news u hi
    cases hi with
    | @mk o0 kvs0 C0 hd hf nd hl hg =>
    rw [List.append_nil] at hg
    subst hg
    k_extra "m go1"
    clear hd0 hf0 oI1
    repeat' ((fail_if_success (with_reducible show ItemsRest _ _ _ _ _ _ _ _ _ _ _ _ _ _ _)); k_extra "m go1")
    with_reducible rename Addr => I2
    rename OffD I2 _ => oI2
    refine' loopD (S := [PySem.Str.ofString "func", PySem.Str.ofString "caller"]) (DI w d0 [(at', ot), (as', os)] (fun C' r => mergeC C' r = mergeC C0 D2)) ?inv2 ?step2 ?base2
    case inv2 => exact .mk hd hf nd h3 rfl
    case base2 =>
      intro news u hi
      refine di_end hi (fun o3 e hd' nd' => ?_)
      clear hi
      subst e
      k_extra "m go"
      refine' hZ _ _ _ _ _ _ ⟨_, _, rfl, rfl, (by assumption), hd', nd'⟩ ?zF ?zN ?zs ?zs' ?zne; (case zF => k_asm); (case zN => k_asm); (case zs => k_extra "m sub"); (case zs' => k_extra "m sub"); (case zne => (intro q hq p hp; rw [List.mem_singleton] at hp; subst hp; exact Ne.symm (od0 q hq)))
    case step2 =>
      intro ⟨p1, p2⟩ r news u hi v h tk hv F1
      cases hi with
      | mk hd hf nd hl hg =>
      obtain ⟨T9, t9, x9, rfl, hx9, hT9⟩ := hv
      obtain ⟨u9, rfl⟩ := Flat.int_inv hx9
      refine AllObj.cons (fun o' hc' => ?_)
      refine AllObj.nil (fun N1 => ?_)
      dsimp only [List.cons_append, List.nil_append] at N1 F1 ⊢
      dsimp only at hT9
      k_fold
      repeat' ((fail_if_success (with_reducible show UnrEndW _ _ _ _ _ _)); k_extra "m go1")
      all_goals ((with_reducible rename Fr _ _ _ _ => F9); (with_reducible rename News _ _ _ _ => N9); (rename Obj.IsDictOf _ _ (stored _ _ _) => hd9); (rename FlatPairs PyData.str (stored _ _ _) _ => hf9); refine' d_end F9 N9 ?mI ?md ?mT ?nI ?oT ?sk ?ag9 ?di; (case mI => k_mem); (case md => k_mem); (case mT => k_extra "m tails"); (case nI => k_extra "m neq"); (case oT => exact fun p hp => oI2 p (.tail _ hp)); (case sk => exact ⟨by k_mem, trivial⟩); (case ag9 => exact agree2); (case di => first | exact di_has hd9 hf9 (by assumption) nd hl hg | exact di_no hd9 hf9 (by assumption) nd hl hg))
  case step =>
    intro ⟨p1, p2⟩ r news u hi v h tk hv F1
    cases hi with
    | mk hd hf nd hl hg =>
    obtain ⟨T9, t9, x9, rfl, hx9, hT9⟩ := hv
    obtain ⟨u9, rfl⟩ := Flat.int_inv hx9
    refine AllObj.cons (fun o' hc' => ?_)
    refine AllObj.nil (fun N1 => ?_)
    dsimp only [List.cons_append, List.nil_append] at N1 F1 ⊢
    dsimp only at hT9
    k_fold
    repeat' ((fail_if_success (with_reducible show UnrEndW _ _ _ _ _ _)); k_extra "m go1")
    all_goals ((with_reducible rename Fr _ _ _ _ => F9); (with_reducible rename News _ _ _ _ => N9); (rename Obj.IsDictOf _ _ (stored _ _ _) => hd9); (rename FlatPairs PyData.str (stored _ _ _) _ => hf9); refine' d_end F9 N9 ?mI ?md ?mT ?nI ?oT ?sk ?ag9 ?di; (case mI => k_mem); (case md => k_mem); (case mT => k_extra "m tails"); (case nI => k_extra "m neq"); (case oT => exact fun p hp => oI1 p (.tail _ hp)); (case sk => exact ⟨by k_mem, trivial⟩); (case ag9 => exact agree2); (case di => exact di_first hd9 hf9 hn1 hl hg))
theorem add_stats_spec (w : World) (at' as' dt ds : Addr) (ot os : Obj) (D1 D2 : List (Str × Int)) (a1 a2 a3 a4 b1 b2 b3 b4 : Int) (t1 t2 t3 t4 u1 u2 u3 u4 : Tok) (ht : DictIs w dt ot D1) (hs : DictIs w ds os D2) (hl : (D2.length = 1 ∧ D1.length ≤ 2) ∨ (D2 = [] ∧ 1 ≤ D1.length ∧ D1.length ≤ 3)) :
   Pure w 28 3 [.ref at', .ref as'] [(at', tupO [.int a1 t1, .int a2 t2, .int a3 t3, .int a4 t4, .ref dt]), (dt, ot), (as', tupO [.int b1 u1, .int b2 u2, .int b3 u3, .int b4 u4, .ref ds]), (ds, os)]
     (fun v tl => ∃ a c o x1 x2 x3 x4, v = .ref a ∧ tl = [(a, tupO [.int (b1 + a1) x1, .int (b2 + a2) x2, .int (b3 + a3) x3, .int (b4 + a4) x4, .ref c]), (c, o)] ∧ DictIs w c o (mergeC D1 D2)) := by
  w_top off
  have h3 : D1.length + D2.length ≤ 3 := by
    rcases hl with h | ⟨rfl, _, h⟩
    · omega
    · exact h
  clear hl
  intro loose mean mg mb dp un gd cn cs a ccd cl outer A₀ base h₀ L m news s Q E B F X N T hk hp hd hu k
  k_with "call ref" => (k_here; (with_reducible show wpAny _ _ (call (Value.ref 35) _) _ _ _); k_dflt (refine' Pure.use (add_callers_spec _ _ _ _ _ _ _ ?e1 ?e2 ?e3) (by k_asm) (by k_asm) (by k_asm) (by k_asm) (by k_asm) (by first | exact rfl | assumption) (by k_extra "m sub") (by ktr_room) (by ktr_units) ?_; (case e1 => exact ht); (case e2 => exact hs); (case e3 => exact h3)); intro v' tl' h' tk' F' N' ne' P'; obtain ⟨d', o', e1', e2', D'⟩ := P'; subst e1' e2'; (dsimp only [List.cons_append, List.nil_append] at N'); (try dsimp only); (try k_fold))
  k_dflt (k_extra "m plain")
  k_extra "m go"
  k_dflt (refine' hZ _ _ _ _ _ _ ⟨_, _, _, _, _, _, _, rfl, rfl, by assumption⟩ ?zF ?zN ?zs ?zs' ?zne; (case zF => k_asm); (case zN => k_asm); (case zs => k_extra "m sub"); (case zs' => k_extra "m sub"); (case zne => (repeat' (first | exact List.forall_mem_nil _ | refine List.forall_mem_cons.mpr ⟨?_, ?_⟩)); all_goals (dsimp only; k_extra "m neq")))
theorem count_calls_spec (w : World) (dt : Addr) (ot : Obj) (D : List (Str × Int)) (ht : DictIs w dt ot D) (h1 : 1 ≤ D.length) (h3 : D.length ≤ 3) :
   Pure w 42 2 [.ref dt] [(dt, ot)] (fun v tl => ∃ t, v = .int (D.map (·.2)).sum t ∧ tl = []) := by
  w_top off
  obtain ⟨lo1, ⟨kvt, ht1, hft⟩, hn1⟩ := ht
  intro loose mean mg mb dp un gd cn cs a ccd cl outer A₀ base h₀ L m news s Q E B F X N T hk hp hd hu k
  k_with "exec For Name Call cons nil" => (k_here; ((rename Fr _ _ _ _ => lF'); (rename News _ _ _ _ => lN'); with_unfolding_all ((refine' For_turns lF' ?_); k_whole; (refine MethodCall_ ?_); (refine ld lF' (by rfl) ?_); (refine getMethod_tab (knd := PySem.strKind _ _) (enc := PyData.str) PySem.F.slot_dict_values PySem.F.type_dict_values (by k_tabat) ?_); (refine callWith_method0 ?_); (refine call_values_tab (knd := PySem.strKind _ _) (enc := PyData.str) (by k_tabat) lF' lN' ?_); intro h' o' hv' F' N'; (replace N' := kti_tail N'); (refine kti_vals (knd := PySem.strKind _ _) (enc := PyData.str) (by rfl) F' N' hv' (by k_tabat) (by k_mem) (pd_vals _) ?_)); clear lF' lN'; intro i' l1; (try k_lt l1)))
  k_dflt (k_extra "m plain")
  repeat' ((fail_if_success (with_reducible show ItemsRest _ _ _ _ _ _ _ _ _ _ _ _ _ _ _)); k_extra "m go1")
  with_reducible rename Addr => I1
  rename OffD I1 _ => oI1
  k_dflt (refine' loopV_in (c := PySem.Str.ofString "calls") (n := PySem.Str.ofString "nc") (tot := (D.map (·.2)).sum) (by decide) rfl ?step ?base)
  case base =>
    intro t u
    clear oI1
    k_extra "m go"
    refine' hZ _ _ _ _ _ _ ⟨_, rfl, rfl⟩ ?zF ?zN ?zs ?zs' ?zne; (case zF => k_asm); (case zN => k_asm); (case zs => k_extra "m sub"); (case zs' => k_extra "m sub"); (case zne => exact fun _ _ _ h => nomatch h)
  case step =>
    intro x k t u t9 h tk F1
    refine AllObj.cons (fun o' hc' => ?_)
    refine AllObj.nil (fun N1 => ?_)
    dsimp only [List.cons_append, List.nil_append] at N1 F1 ⊢
    k_fold
    repeat' ((fail_if_success (with_reducible show UnrEndW _ _ _ _ _ _)); k_extra "m go1")
    with_reducible rename Fr _ _ _ _ => F9
    with_reducible rename News _ _ _ _ => N9
    k_dflt (refine' v_end (by decide) F9 N9 ?mI ?mT ?oT ?sk; (case mI => k_mem); (case mT => k_extra "m tails"); (case oT => exact oI1); (case sk => exact ⟨by k_mem, trivial⟩))
example : True := by
  k_with "m fb" => (first | assumption | exact fbD hn9 | exact fbC hn9 | exact fbE hn9 hk9 | exact fbA (by assumption) e5 | exact fbB (by assumption) e5 | exact fbF (by assumption) e5 | lia)
  k_with "m evF" => (first
      | exact Ev.fconst
      | ((with_reducible apply Ev.hue); (k_extra "m evF"))
      | ((with_reducible apply Ev.fhalf); (k_extra "m evF"))
      | ((with_reducible apply Ev.fdivF); (k_extra "m evF"); (k_extra "m evF"); (k_extra "m fb"); (k_extra "m fb"))
      | ((with_reducible apply Ev.fsubF); (k_extra "m evF"); (k_extra "m evF"); (k_extra "m fb"); (k_extra "m fb"))
      | ((with_reducible apply Ev.faddF); (k_extra "m evF"); (k_extra "m evF"); (k_extra "m fb"); (k_extra "m fb"))
      | ((with_reducible apply Ev.fsub); (k_extra "m evF"); (k_extra "m evF"))
      | ((with_reducible apply Ev.fadd); (k_extra "m evF"); (k_extra "m evF"))
      | ((with_reducible apply Ev.fwk); (k_extra "m evN")))
  k_with "binaryOp Div float float" => ((k_here; (with_reducible show wpAny _ _ (binaryOp _ (Value.float _ _) (Value.float (Float64.sub (Float64.sub 4611686018427387904 (F64 _)) (F64 _)) _)) _ _ _); refine' div_two hn9 hk9 ?_; intro x' y' tk'))
  k_with "JoinR" => (k_dflt (refine ⟨_, _, _, _, ?_, rfl, rfl, by k_asm, by k_asm⟩; first | trivial | skip))
  k_with "eval BinOp" => ((k_here; k_dflt ((refine' Ev.go ?ev9 ?_); (case ev9 => (intro C9; k_extra "m evF")); intro t' tk')))
  k_with "m evA" => ((k_extra "m evF"))
  k_with "call builtin:max" => ((k_here; (with_reducible show wpAny _ _ (call (Value.builtin "max") [Value.float (F64 _) _, Value.float (F64 _) _, Value.float (F64 _) _]) _ _ _); (refine' max3_F ?mh ?mF ?mN ha hb hc ?_; (case mh => exact rfl); (case mF => k_asm); (case mN => k_asm)); intro h' tk' x' F' N' n9 c1 c2 c3 c4 hn9))
  k_with "call builtin:min" => ((k_here; (with_reducible show wpAny _ _ (call (Value.builtin "min") [Value.float (F64 _) _, Value.float (F64 _) _, Value.float (F64 _) _]) _ _ _); (refine' min3_F ?mh ?mF ?mN ha hb hc ?_; (case mh => exact rfl); (case mF => k_asm); (case mN => k_asm)); intro h' tk' x' F' N' k9 e1 e2 e3 e4 hk9; (have e5 := Nat.le_trans e1 c1)))
  k_with "compareOp Eq float float" => ((k_here; (with_reducible show wpAny _ _ (compareOp _ (Value.float (F64 _) _) (Value.float (F64 _) _)) _ _ _); refine' eq_FF ?qa ?qb ?_; (case qa => assumption); (case qb => assumption)))
  k_with "execs cons" => ((k_here; (with_reducible show wpAny _ _ (execs (Stmt.If (Expr.Compare (Expr.Name (PySem.Str.ofString "r") _) _ _ _) _ _ _ :: _) _) _ _ _); k_dflt (refine join_r RH (PySem.Str.ofString "h") (g := g') (L := L') (m := m') (news := []) (gn := gn') (dr := dr') (os := os') ?_ ?_)))
  k_with "execs cons" => ((k_here; (with_reducible show wpAny _ _ (execs (Stmt.If (Expr.Compare (Expr.Name (PySem.Str.ofString "l") _) _ _ _) _ _ _ :: _) _) _ _ _); k_dflt (refine join_r (fun _ => True) (PySem.Str.ofString "s") (g := g') (L := L') (m := m') (news := []) (gn := gn') (dr := dr') (os := os') ?_ ?_)))
  trivial
theorem hsv_specB (w : World) (x y z : Nat) (t1 t2 t3 : Tok) (ha : x < 36) (hb : y < 36) (hc : z < 36) :
   PureB w 56 2 [.float (F64 x) t1, .float (F64 y) t2, .float (F64 z) t3] (fun _ => True) (fun v tl => ∃ d H S n u1 u2 u3, v = .ref d ∧ tl = [(d, tupO [.float H u1, .float S u2, .float (F64 n) u3])] ∧ (x ≤ n ∧ y ≤ n ∧ z ≤ n ∧ (n = x ∨ n = y ∨ n = z)) ∧ HueOK x y z H) := by
  w_top off
  refine' openB [("r", .float (F64 x) t1), ("g", .float (F64 y) t2), ("b", .float (F64 z) t3)] ?ho ?hcd ?hb ?hl ?c1 ?c2 ?c3 ?hcell ?_
  k_extra "m openP"
  let RH : UInt64 → Prop := fun h => HueOK x y z (hueOf h)
  k_extra "m go"
  all_goals try (intro S8 t8 h8 tk8 hR8 F8 N8; k_extra "m go")
  all_goals first
    | exact hue_r hn9 c1 c2 c3 e1 e2 e3 e4 (by assumption) (by assumption)
    | exact hue_g hn9 c1 c2 c3 e1 e2 e3 e4 (by assumption) (by assumption) (by assumption)
    | exact hue_b hn9 c1 c2 c3 c4 e1 e2 e3 e4 (by assumption) (by assumption) (by assumption)
    | (refine' hZ _ _ _ _ _ _ ⟨_, _, _, n9, _, _, _, rfl, rfl, ⟨c1, c2, c3, c4⟩, ?zp⟩ ?zF ?zN ?zs; (case zF => k_asm); (case zN => k_asm); (case zs => k_extra "m sub"); (case zp => first | assumption | exact hue_zero c1 c2 c3 e1 e2 e3 (by assumption)))
theorem hls_specB (w : World) (x y z : Nat) (t1 t2 t3 : Tok) (ha : x < 36) (hb : y < 36) (hc : z < 36) :
   PureB w 49 2 [.float (F64 x) t1, .float (F64 y) t2, .float (F64 z) t3] (fun _ => True) (fun v tl => ∃ d H S n k u1 u2 u3, v = .ref d ∧ tl = [(d, tupO [.float H u1, .float (L64 (n + k)) u2, .float S u3])] ∧ (x ≤ n ∧ y ≤ n ∧ z ≤ n ∧ (n = x ∨ n = y ∨ n = z)) ∧ (k ≤ x ∧ k ≤ y ∧ k ≤ z ∧ (k = x ∨ k = y ∨ k = z))) := by
  w_top off
  refine' openB [("r", .float (F64 x) t1), ("g", .float (F64 y) t2), ("b", .float (F64 z) t3)] ?ho ?hcd ?hb ?hl ?c1 ?c2 ?c3 ?hcell ?_
  k_extra "m openP"
  let RH : UInt64 → Prop := fun _ => True
  k_extra "m go"
  all_goals try (intro S8 t8 h8 tk8 hR8 F8 N8; k_extra "m go")
  all_goals try (intro S7 t7 h7 tk7 hR7 F7 N7; k_extra "m go")
  all_goals first
    | trivial
    | (refine' hZ _ _ _ _ _ _ ⟨_, _, _, n9, k9, _, _, _, rfl, rfl, ⟨c1, c2, c3, c4⟩, ⟨e1, e2, e3, e4⟩⟩ ?zF ?zN ?zs; (case zF => k_asm); (case zN => k_asm); (case zs => k_extra "m sub"))
example : True := by
  k_with "m evI" => (((with_reducible apply Ev.d64); (k_extra "m evI"); (exact hf _)))
  k_with "call ref" => ((k_here; (with_reducible show wpAny _ _ (call (Value.ref 56) _) _ _ _); k_dflt ((refine' useB (hsv_specB _ _ _ _ _ _ _ (nat36 (hf _)) (nat36 (hf _)) (nat36 (hf _))) ?hB ?hF ?hX ?hN ?hT ?hk ?hp ?hr ?hu ?hq ?_); (case hB => k_asm); (case hF => k_asm); (case hX => k_asm); (case hN => k_asm); (case hT => k_asm); (case hk => exact rfl); (case hp => trivial); (case hr => assumption); (case hu => assumption); (case hq => exact rfl)); intro v' tl' h' tk' F' N' ne' P'; refine byG (fun P9 hP9 => ?_); obtain ⟨d', H', S', n', u1', u2', u3', e1', e2', c4', c5'⟩ := P'; subst e1' e2'; refine hP9 ?_; clear hP9 P9 ne'; dsimp only [List.cons_append, List.nil_append] at N'))
  k_with "call ref" => ((k_here; (with_reducible show wpAny _ _ (call (Value.ref 49) _) _ _ _); k_dflt ((refine' useB (hls_specB _ _ _ _ _ _ _ (nat36 (hf _)) (nat36 (hf _)) (nat36 (hf _))) ?hB ?hF ?hX ?hN ?hT ?hk ?hp ?hr ?hu ?hq ?_); (case hB => k_asm); (case hF => k_asm); (case hX => k_asm); (case hN => k_asm); (case hT => k_asm); (case hk => exact rfl); (case hp => trivial); (case hr => assumption); (case hu => assumption); (case hq => exact rfl)); intro v' tl' h' tk' F' N' ne' P'; refine byG (fun P9 hP9 => ?_); obtain ⟨d', H', S', n', k', u1', u2', u3', e1', e2', c4', c5'⟩ := P'; subst e1' e2'; refine hP9 ?_; clear hP9 P9 ne'; dsimp only [List.cons_append, List.nil_append] at N'))
  k_with "call type:int" => ((k_here; (first
      | ((with_reducible show wpAny _ _ (call _ [Value.float (M64 _) _]) _ _ _); refine int_M (lt36 hf c4') ?_)
      | ((with_reducible show wpAny _ _ (call _ [Value.float (H64 _) _]) _ _ _); refine int_H (lt72 (lt36 hf c4') (lt36 hf c5')) ?_)); intro x' tk'))
  k_with "call builtin:sum" => ((k_here; (with_reducible show wpAny _ _ (call (Value.builtin "sum") [Value.ref _]) _ _ _); k_dflt (refine sum3_b (by exact rfl) (by k_asm) (by k_asm) hpre ?_); intro h' tk' t' F' N'))
  trivial
theorem value_specB (w : World) (l : Addr) (f : Int → Int) (hf : ∀ c, 0 ≤ f c ∧ f c < 36) :
   PureB w 173 3 [.ref l] (fun h => RowAt h l f) (fun v tl => ∃ t, v = .int (mx3 (f 0) (f 1) (f 2)) t ∧ tl = []) := by
  w_top off
  refine' openB [("levels", .ref l)] ?ho ?hcd ?hb ?hl ?c1 ?c2 ?c3 ?hcell ?_
  k_extra "m openP"
  k_extra "m go"
  refine' hZ _ _ _ _ _ _ ⟨_, congrArg (Value.int · _) (mx3_nat (hf _) (hf _) (hf _) c4'), rfl⟩ ?zF ?zN ?zs
  case zF => k_asm
  case zN => k_asm
  case zs => exact List.forall_mem_nil _
theorem value_spec (w : World) (l : Addr) (x y z : Int) (t1 t2 t3 : Tok) (n : Nat) (hx : 0 ≤ x ∧ x < 36) (hy : 0 ≤ y ∧ y < 36) (hz : 0 ≤ z ∧ z < 36) :
   Pure w 173 3 [.ref l] [(l, listOf #[.int x t1, .int y t2, .int z t3] n)] (fun v tl => ∃ t, v = .int (mx3 x y z) t ∧ tl = []) :=
  Pure.ofB (value_specB w l (pick3 x y z) (p3_bd hx hy hz)) fun h H => row_pick H
theorem middle_specB (w : World) (l : Addr) (f : Int → Int) (hf : ∀ c, 0 ≤ f c ∧ f c < 36) :
   PureB w 180 3 [.ref l] (fun h => RowAt h l f) (fun v tl => ∃ t, v = .int (f 0 + f 1 + f 2 - mx3 (f 0) (f 1) (f 2) - mn3 (f 0) (f 1) (f 2)) t ∧ tl = []) := by
  w_top off
  refine' openB [("levels", .ref l)] ?ho ?hcd ?hb ?hl ?c1 ?c2 ?c3 ?hcell ?_
  k_extra "m openP"
  k_extra "m go"
  refine' hZ _ _ _ _ _ _ ⟨_, congrArg (Value.int · _) (mid_nat (mx3_nat (hf _) (hf _) (hf _) c4') (mn3_nat (hf _) (hf _) (hf _) c5')), rfl⟩ ?zF ?zN ?zs
  case zF => k_asm
  case zN => k_asm
  case zs => exact List.forall_mem_nil _
theorem middle_spec (w : World) (l : Addr) (x y z : Int) (t1 t2 t3 : Tok) (n : Nat) (hx : 0 ≤ x ∧ x < 36) (hy : 0 ≤ y ∧ y < 36) (hz : 0 ≤ z ∧ z < 36) :
   Pure w 180 3 [.ref l] [(l, listOf #[.int x t1, .int y t2, .int z t3] n)] (fun v tl => ∃ t, v = .int (x + y + z - mx3 x y z - mn3 x y z) t ∧ tl = []) :=
  Pure.ofB (middle_specB w l (pick3 x y z) (p3_bd hx hy hz)) fun h H => row_pick H
theorem tag_specB (w : World) (l : Addr) (f : Int → Int) (hf : ∀ c, 0 ≤ f c ∧ f c < 36) :
   PureB w 187 3 [.ref l] (fun h => RowAt h l f) (fun v tl => ∃ c t, v = .int c t ∧ tl = [] ∧ TagP f c) := by
  w_top off
  refine' openB [("levels", .ref l)] ?ho ?hcd ?hb ?hl ?c1 ?c2 ?c3 ?hcell ?_
  k_extra "m openP"
  k_extra "m go"
  all_goals (refine' hZ _ _ _ _ _ _ ⟨_, _, rfl, rfl, ?zp⟩ ?zF ?zN ?zs; (case zF => k_asm); (case zN => k_asm); (case zs => exact List.forall_mem_nil _); (case zp => first
    | exact tagP0 hf c5' (tagF0 (by assumption))
    | exact tagP0 hf c5' (tagF0' (by assumption))
    | exact tagP1 hf c5' (tagF1 (by assumption) (by assumption) (by assumption))
    | exact tagP2 hf c5' (tagF2 (by assumption) (by assumption) (by assumption))))
theorem tag_spec (w : World) (l : Addr) (x y z : Int) (t1 t2 t3 : Tok) (n : Nat) (hx : 0 ≤ x ∧ x < 36) (hy : 0 ≤ y ∧ y < 36) (hz : 0 ≤ z ∧ z < 36) :
   Pure w 187 3 [.ref l] [(l, listOf #[.int x t1, .int y t2, .int z t3] n)] (fun v tl => ∃ c t, v = .int c t ∧ tl = [] ∧ ((c = 0 ∧ y ≤ x ∧ z ≤ x) ∨ (c = 1 ∧ x ≤ y ∧ z ≤ y) ∨ (c = 2 ∧ x ≤ z ∧ y ≤ z))) :=
  Pure.ofB (tag_specB w l (pick3 x y z) (p3_bd hx hy hz)) fun h H => row_pick H
end Mine
end
section
open PySem PySem.W PyProof.Rows PySem.Spec PySem.Calls PyProof.V
namespace Mine
section
variable {w : World} {loose : List Str} {mean : ExcName → Option Value} {mg mb : Str → Option Value} {dp un r : Nat} {gd : Option (List Code)} {cn : Str} {cs : Scope} {a : Addr} {ccd : Value} {cl : List (Str × Addr)} {outer : List Env} {A₀ : Around} {base h₀ h : Heap} {L : Addr} {m : Str → Option Value} {news : List (Addr × Obj)} {Q E : Value → Shared → Prop} {gn : Array GenState} {dr : Drawn} {tk : Nat} {os : OsState}
theorem add_stats_use {at' as' dt ds : Addr} {ot os' : Obj} {D1 D2 : List (Str × Int)} {a1 a2 a3 a4 b1 b2 b3 b4 : Int} {t1 t2 t3 t4 u1 u2 u3 u4 : Tok}
    (B : Below A₀ base outer h₀) (F : Fr h₀ L h m) (X : (hd.heap_1 w.params).In h₀) (N : News h₀ L h news) (T : Top vw loose mean mg mb h₀) (hk : cs.kind = .function) (hd' : dp + r < recursionLimit) (hu : un + 8 * r < cLine) (hr : Nat.ble 3 r = true)
    (m1 : (at', tupO [.int a1 t1, .int a2 t2, .int a3 t3, .int a4 t4, .ref dt]) ∈ news) (m2 : (dt, ot) ∈ news) (m3 : (as', tupO [.int b1 u1, .int b2 u2, .int b3 u3, .int b4 u4, .ref ds]) ∈ news) (m4 : (ds, os') ∈ news)
    (ht : DictIs w dt ot D1) (hs : DictIs w ds os' D2) (hl : (D2.length = 1 ∧ D1.length ≤ 2) ∨ (D2 = [] ∧ 1 ≤ D1.length ∧ D1.length ≤ 3))
    (k : ∀ a c o x1 x2 x3 x4 h' tk', Fr h₀ L h' m → News h₀ L h' ((a, tupO [.int (b1 + a1) x1, .int (b2 + a2) x2, .int (b3 + a3) x3, .int (b4 + a4) x4, .ref c]) :: (c, o) :: news) →
      OffD a news → OffD c news → DictIs w c o (mergeC D1 D2) → Q (.ref a) (Shared.mk h' gn dr tk' os)) :
    wpAny (model prg w) (ktrTop dp un gd cn cs L a ccd cl outer) (call (.ref 28) [.ref at', .ref as']) Q E (Shared.mk h gn dr tk os) :=
  Pure.use (add_stats_spec w at' as' dt ds ot os' D1 D2 a1 a2 a3 a4 b1 b2 b3 b4 t1 t2 t3 t4 u1 u2 u3 u4 ht hs hl) B F X N T hk (List.forall_mem_cons.mpr ⟨m1, List.forall_mem_cons.mpr ⟨m2, List.forall_mem_cons.mpr ⟨m3, List.forall_mem_cons.mpr ⟨m4, List.forall_mem_nil _⟩⟩⟩⟩) (room_le hd' hr) (units_le hu hr)
    fun v tl h' tk' F' N' ne P => by
      refine byG (fun P9 hP9 => ?_)
      obtain ⟨a', c, o, x1, x2, x3, x4, rfl, rfl, D⟩ := P
      refine hP9 ?_
      clear hP9 P9
      exact k a' c o x1 x2 x3 x4 h' tk' F' N' (fun q hq => Ne.symm (ne q hq _ (.head _))) (fun q hq => Ne.symm (ne q hq _ (.tail _ (.head _)))) D
theorem tag_use {l : Addr} {x y z : Int} {t1 t2 t3 : Tok} {n : Nat}
    (B : Below A₀ base outer h₀) (F : Fr h₀ L h m) (X : (hd.heap_1 w.params).In h₀) (N : News h₀ L h news) (T : Top vw loose mean mg mb h₀) (hk : cs.kind = .function) (hd' : dp + r < recursionLimit) (hu : un + 8 * r < cLine) (hr : Nat.ble 3 r = true)
    (m1 : (l, listOf #[.int x t1, .int y t2, .int z t3] n) ∈ news) (hx : 0 ≤ x ∧ x < 36) (hy : 0 ≤ y ∧ y < 36) (hz : 0 ≤ z ∧ z < 36)
    (k : ∀ c t h' tk', Fr h₀ L h' m → News h₀ L h' news → ((c = 0 ∧ y ≤ x ∧ z ≤ x) ∨ (c = 1 ∧ x ≤ y ∧ z ≤ y) ∨ (c = 2 ∧ x ≤ z ∧ y ≤ z)) → Q (.int c t) (Shared.mk h' gn dr tk' os)) :
    wpAny (model prg w) (ktrTop dp un gd cn cs L a ccd cl outer) (call (.ref 187) [.ref l]) Q E (Shared.mk h gn dr tk os) :=
  Pure.use (tag_spec w l x y z t1 t2 t3 n hx hy hz) B F X N T hk (List.forall_mem_cons.mpr ⟨m1, List.forall_mem_nil _⟩) (room_le hd' hr) (units_le hu hr)
    fun v tl h' tk' F' N' ne P => by
      obtain ⟨c, t, rfl, rfl, P⟩ := P
      exact k c t h' tk' F' N' P
theorem value_use {l : Addr} {x y z : Int} {t1 t2 t3 : Tok} {n : Nat}
    (B : Below A₀ base outer h₀) (F : Fr h₀ L h m) (X : (hd.heap_1 w.params).In h₀) (N : News h₀ L h news) (T : Top vw loose mean mg mb h₀) (hk : cs.kind = .function) (hd' : dp + r < recursionLimit) (hu : un + 8 * r < cLine) (hr : Nat.ble 3 r = true)
    (m1 : (l, listOf #[.int x t1, .int y t2, .int z t3] n) ∈ news) (hx : 0 ≤ x ∧ x < 36) (hy : 0 ≤ y ∧ y < 36) (hz : 0 ≤ z ∧ z < 36)
    (k : ∀ t h' tk', Fr h₀ L h' m → News h₀ L h' news → Q (.int (mx3 x y z) t) (Shared.mk h' gn dr tk' os)) :
    wpAny (model prg w) (ktrTop dp un gd cn cs L a ccd cl outer) (call (.ref 173) [.ref l]) Q E (Shared.mk h gn dr tk os) :=
  Pure.use (value_spec w l x y z t1 t2 t3 n hx hy hz) B F X N T hk (List.forall_mem_cons.mpr ⟨m1, List.forall_mem_nil _⟩) (room_le hd' hr) (units_le hu hr)
    fun v tl h' tk' F' N' ne P => by
      obtain ⟨t, rfl, rfl⟩ := P
      exact k t h' tk' F' N'
end
end Mine
namespace Mine
section
variable {prog : Program} {w : World} {A : Around} {E : Value → Shared → Prop} {h h₀ : Heap} {L D : Addr} {m : Str → Option Value} {news news' : List (Addr × Obj)} {Q : Value → Shared → Prop} {gn : Array GenState} {dr : Drawn} {tk : Nat} {os : OsState}
theorem append_L {l : List Value} {n : Nat} {x : Value} (F : Fr h₀ L h m) (N : News h₀ L h news) (U : Upd D (listOf l.toArray n) (listOf (l ++ [x]).toArray (n + 1)) news news') (hsz : l.length ≤ sizeLine)
    (k : ∀ h', Fr h₀ L h' m → News h₀ L h' news' → Q .none (Shared.mk h' gn dr tk os)) : wpAny (model prog w) A (call (.builtin "list.append") [.ref D, x]) Q E (Shared.mk h gn dr tk os) := by
  have U' : Upd D (listOf l.toArray n) (listOf (l.toArray.push x) (n + 1)) news news' := by rw [List.push_toArray]; exact U
  exact append_K (s := Shared.mk h gn dr tk os) F N U' (fun h' F' N' => k h' F' N') (by simpa using hsz)
end
end Mine
end
section
open PySem PySem.W PyProof.Rows PySem.Spec PySem.Calls PyProof.V
namespace Mine
section
variable {w : World} {loose : List Str} {mean : ExcName → Option Value} {mg mb : Str → Option Value} {dp un r : Nat} {gd : Option (List Code)} {cn : Str} {cs : Scope} {a : Addr} {ccd : Value} {cl : List (Str × Addr)} {outer : List Env} {A₀ : Around} {base h₀ h : Heap} {L : Addr} {m : Str → Option Value} {news : List (Addr × Obj)} {Q E : Value → Shared → Prop} {gn : Array GenState} {dr : Drawn} {tk : Nat} {os : OsState}
theorem middle_use {l : Addr} {x y z : Int} {t1 t2 t3 : Tok} {n : Nat}
    (B : Below A₀ base outer h₀) (F : Fr h₀ L h m) (X : (hd.heap_1 w.params).In h₀) (N : News h₀ L h news) (T : Top vw loose mean mg mb h₀) (hk : cs.kind = .function) (hd' : dp + r < recursionLimit) (hu : un + 8 * r < cLine) (hr : Nat.ble 3 r = true)
    (m1 : (l, listOf #[.int x t1, .int y t2, .int z t3] n) ∈ news) (hx : 0 ≤ x ∧ x < 36) (hy : 0 ≤ y ∧ y < 36) (hz : 0 ≤ z ∧ z < 36)
    (k : ∀ t h' tk', Fr h₀ L h' m → News h₀ L h' news → Q (.int (med x y z) t) (Shared.mk h' gn dr tk' os)) :
    wpAny (model prg w) (ktrTop dp un gd cn cs L a ccd cl outer) (call (.ref 180) [.ref l]) Q E (Shared.mk h gn dr tk os) :=
  Pure.use (middle_spec w l x y z t1 t2 t3 n hx hy hz) B F X N T hk (List.forall_mem_cons.mpr ⟨m1, List.forall_mem_nil _⟩) (room_le hd' hr) (units_le hu hr)
    fun v tl h' tk' F' N' ne P => by
      obtain ⟨t, rfl, rfl⟩ := P
      exact k t h' tk' F' N'
end
end Mine
end
section
namespace Mine
example : True := by k_with_none; trivial
example : True := by
  k_with "spliced" => ((k_dflt (first | refine args_cons ?_ | refine args_nil ⟨Fr.keep (by assumption) _ _ (by assumption), ?_⟩ | (refine args_nil ?_; try simp only [List.cons_append, List.nil_append]))))
  k_with "exec Assign" => (((with_reducible show wpAny _ _ (exec (Stmt.Assign [Expr.Name _ _] _ _) _) _ _ _); k_dflt (refine wpAny_Assign_Name ?_)))
  k_with "eval Call" => (((with_reducible show wpAny _ _ (eval (Expr.Call (Expr.Name _ _) _ [] _) _) _ _ _); k_dflt (refine Call_ ?_)))
  k_with "eval Call Attribute" => (((with_reducible show wpAny _ _ (eval (Expr.Call (Expr.Attribute _ _ _) _ [] _) _) _ _ _); k_dflt (refine MethodCall_ ?_)))
  k_with "callWith" => (((with_reducible show wpAny _ _ (callWith _ (Value.builtin _) [] (backTo _ (starEach (_ :: _) _)) []) _ _ _); k_dflt (refine callWith_builtin1 ?_)))
  k_with "callWith" => (((with_reducible show wpAny _ _ (callWith _ (Value.builtin _) (_ :: _) (backTo _ (starEach (_ :: _) _)) []) _ _ _); k_dflt (refine callWith_method1 ?_)))
  k_with "exec For Name Call cons nil" => ((k_here; (with_reducible rename Fr _ _ _ _ => lF'); (with_unfolding_all refine' For_invVF lF' ?k1 ?k2 ?_; (case k1 => exact rfl); (case k2 => exact rfl); k_whole); l_hasStore))
  k_with "pyIter ref" => (((with_reducible show wpAny _ _ (pyIter (Value.ref _)) (fun it s₂ => LoopAtV _ _ _ _ _ _ _ _ _ it s₂) _ _); l_hasStore; k_dflt k_rangeUnr))
  trivial
local macro_rules | `(tactic| k_ne) => `(tactic| k_extra "m nescan")
example : True := by
  k_with "m plain" => ((refine' pin_call ?B ?F ?X ?N ?T ?hA ?hf ?hke ?ho ?hcd ?hroom ?hbind ?hloc ?hp ?k ?_ ?hco ?hgen ?hk ?hcell; (case hA => exact rfl); (case hf => exact rfl); (case hke => assumption); (case B => k_asm); (case F => k_asm); (case X => k_asm); (case N => k_asm); (case T => k_asm); (case ho => k_is); (case hcd => k_is); (case hroom => ktr_room); (case hbind => exact BindsTo.of_eq rfl); (case hcell => decide); (case hloc => exact locs rfl); (case hp => assumption); (case k => assumption); (case hco => exact rfl); (case hgen => exact rfl); (case hk => exact rfl); k_whole; intro g' L' h' FG' F' N' B' X' T' l1; (try k_lt l1); (try dsimp only); (try k_fold)))
  k_with "m sub" => (((fail_if_success k_extra "inA"); first | exact List.forall_mem_nil _ | (refine' List.forall_mem_cons.mpr ⟨?a, ?b⟩; (case a => k_mem); (case b => k_extra "m sub"))))
  k_with "m ne1" => (first | exact List.forall_mem_nil _ | (refine' List.forall_mem_cons.mpr ⟨?a, ?b⟩; (case a => k_ne); (case b => k_extra "m ne1")))
  k_with "m ne" => (first | exact List.forall_mem_nil _ | (refine' List.forall_mem_cons.mpr ⟨?a, ?b⟩; (case a => k_extra "m ne1"); (case b => k_extra "m ne")))
  k_with "subscriptTail Name Constant ref int" => ((k_here; (with_unfolding_all refine' item_here ?k1 ?k2 ?k3 ?k4 ?_ ?k6; (case k1 => k_asm); (case k2 => k_mem); (case k3 => with_unfolding_all decide); (case k4 => with_unfolding_all rfl); (case k6 => with_unfolding_all rfl); k_whole)))
  k_with "subscriptTail Name Name ref int" => ((k_here; (with_unfolding_all refine' item_here ?k1 ?k2 ?k3 ?k4 ?_ ?k6; (case k1 => k_asm); (case k2 => k_mem); (case k3 => with_unfolding_all decide); (case k4 => with_unfolding_all rfl); (case k6 => with_unfolding_all rfl); k_whole)))
  k_with "subscriptTail Name BinOp ref int" => ((k_here; (with_unfolding_all refine' item_here ?k1 ?k2 ?k3 ?k4 ?_ ?k6; (case k1 => k_asm); (case k2 => k_mem); (case k3 => with_unfolding_all decide); (case k4 => with_unfolding_all rfl); (case k6 => with_unfolding_all rfl); k_whole)))
  k_with "subscriptTail Name Subscript ref int" => ((k_here; (with_unfolding_all refine' item_here ?k1 ?k2 ?k3 ?k4 ?_ ?k6; (case k1 => k_asm); (case k2 => k_mem); (case k3 => with_unfolding_all decide); (case k4 => with_unfolding_all rfl); (case k6 => with_unfolding_all rfl); k_whole)))
  k_with "subscriptTail Name UnaryOp ref int" => ((k_here; (with_unfolding_all refine' item_here ?k1 ?k2 ?k3 ?k4 ?_ ?k6; (case k1 => k_asm); (case k2 => k_mem); (case k3 => with_unfolding_all decide); (case k4 => with_unfolding_all rfl); (case k6 => with_unfolding_all rfl); k_whole)))
  k_with "subscriptTail Subscript Constant ref int" => ((k_here; (with_unfolding_all refine' item_here ?k1 ?k2 ?k3 ?k4 ?_ ?k6; (case k1 => k_asm); (case k2 => k_mem); (case k3 => with_unfolding_all decide); (case k4 => with_unfolding_all rfl); (case k6 => with_unfolding_all rfl); k_whole)))
  k_with "subscriptTail Subscript Name ref int" => ((k_here; (with_unfolding_all refine' item_here ?k1 ?k2 ?k3 ?k4 ?_ ?k6; (case k1 => k_asm); (case k2 => k_mem); (case k3 => with_unfolding_all decide); (case k4 => with_unfolding_all rfl); (case k6 => with_unfolding_all rfl); k_whole)))
  k_with "subscriptTail Subscript BinOp ref int" => ((k_here; (with_unfolding_all refine' item_here ?k1 ?k2 ?k3 ?k4 ?_ ?k6; (case k1 => k_asm); (case k2 => k_mem); (case k3 => with_unfolding_all decide); (case k4 => with_unfolding_all rfl); (case k6 => with_unfolding_all rfl); k_whole)))
  k_with "subscriptTail Subscript Subscript ref int" => ((k_here; (with_unfolding_all refine' item_here ?k1 ?k2 ?k3 ?k4 ?_ ?k6; (case k1 => k_asm); (case k2 => k_mem); (case k3 => with_unfolding_all decide); (case k4 => with_unfolding_all rfl); (case k6 => with_unfolding_all rfl); k_whole)))
  k_with "subscriptTail Subscript UnaryOp ref int" => ((k_here; (with_unfolding_all refine' item_here ?k1 ?k2 ?k3 ?k4 ?_ ?k6; (case k1 => k_asm); (case k2 => k_mem); (case k3 => with_unfolding_all decide); (case k4 => with_unfolding_all rfl); (case k6 => with_unfolding_all rfl); k_whole)))
  k_with "subscriptTail List Constant ref int" => ((k_here; (with_unfolding_all refine' item_here ?k1 ?k2 ?k3 ?k4 ?_ ?k6; (case k1 => k_asm); (case k2 => k_mem); (case k3 => with_unfolding_all decide); (case k4 => with_unfolding_all rfl); (case k6 => with_unfolding_all rfl); k_whole)))
  k_with "subscriptTail List Name ref int" => ((k_here; (with_unfolding_all refine' item_here ?k1 ?k2 ?k3 ?k4 ?_ ?k6; (case k1 => k_asm); (case k2 => k_mem); (case k3 => with_unfolding_all decide); (case k4 => with_unfolding_all rfl); (case k6 => with_unfolding_all rfl); k_whole)))
  k_with "subscriptTail List BinOp ref int" => ((k_here; (with_unfolding_all refine' item_here ?k1 ?k2 ?k3 ?k4 ?_ ?k6; (case k1 => k_asm); (case k2 => k_mem); (case k3 => with_unfolding_all decide); (case k4 => with_unfolding_all rfl); (case k6 => with_unfolding_all rfl); k_whole)))
  k_with "subscriptTail List Subscript ref int" => ((k_here; (with_unfolding_all refine' item_here ?k1 ?k2 ?k3 ?k4 ?_ ?k6; (case k1 => k_asm); (case k2 => k_mem); (case k3 => with_unfolding_all decide); (case k4 => with_unfolding_all rfl); (case k6 => with_unfolding_all rfl); k_whole)))
  k_with "subscriptTail List UnaryOp ref int" => ((k_here; (with_unfolding_all refine' item_here ?k1 ?k2 ?k3 ?k4 ?_ ?k6; (case k1 => k_asm); (case k2 => k_mem); (case k3 => with_unfolding_all decide); (case k4 => with_unfolding_all rfl); (case k6 => with_unfolding_all rfl); k_whole)))
  k_with "m nescan" => (((with_reducible rename NeAll _ _ => q9); first | exact NeAll.ne2 q9 (by k_mem) (by k_mem) | exact Ne.symm (NeAll.ne2 q9 (by k_mem) (by k_mem)) | (clear q9; k_extra "m nescan")))
  k_with "m cells" => ((refine' pin_callC ?B ?F ?X ?N ?T ?hA ?hf ?hke ?ho ?hcd ?hroom ?hbind ?hkind ?hnd ?hp ?k ?_ ?hco ?hgen ?hk; (case hA => exact rfl); (case hf => exact rfl); (case hke => assumption); (case B => k_asm); (case F => k_asm); (case X => k_asm); (case N => k_asm); (case T => k_asm); (case ho => k_is); (case hcd => k_is); (case hroom => ktr_room); (case hbind => exact BindsTo.of_eq rfl); (case hkind => exact rfl); (case hnd => decide +kernel); (case hp => assumption); (case k => assumption); (case hco => exact rfl); (case hgen => exact rfl); (case hk => exact rfl); k_whole; intro g' L' h' tk' cells' FG' F' N' Y' B' X' T' l1; (try k_lt l1); k_cells Y'; (try dsimp only [List.cons_append, List.nil_append] at N'); (try dsimp only); (try k_lift B'); (try k_fold)))
  trivial
example : True := by
  k_with "call ref" => ((k_here; (with_reducible show wpAny _ _ (call (Value.ref 161) _) _ _ _); k_dflt (refine' Pure.use (iseof_spec _ _ _) (by k_asm) (by k_asm) (by k_asm) (by k_asm) (by k_asm) (by first | exact rfl | assumption) (by k_extra "m sub") (by ktr_room) (by ktr_units) ?_); intro v' tl' h' tk' F' N' ne' P'; refine byG (fun P9 hP9 => ?_); obtain ⟨e1', e2'⟩ := P'; subst e1' e2'; refine hP9 ?_; clear hP9 P9; clear ne'; (dsimp only [List.nil_append] at N'); (try dsimp only); (try k_fold)))
  k_with "call ref" => ((k_here; (with_reducible show wpAny _ _ (call (Value.ref 154) _) _ _ _); k_dflt (refine' Pure.use (isnont_spec _ _ _) (by k_asm) (by k_asm) (by k_asm) (by k_asm) (by k_asm) (by first | exact rfl | assumption) (by k_extra "m sub") (by ktr_room) (by ktr_units) ?_); intro v' tl' h' tk' F' N' ne' P'; refine byG (fun P9 hP9 => ?_); obtain ⟨e1', e2'⟩ := P'; subst e1' e2'; refine hP9 ?_; clear hP9 P9; clear ne'; (dsimp only [List.nil_append] at N'); (try dsimp only); (try k_fold)))
  k_with "call ref" => ((k_here; (with_reducible show wpAny _ _ (call (Value.ref 147) _) _ _ _); k_dflt (refine' Pure.use (ist_spec _ _ _) (by k_asm) (by k_asm) (by k_asm) (by k_asm) (by k_asm) (by first | exact rfl | assumption) (by k_extra "m sub") (by ktr_room) (by ktr_units) ?_); intro v' tl' h' tk' F' N' ne' P'; refine byG (fun P9 hP9 => ?_); obtain ⟨e1', e2'⟩ := P'; subst e1' e2'; refine hP9 ?_; clear hP9 P9; clear ne'; (dsimp only [List.nil_append] at N'); (try dsimp only); (try k_fold)))
  trivial
local macro_rules | `(tactic| k_inst) => `(tactic| (refine' inst_acc ?N ?h1 ?h2; (case N => k_asm); (case h1 => k_mem); (case h2 => k_mem)))
local macro_rules | `(tactic| k_room) => `(tactic| ktr_room)
example : True := by
  k_with "call ref" => ((k_here; (with_reducible show wpAny _ _ (call (Value.ref 136) _) _ _ _); k_dflt (refine' call_L ?k1 ?k2 ?k3 ?k4 ?k5 ?k6 ?_; (case k1 => k_asm); (case k2 => k_asm); (case k3 => k_asm); (case k4 => exact acc_makes _); (case k5 => k_is); (case k6 => kernel_rfl); intro x' d' h' F' N' l1 l2; (try k_lt l1); (try k_lt2 l2)); (k_dflt (refine' ks_code_super ?k1 ?k2 ?k3 ?k4 ?k5 ?kA ?kF ?kK ?k6 ?k7 ?k8 ?k9 ?kB ?_ ?c1 ?c2 ?c3 ?c4; (case kA => exact rfl); (case kF => exact rfl); (case kK => first | exact rfl | assumption); (case k1 => k_asm); (case k2 => k_asm); (case k3 => k_asm); (case k4 => k_asm); (case k5 => k_asm); (case k6 => k_is); (case k7 => k_is); (case k8 => ktr_room); (case k9 => first | exact BindsTo.of_eq rfl | exact binds_K (by k_in) rfl (by k_is) rfl rfl rfl); (case kB => exact locs rfl); (case c1 => decide); (case c2 => exact rfl); (case c3 => exact rfl); (case c4 => exact rfl)); intro g' L' h' FG' F' N' B' X' T' l1; (try k_lt l1); (try dsimp only); (try k_lift B'))))
  k_with "setAttr ref" => ((k_here; k_dflt (refine' set_dict_L ?k1 ?k2 ?k3 ?k4 ?k5 ?k6 ?k7 ?k8 ?k9 ?k10 ?k11 ?k12 ?k13 ?_; (case k1 => k_asm); (case k2 => k_asm); (case k3 => k_asm); (case k4 => k_inst); (case k5 => exact rfl); (case k6 => k_is); (case k7 => exact acc_over _); (case k8 => k_is); (case k9 => k_is); (case k10 => k_get); (case k11 => k_put); (case k12 => k_upd); (case k13 => exact Nat.le_of_ble_eq_true rfl); k_whole; intro h' F' N'; (try k_sweep); (try dsimp only))))
  k_with "getMethod ref" => ((k_here; k_dflt (first
      | (refine' super_methodB (fun _ => bound_init) ?k1 ?k2 ?k3 ?k4 ?k5 ?k6 ?k7 ?k8 ?k9 ?_; (case k1 => k_asm); (case k2 => k_asm); (case k3 => k_asm); (case k4 => k_mem); (case k5 => k_inst); (case k6 => k_is); (case k7 => ks_is); (case k8 => kernel_rfl); (case k9 => decide); intro q' h' F' N' l1; (try k_lt l1))
      | (refine' super_methodB (fun _ => bound_len) ?k1 ?k2 ?k3 ?k4 ?k5 ?k6 ?k7 ?k8 ?k9 ?_; (case k1 => k_asm); (case k2 => k_asm); (case k3 => k_asm); (case k4 => k_mem); (case k5 => k_inst); (case k6 => k_is); (case k7 => ks_is); (case k8 => kernel_rfl); (case k9 => decide); intro q' h' F' N' l1; (try k_lt l1))
      | (refine' super_methodB (fun _ => bound_pop) ?k1 ?k2 ?k3 ?k4 ?k5 ?k6 ?k7 ?k8 ?k9 ?_; (case k1 => k_asm); (case k2 => k_asm); (case k3 => k_asm); (case k4 => k_mem); (case k5 => k_inst); (case k6 => k_is); (case k7 => ks_is); (case k8 => kernel_rfl); (case k9 => decide); intro q' h' F' N' l1; (try k_lt l1))
      | (refine' method_LF ?k1 ?k2 ?k3 ?k4 ?k5 ?k6 ?k7 ?_; (case k1 => k_asm); (case k2 => k_asm); (case k3 => k_inst); (case k4 => exact acc_plain _); (case k5 => k_is); (case k6 => k_is); (case k7 => k_get); k_whole)
      | (refine' method_B ?k1 ?k2 ?k3 ?k4 ?k5 ?k6 ?k7 ?_; (case k1 => k_asm); (case k2 => k_asm); (case k3 => k_inst); (case k4 => exact acc_plain _); (case k5 => k_is); (case k6 => exact PySem.F.type_list_append); (case k7 => k_get); k_whole))))
  k_with "callWith ref" => ((k_here; k_dflt (refine' callWith_B0 ?k1 ?k2 ?k3 ?k4 ?_; (case k1 => k_asm); (case k2 => k_mem); (case k3 => decide); (case k4 => decide); k_whole; try dsimp only [List.nil_append, List.cons_append])))
  k_with "call ref" => ((k_here; (with_reducible show wpAny _ _ (call (Value.ref _) []) _ _ _); k_dflt (first
      | (refine' init_B ?k1 ?k2 ?k3 ?k4 ?_; (case k1 => k_asm); (case k2 => k_asm); (case k3 => k_mem); (case k4 => k_upd); intro h' F' N'; (try k_sweep))
      | (refine' len_B ?k1 ?k2 ?k3 ?k4 ?_; (case k1 => k_asm); (case k2 => k_asm); (case k3 => k_mem); (case k4 => k_mem); k_whole)
      | (refine' pop_B ?k1 ?k2 ?k3 ?k4 ?k5 ?k6 ?k7 ?k8 ?k9 ?k10 ?k11 ?_; (case k1 => k_asm); (case k2 => k_asm); (case k3 => k_asm); (case k4 => k_mem); (case k5 => k_upd); (case k6 => k_inst); (case k7 => first | assumption | exact Nat.le_of_ble_eq_true rfl); (case k8 => kernel_rfl); (case k9 => exact acc_cls _); (case k10 => kernel_rfl); (case k11 => exact rfl); intro h' F' N'; (try k_sweep)))))
  k_with "call builtin:list.append" => ((k_here; (with_reducible show wpAny _ _ (call (Value.builtin _) [Value.ref _, _]) _ _ _); k_dflt (refine' append_B ?k1 ?k2 ?k3 ?k4 ?k5 ?k6 ?k7 ?_; (case k1 => k_asm); (case k2 => k_asm); (case k3 => k_asm); (case k6 => k_upd); (case k4 => k_inst); (case k5 => kernel_rfl); (case k7 => first | assumption | exact Nat.le_of_ble_eq_true rfl); intro h' F' N'; (try k_sweep))))
  k_with "wpAt" => ((ks_step "execs cons"; k_dflt (refine ks_wpAt_execs_cons ?_)))
  k_with "wpAt" => ((ks_step "exec Expr"; k_dflt (refine ks_wpAt_Expr_any ?_)))
  k_with "wpAt" => ((ks_step "exec Return"; k_dflt (refine ks_wpAt_Return_some ?_)))
  k_with "wpAt" => ((ks_step "exec If"; k_dflt (refine ks_wpAt_If ?_)))
  k_with "wpAt" => ((ks_step "eval Call"; k_dflt (refine ks_wpAt_MethodCall ?_)))
  k_with "wpAt" => (dsimp only)
  trivial
example : True := by
  k_with "m drop" => (first | exact drop0 | (refine drop1 ?_; k_extra "m drop"))
  k_with "eval ListComp" => ((k_here; k_dflt (refine ListComp_C (by k_asm) (by with_unfolding_all rfl) (by intro _; rfl) (by intro _; rfl) (by rfl) (by decide) (by rfl) ?_)))
  k_with "exec Assign cons ListComp" => ((k_here; k_dflt (refine Assign_ListComp_C (by k_asm) (by rfl) (by with_unfolding_all rfl) (by with_unfolding_all rfl) (by intro _; rfl) (by intro _; rfl) (by rfl) (by decide) (by rfl) (by rfl) (by rfl) ?_)))
  k_with "eval ListComp" => ((k_here; k_dflt (refine LCg.ListComp_U (F₀ := by k_asm) (by with_unfolding_all rfl) (by decide) (by rfl) (by decide) (by rfl) ?_)))
  k_with "exec Assign cons ListComp" => ((k_here; k_dflt (refine LCg.Assign_ListComp_U (F₀ := by k_asm) (by rfl) (by with_unfolding_all rfl) (by with_unfolding_all rfl) (by decide) (by rfl) (by decide) (by rfl) (by rfl) (by rfl) ?_)))
  k_with "CompSrc" => ((k_here; k_dflt (first
      | (refine LCg.CompSrc.ledger (by rfl) (by k_asm) (by k_asm) (by k_mem) (by first | exact Nat.le_of_ble_eq_true rfl | size_fits) ?_; intro g'; lcg_lit)
      | (refine LCg.CompSrc.range (by rfl) (by k_asm) (by k_asm) (by assumption) (by first | decide | rfl) (by first | rfl | decide) (by first | exact Nat.le_of_ble_eq_true rfl | size_fits) ?_; intro g'; lcg_lit))))
  k_with "CompRest" => ((with_unfolding_all first
      | (refine LCg.CompRest.succ ?_; intro v' I' oI' C' oC' D' m' h' tk' E' hv' hC' hx' F' N' off' ne'; (first | lcg_open hv' | (obtain ⟨t9', hv9'⟩ := hv'; subst hv9')))
      | refine LCg.CompRest.zero ?_))
  k_with "CompEnd" => (first
      | (refine' LCg.CompEnd.intro ?F ?N _ ?sub ?off ?src ?_; (case F => k_asm); (case N => k_asm); (case off => assumption); (case sub => k_extra "m drop"); (case src => lcg_src); k_whole)
      | ((try simp only [LCg.Off3, and_true] at *); lcg_end))
  k_with "CSrc" => ((k_here; k_dflt (first
      | (refine CSrc.ledger (by rfl) (by k_asm) (by k_asm) (by k_mem) (by first | exact Nat.le_of_ble_eq_true rfl | size_fits) ?_; intro g')
      | (refine CSrc.range (by rfl) (by k_asm) (by k_asm) (by assumption) (by first | decide | rfl) (by first | rfl | decide) (by first | exact Nat.le_of_ble_eq_true rfl | size_fits) ?_; intro g'))))
  k_with "CRest" => ((with_unfolding_all first
      | (intro v' I' oI' C' oC' c' oc' D' h' tk' E' hv' hc' F' N' off' ne'; (first | (obtain ⟨t9', hv9'⟩ := hv'; subst hv9') | (cases hv')))
      | (unfold CRest)))
  k_with "CEnd" => (first
      | (refine' CEnd.keep ?F ?N ?off ?ne ?src ?_; (case F => k_asm); (case N => k_asm); (case off => assumption); (case ne => exact ⟨by k_ne, by k_ne, by k_ne, by k_ne⟩); (case src => lcg_src); k_whole)
      | (refine' CEnd.intro ?F ?N ?off ?sub ?src ?_; (case F => k_asm); (case N => k_asm); (case off => assumption); (case sub => k_extra "m drop"); (case src => lcg_src); k_whole))
  k_with "exec For Name Name cons nil" => ((k_here; (rename Fr _ _ _ _ => lF'); (with_unfolding_all refine' For_turns lF' ?_; k_whole)))
  k_with "eval Name" => ((k_here; k_dflt (first
      | (refine' nameX_L ?F ?v ?_ ?a ?b; (case F => k_asm); (case a => rfl); (case b => rfl); (case v => rfl); k_whole)
      | (refine' nameX_C ?N ?c ?m ?d ?_ ?a ?b; (case a => rfl); (case b => rfl); (case N => k_asm); (case c => rfl); (case m => k_mem); (case d => k_asm); k_whole)
      | (refine' nameX_K ?F ?X ?T ?e ?_ ?a ?b; (case F => k_asm); (case X => k_asm); (case T => k_asm); (case a => rfl); (case b => rfl); (case e => k_is); k_whole))))
  k_with "eval Name" => ((k_here; (with_reducible show wpAny _ _ (eval (Expr.Name _ _) (compEnvC _ _ _ _)) _ _ _); k_dflt (first
      | refine LCgL.ld_own (by k_asm) (by k_mem) (by assumption) (by assumption) ?_
      | (refine' lcf_cell ?N ?c ?m ?d ?_ ?a ?b; (case a => rfl); (case b => rfl); (case N => k_asm); (case c => rfl); (case m => k_mem); (case d => k_asm); k_whole)
      | (refine' lcf_free ?N ?c ?m ?d ?_ ?a ?b; (case a => rfl); (case b => rfl); (case N => k_asm); (case c => rfl); (case m => k_mem); (case d => k_asm); k_whole)
      | refine LCgL.ld_global (by k_asm) (by k_asm) (by k_asm) (by k_is) ?_
      | refine LCgL.ld_built (by k_asm) (by k_asm) (by k_asm) (by k_is) (by boot_by_name) (by decide) ?_)))
  trivial
example : True := by
  k_with "m steps" => (repeat' ((fail_if_success (with_reducible show wpAny _ _ (pyIter (Value.ref _)) (fun it s₂ => TurnsAt _ _ _ _ _ _ _ _ _ it s₂) _ _)); (first | (k_unfold; (try dsimp only)) | walk1 | (dsimp only; walk1) | (leave1; (try dsimp only)))))
  trivial
local macro_rules | `(tactic| k_all) => `(tactic| k_extra "m offscan")
example : True := by
  k_with "m offscan" => (((with_reducible rename OwnOff _ _ => q9); first | with_reducible exact OwnOff.ne q9 (by k_mem) | (clear q9; k_extra "m offscan")))
  k_with "call builtin:list.append" => ((k_here; (with_reducible show wpAny _ _ (call (Value.builtin _) [Value.ref _, _]) _ _ _); (rename _ ≤ sizeLine => q8); (refine append_K (hsz := q8) (by k_asm) (by k_asm) (by k_upd) ?_); intro h' F' N'; (simp only [List.push_toArray] at N'); (try dsimp only); (try k_sweep)))
  trivial
example : True := by
  k_with "subscriptTail" => ((k_here; (with_reducible show wpAny _ _ (subscriptTail _ _ (Value.str (PySem.Str.ofString "rgb") _) (Value.int _ _)) _ _ _); k_dflt (refine' item_rgb ?k1 ?k2 ?_; (case k1 => omega); (case k2 => omega)); intro t' k'))
  k_with "subscriptTail" => ((k_here; (with_reducible show wpAny _ _ (subscriptTail _ _ (Value.str (tx _) _) (Value.int _ _)) _ _ _); k_dflt (refine' item_tx ?k1 ?k2 ?k3 ?k4 ?_; (case k4 => exact rfl); (case k1 => exact Nat.le_of_ble_eq_true rfl); (case k2 => exact of_decide_eq_true rfl); (case k3 => exact of_decide_eq_true rfl)); intro t' k'))
  k_with "binaryOp Add str str" => ((k_here; (first
      | ((with_reducible show wpAny _ _ (binaryOp _ (Value.str (tx _) _) (Value.str (tx _) _)) _ _ _); k_dflt (refine' add_tx ?k1 ?_; (case k1 => exact Nat.le_of_ble_eq_true rfl)))
      | ((with_reducible show wpAny _ _ (binaryOp _ (Value.str (PySem.Str.ofString "") _) (Value.str (tx _) _)) _ _ _); k_dflt (refine' add_tx0 ?k1 ?_; (case k1 => exact Nat.le_of_ble_eq_true rfl)))); intro t' k'))
  k_with "call builtin:str.index" => ((k_here; (with_reducible show wpAny _ _ (call _ [Value.str (PySem.Str.ofString "rgb") _, Value.str (tx _) _]) _ _ _); k_dflt (refine' index_rgb ?k1 ?k2 ?_; (case k1 => omega); (case k2 => omega)); intro t' k'))
  k_with "subscriptTail Name Name str int" => ((k_here; (with_reducible show wpAny _ _ (subscriptTail _ _ (Value.str (tx _) _) (Value.int _ _)) _ _ _); k_dflt (refine' item_tx ?k1 ?k2 ?k3 ?k4 ?_; (case k4 => exact rfl); (case k1 => exact Nat.le_of_ble_eq_true rfl); (case k2 => exact of_decide_eq_true rfl); (case k3 => exact of_decide_eq_true rfl)); intro t' k'))
  k_with "subscriptTail Name UnaryOp str int" => ((k_here; (with_reducible show wpAny _ _ (subscriptTail _ _ (Value.str (tx _) _) (Value.int _ _)) _ _ _); k_dflt (refine' item_tx ?k1 ?k2 ?k3 ?k4 ?_; (case k4 => exact rfl); (case k1 => exact Nat.le_of_ble_eq_true rfl); (case k2 => exact of_decide_eq_true rfl); (case k3 => exact of_decide_eq_true rfl)); intro t' k'))
  k_with "subscriptTail Name Constant str int" => ((k_here; (with_reducible show wpAny _ _ (subscriptTail _ _ (Value.str (tx _) _) (Value.int _ _)) _ _ _); k_dflt (refine' item_tx ?k1 ?k2 ?k3 ?k4 ?_; (case k4 => exact rfl); (case k1 => exact Nat.le_of_ble_eq_true rfl); (case k2 => exact of_decide_eq_true rfl); (case k3 => exact of_decide_eq_true rfl)); intro t' k'))
  k_with "subscriptTail Name BinOp str int" => ((k_here; (with_reducible show wpAny _ _ (subscriptTail _ _ (Value.str (tx _) _) (Value.int _ _)) _ _ _); k_dflt (refine' item_tx ?k1 ?k2 ?k3 ?k4 ?_; (case k4 => exact rfl); (case k1 => exact Nat.le_of_ble_eq_true rfl); (case k2 => exact of_decide_eq_true rfl); (case k3 => exact of_decide_eq_true rfl)); intro t' k'))
  trivial
example : True := by
  k_with "exec For Tuple Name cons nil" => ((k_here; (rename Fr _ _ _ _ => lF'); (with_unfolding_all refine' For_turns lF' ?_; k_whole)))
  k_with "setItem ref int" => ((k_here; (with_reducible show wpAny _ _ (PySem.setItem (Value.ref _) (Value.int _ _) (Value.int _ _)) _ _ _); k_dflt (refine' set3 ?k1 ?k2 ?k3 ?k4 ?k5 ?_; (case k1 => k_asm); (case k2 => k_asm); (case k5 => k_upd); (case k3 => omega); (case k4 => omega)); intro h' F' N'; (try dsimp only [List.nil_append, List.cons_append] at N'); (try k_sweep)))
  trivial
local macro_rules | `(tactic| k_all) => `(tactic| (refine allLt_ne ?_; simp only [AllLt, and_true]; with_reducible assumption))
example : True := by
  k_with "CompEnd" => ((k_here; first
      | (refine' keep1 ?F ?N ?off ?ne ?src ?_; (case F => k_asm); (case N => k_asm); (case off => assumption); (case ne => exact ⟨by k_ne, by k_ne, by k_ne⟩); (case src => lcg_src); k_whole)
      | (refine' keep2 ?F ?N ?off ?ne ?ne' ?src ?_; (case F => k_asm); (case N => k_asm); (case off => assumption); (case ne => exact ⟨by k_ne, by k_ne, by k_ne⟩); (case ne' => exact ⟨by k_ne, by k_ne, by k_ne⟩); (case src => lcg_src); k_whole)))
  trivial
local macro_rules | `(tactic| k_ne) => `(tactic| with_reducible first | assumption | (refine Ne.symm ?_; assumption))
example : True := by
  k_with "m stepsR" => (repeat' ((fail_if_success (with_reducible show RangeRest _ _ _ _ _ _ _ _ _ _ _ _ _ _ _ _ _)); (fail_if_success (with_reducible show wpAny _ _ (pyIter (Value.ref _)) (fun it s₂ => TurnsAt _ _ _ _ _ _ _ _ _ it s₂) _ _)); (first | (k_unfold; (try dsimp only)) | walk1 | (dsimp only; walk1) | (leave1; (try dsimp only)))))
  k_with "m agree" => (first | exact Agree.mix0 | (refine Agree.mixT (by decide +kernel) ?_; k_extra "m agree") | (refine Agree.set (by decide +kernel) ?_; k_extra "m agree"))
  k_with "m clean" => (((repeat ((rename (@Ne _ _ _ ∧ _) => q9); clear q9)); (repeat ((rename (@LT.lt _ _ _ _ ∧ _) => q9); clear q9)); (repeat ((rename (LCg.Off3 _ _ _ _) => q9); clear q9)); (repeat ((rename (LCg.NsObj _ _) => q9); clear q9))))
  trivial
example : True := by
  k_with "subscriptTail Subscript Name Name Name ref int" => (((fail_if_success k_extra "inA"); (k_here; (rename News _ _ _ [_] => N9); (with_unfolding_all refine' item_here N9 ?k2 ?k3 ?k4 ?_ ?k6; (case k2 => exact .head _); (case k3 => with_unfolding_all decide); (case k4 => with_unfolding_all rfl); (case k6 => with_unfolding_all rfl); k_whole); clear N9)))
  k_with "subscriptTail Name UnaryOp str int" => (((fail_if_success k_extra "inA"); (k_here; (with_reducible show wpAny _ _ (subscriptTail _ _ (Value.str (tx (_ ++ [_])) _) (Value.int _ _)) _ _ _); k_dflt (refine' item_last ?k1 ?_; (case k1 => omega)); intro t' k')))
  k_with "binaryOp Add str str" => (((fail_if_success k_extra "inA"); (k_here; (with_reducible show wpAny _ _ (binaryOp _ (Value.str (tx (_ ++ _)) _) (Value.str (tx _) _)) _ _ _); k_dflt (refine' add_tx ?k1 ?_; (case k1 => (simp only [List.length_append, List.length_cons, List.length_nil]; omega))); intro t' k')))
  k_with "call builtin:list.append" => (((fail_if_success k_extra "inA"); (k_here; (with_reducible show wpAny _ _ (call (Value.builtin _) [Value.ref _, _]) _ _ _); (refine' append_K ?k1 ?k2 ?k3 ?_ ?hs; (case k1 => k_asm); (case k2 => k_asm); (case k3 => k_upd); (case hs => (rw [sizeLine_eq]; simp only [List.size_toArray, List.length_append, List.length_cons, List.length_nil]; omega))); intro h' F' N'; (simp only [List.push_toArray] at N'); (try dsimp only); (try k_sweep))))
  k_with "m offI" => (((fail_if_success k_extra "inA"); first | exact allLt_ne (by assumption) | exact off1_ne (by assumption) | (refine' List.forall_mem_cons.mpr ⟨?a, ?b⟩; (case a => k_ne); (case b => k_extra "m offI"))))
  k_with "UnrEnd" => (((fail_if_success k_extra "inA"); ((rename Fr _ _ _ _ => F9); (rename News _ _ _ _ => N9); first
      | (refine' rturn1 F9 N9 ?off ?_; (case off => k_extra "m offI"))
      | (refine' rturn0 F9 N9 ?off ?_; (case off => k_extra "m offI")))))
  trivial
example : True := by
  k_with "subscriptTail Name" => (((fail_if_success k_extra "inA"); (k_here; (with_reducible show wpAny _ _ (subscriptTail _ _ (Value.ref _) (Value.int _ _)) _ _ _); (first
      | (with_unfolding_all refine' item_here ?k1 ?k2 ?k3 ?k4 ?_ ?k6; (case k1 => k_asm); (case k2 => k_mem); (case k3 => with_unfolding_all decide); (case k4 => with_unfolding_all rfl); (case k6 => with_unfolding_all rfl); k_whole)
      | (k_dflt (refine' item3 ?k1 ?k2 ?k3 ?k4 ?_; (case k1 => k_asm); (case k2 => k_mem); (case k3 => omega); (case k4 => omega); k_whole); intro t')))))
  k_with "subscriptTail Name Name ref int" => (((fail_if_success k_extra "inA"); (k_here; (with_reducible show wpAny _ _ (subscriptTail _ _ (Value.ref _) (Value.int _ _)) _ _ _); (first
      | (with_unfolding_all refine' item_here ?k1 ?k2 ?k3 ?k4 ?_ ?k6; (case k1 => k_asm); (case k2 => k_mem); (case k3 => with_unfolding_all decide); (case k4 => with_unfolding_all rfl); (case k6 => with_unfolding_all rfl); k_whole)
      | (k_dflt (refine' item3 ?k1 ?k2 ?k3 ?k4 ?_; (case k1 => k_asm); (case k2 => k_mem); (case k3 => omega); (case k4 => omega); k_whole); intro t')))))
  k_with "subscriptTail Subscript" => (((fail_if_success k_extra "inA"); (k_here; (with_reducible show wpAny _ _ (subscriptTail _ _ (Value.ref _) (Value.int _ _)) _ _ _); (first
      | ((rename One _ _ _ _ => N9); (first
        | (with_unfolding_all refine' item_here (show News _ _ _ [_] from N9) ?k2 ?k3 ?k4 ?_ ?k6; (case k2 => exact .head _); (case k3 => with_unfolding_all decide); (case k4 => with_unfolding_all rfl); (case k6 => with_unfolding_all rfl); k_whole)
        | (k_dflt (refine' item3One N9 ?k3 ?k4 ?_; (case k3 => omega); (case k4 => omega); k_whole); intro t')); clear N9)
      | (with_unfolding_all refine' item_here ?k1 ?k2 ?k3 ?k4 ?_ ?k6; (case k1 => k_asm); (case k2 => k_mem); (case k3 => with_unfolding_all decide); (case k4 => with_unfolding_all rfl); (case k6 => with_unfolding_all rfl); k_whole)
      | (k_dflt (refine' item3 ?k1 ?k2 ?k3 ?k4 ?_; (case k1 => k_asm); (case k2 => k_mem); (case k3 => omega); (case k4 => omega); k_whole); intro t')))))
  k_with "subscriptTail Subscript Name Name Name ref int" => (((fail_if_success k_extra "inA"); (k_here; (with_reducible show wpAny _ _ (subscriptTail _ _ (Value.ref _) (Value.int _ _)) _ _ _); (first
      | ((rename One _ _ _ _ => N9); (first
        | (with_unfolding_all refine' item_here (show News _ _ _ [_] from N9) ?k2 ?k3 ?k4 ?_ ?k6; (case k2 => exact .head _); (case k3 => with_unfolding_all decide); (case k4 => with_unfolding_all rfl); (case k6 => with_unfolding_all rfl); k_whole)
        | (k_dflt (refine' item3One N9 ?k3 ?k4 ?_; (case k3 => omega); (case k4 => omega); k_whole); intro t')); clear N9)
      | (with_unfolding_all refine' item_here ?k1 ?k2 ?k3 ?k4 ?_ ?k6; (case k1 => k_asm); (case k2 => k_mem); (case k3 => with_unfolding_all decide); (case k4 => with_unfolding_all rfl); (case k6 => with_unfolding_all rfl); k_whole)
      | (k_dflt (refine' item3 ?k1 ?k2 ?k3 ?k4 ?_; (case k1 => k_asm); (case k2 => k_mem); (case k3 => omega); (case k4 => omega); k_whole); intro t')))))
  k_with "SrcS" => (((fail_if_success k_extra "inA"); (k_here; k_dflt (refine SrcS.intro (by rfl) (by k_asm) (by k_asm) (by exact Nat.le_of_ble_eq_true rfl) ?_); intro g')))
  k_with "CompRest" => (((fail_if_success k_extra "inA"); (with_unfolding_all (refine LCg.CompRest.succ ?_; intro v' I' oI' C' oC' D' m' h' tk' E' hv' hC' hx' F' N' off' ne'; obtain ⟨c', u', e1', e2'⟩ := hv'; (have e3' := Option.some.inj e1'); subst e3'; subst e2'))))
  k_with "eval ListComp" => (((fail_if_success k_extra "inA"); (k_here; (with_reducible show wpAny _ _ (eval (Expr.ListComp _ [⟨_, Expr.Name (PySem.Str.ofString "way") _, _, _⟩] _ _) _) _ _ _); k_dflt (refine ListComp_S (F₀ := by k_asm) (by with_unfolding_all rfl) (by decide) (by rfl) (by decide) (by rfl) ?_))))
  k_with "m om" => (((fail_if_success k_extra "inA"); ((repeat ((rename (@Ne _ _ _ ∧ _) => q9); clear q9)); (repeat ((rename (@Ne Nat _ _) => q9); clear q9)); omega)))
  k_with "call ref" => (((fail_if_success k_extra "inA"); (k_here; (with_reducible show wpAny _ _ (call (Value.ref 173) _) _ _ _); k_dflt ((refine' Pure.use (value_spec _ _ _ _ _ _ _ _ _ ?e1 ?e2 ?e3) (by k_asm) (by k_asm) (by k_asm) (by k_asm) (by k_asm) (by first | exact rfl | assumption) (by k_extra "m sub") (by ktr_room) (by ktr_units) ?_); (case e1 => k_extra "m om"); (case e2 => k_extra "m om"); (case e3 => k_extra "m om")); intro v' tl' h' tk' F' N' ne' P'; refine byG (fun P9 hP9 => ?_); obtain ⟨t', e1', e2'⟩ := P'; subst e1' e2'; refine hP9 ?_; clear hP9 P9; clear ne'; (dsimp only [List.nil_append] at N'); (try dsimp only); (generalize e9 : mx3 _ _ _ = r'); (have b9 : 0 ≤ r' ∧ r' ≤ 35 := by (rw [← e9]; exact mx3_bd (by k_extra "m om") (by k_extra "m om") (by k_extra "m om"))); (try k_fold))))
  trivial
example : True := by
  k_with "m intvals" => (((fail_if_success k_extra "inA"); first | exact intvals_nil | (refine intvals_put ?_; k_extra "m intvals")))
  k_with "binaryOp Add" => (((fail_if_success k_extra "inA"); ((rename Flat _ (Option.getD (PySem.Spec.lookup _ _) _) => q9); obtain ⟨x', t', e1', e2'⟩ := flat_int (by k_extra "m intvals") q9; subst e1'; clear q9)))
  k_with "subscriptTail Name Slice str ref" => (((fail_if_success k_extra "inA"); (k_here; (with_reducible show wpAny _ _ (subscriptTail _ (Expr.Slice _ _ _ _) (Value.str (tx _) _) (Value.ref _)) _ _ _); k_dflt (refine' slice_tx (s := ⟨_, _, _, _, _⟩) ?k1 ?k2 ?k3 ?k4 ?_; (case k1 => k_asm); (case k2 => k_asm); (case k3 => first | exact slice01' (by decide) (by decide) | exact slice12' (by decide) (by decide) | exact slice23' (by decide) (by decide)); (case k4 => exact Nat.le_of_ble_eq_true rfl)); intro h' t' k' F' N')))
  trivial
example : True := by
  k_with "FinE" => (((fail_if_success k_extra "inA"); ((unfold LCg.FinE); intro D' h' tk' F' N' o1'; (replace o1' := neAll_off1 o1'); (try dsimp only [List.nil_append, List.cons_append] at N' o1'); (try dsimp only))))
  k_with "FinA" => (((fail_if_success k_extra "inA"); ((unfold LCg.FinA); intro D' h' tk' F' N' o1'; (replace o1' := neAll_off1 o1'); (try dsimp only [List.nil_append, List.cons_append] at N' o1'); (try dsimp only))))
  k_with "binaryOp Add ref ref" => (((fail_if_success k_extra "inA"); (k_here; (with_reducible show wpAny _ _ (binaryOp _ (Value.ref _) (Value.ref _)) _ _ _); k_dflt (refine' add_cons ?F ?N ?a ?b ?z ?_; (case F => k_asm); (case N => k_asm); (case a => k_mem); (case b => k_mem); (case z => (simp only [List.length_cons]; k_extra "m om"))); intro D' h' F' N' l1; (try k_lt l1); (try k_sweep))))
  k_with "m allne" => (((fail_if_success k_extra "inA"); first | exact List.forall_mem_nil _ | (refine' List.forall_mem_cons.mpr ⟨?x, ?y⟩; (case x => k_ne); (case y => k_extra "m allne"))))
  k_with "m offAll" => (((fail_if_success k_extra "inA"); first | exact ownOff_none | (refine' OwnOff.lcons ?a ?b; (case a => k_extra "m allne"); (case b => k_extra "m offAll"))))
  trivial
example : True := by
  k_with "subscriptTail Name BinOp ref int" => (((fail_if_success k_extra "inA"); (k_here; (first
      | (k_dflt (refine' item_prev ?k1 ?k2 ?k3 ?k4 ?_; (case k1 => k_asm); (case k2 => k_mem); (case k3 => k_extra "m om"); (case k4 => k_extra "m om"); k_whole))
      | (k_dflt (refine' item_end ?k1 ?k2 ?k3 ?k4 ?_; (case k1 => k_asm); (case k2 => k_mem); (case k3 => k_extra "m om"); (case k4 => k_extra "m om"); k_whole))))))
  k_with "subscriptTail Name Name ref int" => (((fail_if_success k_extra "inA"); (k_here; (first
      | (with_unfolding_all refine' item_here ?k1 ?k2 ?k3 ?k4 ?_ ?k6; (case k1 => k_asm); (case k2 => k_mem); (case k3 => with_unfolding_all decide); (case k4 => with_unfolding_all rfl); (case k6 => with_unfolding_all rfl); k_whole)
      | k_dflt (refine' item_end ?k1 ?k2 ?k3 ?k4 ?_; (case k1 => k_asm); (case k2 => k_mem); (case k3 => (simp only [List.length_append, List.length_cons, List.length_nil]; k_extra "m om")); (case k4 => (simp only [List.length_append, List.length_cons, List.length_nil]; k_extra "m om")); k_whole)))))
  k_with "m dict" => (((fail_if_success k_extra "inA"); first | assumption | exact dict_nil (by assumption) (by assumption)))
  k_with "call ref" => (((fail_if_success k_extra "inA"); (k_here; (with_reducible show wpAny _ _ (call (Value.ref 28) _) _ _ _); k_dflt ((refine' Pure.use (add_stats_spec _ _ _ _ _ _ _ _ _ _ _ _ _ _ _ _ _ _ _ _ _ _ _ _ _ ?e1 ?e2 ?e3) (by k_asm) (by k_asm) (by k_asm) (by k_asm) (by k_asm) (by first | exact rfl | assumption) (by k_extra "m sub") (by ktr_room) (by ktr_units) ?_); (case e1 => k_extra "m dict"); (case e2 => k_extra "m dict"); (case e3 => first | exact .inl ⟨rfl, by k_extra "m om"⟩ | exact .inr ⟨rfl, merge1_pos _ _ _, Nat.le_trans (merge1_le _ _ _) (by k_extra "m om")⟩)); intro v' tl' h' tk' F' N' ne' P'; refine byG (fun P9 hP9 => ?_); obtain ⟨a', c', o', x1', x2', x3', x4', e1', e2', D'⟩ := P'; subst e1' e2'; refine hP9 ?_; clear hP9 P9; (dsimp only [List.cons_append, List.nil_append] at N'); (try dsimp only); (try k_fold))))
  k_with "call ref" => (((fail_if_success k_extra "inA"); (k_here; (with_reducible show wpAny _ _ (call (Value.ref 187) _) _ _ _); k_dflt ((refine' Pure.use (tag_spec _ _ _ _ _ _ _ _ _ ?e1 ?e2 ?e3) (by k_asm) (by k_asm) (by k_asm) (by k_asm) (by k_asm) (by first | exact rfl | assumption) (by k_extra "m sub") (by ktr_room) (by ktr_units) ?_); (case e1 => k_extra "m om"); (case e2 => k_extra "m om"); (case e3 => k_extra "m om")); intro v' tl' h' tk' F' N' ne' P'; refine byG (fun P9 hP9 => ?_); obtain ⟨c', t', e1', e2', P'⟩ := P'; subst e1' e2'; refine hP9 ?_; clear hP9 P9; clear ne'; (dsimp only [List.nil_append] at N'); (try dsimp only); rcases P' with ⟨P1', P2', P3'⟩ | ⟨P1', P2', P3'⟩ | ⟨P1', P2', P3'⟩ <;> subst P1' <;> (try k_fold))))
  k_with "eval Dict" => (((fail_if_success k_extra "inA"); (k_here; (with_reducible show wpAny _ _ (eval (Expr.Dict [some (Expr.BinOp _ _ _ _)] _ _) _) _ _ _); k_dflt (refine' kdn_eval (knd := PySem.strKind _ _) ?F ?N ?b ?a ?l ?e ?n ?_; (case F => k_asm); (case N => first | k_asm | exact News.nil); (case b => exact Top.nolimit (by k_asm)); (case a => rfl); (case l => rfl); (case e => exact List.cons_ne_nil _ _); (case n => exact Nat.le_of_ble_eq_true rfl)); intro d' h' o' F' N' l1 lo' hd'; (try k_lt l1))))
  k_with "KdnMade" => (((fail_if_success k_extra "inA"); (k_here; k_dflt (refine' dict_one ?F ?N ?U ?d ?lo ?_; (case F => k_asm); (case N => k_asm); (case U => k_updF); (case d => k_asm); (case lo => assumption)); intro h' o' F' N' D'; (try dsimp only at N'))))
  k_with "newTuple" => (((fail_if_success k_extra "inA"); (k_here; k_dflt (refine' kup_newTuple ?F ?N ?_ ?z; (case F => k_asm); (case N => k_asm); (case z => kmk_size)); intro D' h' F' N' l1; (try k_lt l1); (try k_sweep))))
  k_with "call builtin:list.append" => (((fail_if_success k_extra "inA"); (k_here; (with_reducible show wpAny _ _ (call (Value.builtin _) [Value.ref _, _]) _ _ _); (refine' append_K ?k1 ?k2 ?k3 ?_ ?hs; (case k1 => k_asm); (case k2 => k_asm); (case k3 => k_upd); (case hs => first | exact Nat.le_of_ble_eq_true rfl | (rw [sizeLine_eq]; simp only [List.size_toArray, List.length_append, List.length_cons, List.length_nil]; omega))); intro h' F' N'; (try simp only [List.push_toArray] at N'); (try dsimp only); (try k_sweep))))
  k_with "call builtin:list.append" => (((fail_if_success k_extra "inA"); (k_here; (with_reducible show wpAny _ _ (call (Value.builtin _) [Value.ref _, _]) _ _ _); (with_reducible rename (0 ≤ pick3 _ _ _ _ ∧ _) => v9); k_dflt (refine' append_K ?k1 ?k2 ?k3 ?_ ?hs; (case k1 => k_asm); (case k2 => k_asm); (case k3 => k_upd); (case hs => first | exact Nat.le_of_ble_eq_true rfl | (rw [sizeLine_eq]; simp only [List.size_toArray, List.length_append, List.length_cons, List.length_nil]; omega))); intro h' F' N'; (try simp only [List.push_toArray] at N'); (try dsimp only); (try k_sweep))))
  k_with "subscriptTail Name Constant ref int" => (((fail_if_success k_extra "inA"); (k_here; (with_reducible show wpAny _ _ (subscriptTail _ _ (Value.ref _) (Value.int 3 _)) _ _ _); k_dflt (refine' item_tupF ?k1 ?k2 ?k3 ?k4 ?k5 ?_ ?k6; (case k1 => k_asm); (case k2 => k_mem); (case k3 => with_unfolding_all decide); (case k4 => with_unfolding_all rfl); (case k5 => with_unfolding_all rfl); (case k6 => with_unfolding_all rfl); k_whole))))
  trivial
example : True := by
  k_with "m plain" => ((refine' pin_callZ ?B ?F ?X ?N ?T ?hA ?hf ?hke ?ho ?hcd ?hroom ?hbind ?hloc ?hp ?k ?_ ?hco ?hgen ?hk ?hcell; (case hA => exact rfl); (case hf => exact rfl); (case hke => assumption); (case B => k_asm); (case F => k_asm); (case X => k_asm); (case N => k_asm); (case T => k_asm); (case ho => k_is); (case hcd => k_is); (case hroom => ktr_room); (case hbind => exact BindsTo.of_eq rfl); (case hcell => decide); (case hloc => exact locs rfl); (case hp => assumption); (case k => assumption); (case hco => exact rfl); (case hgen => exact rfl); (case hk => exact rfl); k_whole; intro g' L' h' gn' dr' tk' os' Z' FG' m0' F' N' B' X' T' l1 hZ env' A'; (try k_lt l1); (try dsimp only); (try k_lift B')))
  k_with "m cells" => ((refine' pin_callCZ ?B ?F ?X ?N ?T ?hA ?hf ?hke ?ho ?hcd ?hroom ?hbind ?hkind ?hnd ?hp ?k ?_ ?hco ?hgen ?hk; (case hA => exact rfl); (case hf => exact rfl); (case hke => assumption); (case B => k_asm); (case F => k_asm); (case X => k_asm); (case N => k_asm); (case T => k_asm); (case ho => k_is); (case hcd => k_is); (case hroom => ktr_room); (case hbind => exact BindsTo.of_eq rfl); (case hkind => exact rfl); (case hnd => decide +kernel); (case hp => assumption); (case k => assumption); (case hco => exact rfl); (case hgen => exact rfl); (case hk => exact rfl); k_whole; intro g' L' h' gn' dr' tk' os' Z' cells' FG' m0' F' N' Y' B' X' T' l1 hZ env' A'; (try k_lt l1); k_cells Y'; (try simp only [List.cons_append, List.nil_append] at N'); (try dsimp only); (try k_lift B')))
  k_with "execs cons" => ((k_here; (with_reducible refine execs_tk ?_); intro tk'; k_fold))
  k_with "storeName" => ((k_here; k_dflt (refine' storeX_let ?F ?N ?_ ?a ?b; (case F => k_asm); (case N => k_asm); (case a => rfl); (case b => rfl); k_whole; intro h' m' F' N'; (try k_sweep))))
  k_with "m go" => (repeat' (first | (k_unfold; (try dsimp only)) | walk1 | (dsimp only; walk1) | (leave1; (try dsimp only))))
  trivial
local macro_rules | `(tactic| k_ne) => `(tactic| k_extra "m neq")
local macro_rules | `(tactic| k_all) => `(tactic| k_extra "m alloff")
local macro_rules | `(tactic| k_mem) => `(tactic| k_extra "m mem")
example : True := by
  k_with "m go1" => (first | (k_unfold; (try dsimp only)) | k_extra "m tab" | (walk1; (try k_extra "m say"); (all_goals ((try k_extra "m foldN"); (try k_extra "m foldO"))); (try k_extra "m say2")) | (dsimp only; walk1; (try k_extra "m say"); (all_goals ((try k_extra "m foldN"); (try k_extra "m foldO")))) | (leave1; (try dsimp only)))
  k_with "m updF" => (first | (refine' UpdF.head ?fa; (case fa => k_extra "m alloff")) | (refine' UpdF.tail ?fa ?fb; (case fa => k_extra "m neq"); (case fb => k_extra "m updF")))
  k_with "m upd" => (first | (refine' Upd.head ?ua; (case ua => k_extra "m alloff")) | (refine' Upd.tail ?ua ?ub; (case ua => k_extra "m neq"); (case ub => k_extra "m upd")))
  k_with "m foldN" => ((with_reducible rename News _ _ _ _ => N9; dsimp only [newsT] at N9; refine (let row9 := _; let led9 := row9 :: _; have N8 : NewsT _ _ _ led9 := N9; ?_); clear N9; dsimp only [newsTr] at N8))
  k_with "m go" => (repeat' (k_extra "m go1"))
  k_with "m stepsR" => (repeat' ((fail_if_success (with_reducible show RangeRest _ _ _ _ _ _ _ _ _ _ _ _ _ _ _ _ _)); (fail_if_success (with_reducible show wpAny _ _ (pyIter (Value.ref _)) (fun it s₂ => TurnsAt _ _ _ _ _ _ _ _ _ it s₂) _ _)); (k_extra "m go1")))
  k_with "m steps" => (repeat' ((fail_if_success (with_reducible show wpAny _ _ (pyIter (Value.ref _)) (fun it s₂ => TurnsAt _ _ _ _ _ _ _ _ _ it s₂) _ _)); (k_extra "m go1")))
  k_with "m scN" => (((with_reducible rename NeAll _ _ => q9); first | ((with_reducible apply na_ne q9); k_mem; k_mem) | ((with_reducible refine Ne.symm ?_); (with_reducible apply na_ne q9); k_mem; k_mem) | (clear q9; k_extra "m scN")))
  k_with "m ofN" => (((with_reducible rename NeAll _ _ => q9); first | ((with_reducible apply na_off q9); k_mem; k_extra "m tails") | (clear q9; k_extra "m ofN")))
  k_with "m tails" => (((fail_if_success k_extra "inA"); first | exact fun _ h => h | (refine sub_tl ?_; k_extra "m tails")))
  k_with "m open" => ((with_reducible rename News _ _ _ _ => N9; dsimp +zetaDelta only at N9))
  k_with "CompEnd" => ((k_here; k_dflt (first
      | (refine' keep1 ?F ?N ?off ?ne ?src ?_; (case F => k_asm); (case N => k_asm); (case off => assumption); (case ne => exact ⟨by k_extra "m neq", by k_extra "m neq", by k_extra "m neq"⟩); (case src => lcg_src); k_whole)
      | (refine' keep2 ?F ?N ?off ?ne ?ne' ?src ?_; (case F => k_asm); (case N => k_asm); (case off => assumption); (case ne => exact ⟨by k_extra "m neq", by k_extra "m neq", by k_extra "m neq"⟩); (case ne' => exact ⟨by k_extra "m neq", by k_extra "m neq", by k_extra "m neq"⟩); (case src => lcg_src); k_whole))))
  k_with "storeName" => ((k_here; k_dflt (first
      | (refine' storeX_let ?F ?N ?_ ?a ?b; (case F => k_asm); (case N => k_asm); (case a => rfl); (case b => rfl); k_whole; intro h' m' F' N'; (try k_sweep))
      | (refine' storeX_C ?F ?N ?c ?U ?d ?_ ?a ?b; (case a => rfl); (case b => rfl); (case F => k_asm); (case N => k_asm); (case c => rfl); (case U => k_extra "m updF"); (case d => k_asm); k_whole; intro h' o' F' N' d'; (try dsimp only at N'); (try k_sweep)))))
  k_with "FinE" => (((unfold LCg.FinE); intro D' h' tk' F' N' o1'; (try dsimp only); (try k_sweep)))
  k_with "FinA" => (((unfold LCg.FinA); intro D' h' tk' F' N' o1'; (try dsimp only); (try k_sweep)))
  k_with "m mem" => (((fail_if_success k_extra "inA"); first | exact List.Mem.head _ | (refine' List.Mem.tail _ ?_; k_extra "m mem") | assumption))
  k_with "m foldO" => (first
      | (with_reducible rename Old _ _ => q9; replace q9 := OffD.of q9)
      | (with_reducible rename LCg.Off1 _ _ => q9; replace q9 := OffD.of1 q9))
  k_with "m neq" => (first | with_reducible assumption | ((with_reducible refine Ne.symm ?_); with_reducible assumption) | exact cell_ne rfl | ((with_reducible apply OffD.ne); (with_reducible assumption); k_mem) | ((with_reducible refine Ne.symm ?_); (with_reducible apply OffD.ne); (with_reducible assumption); k_mem) | k_extra "m o3" | ((with_reducible refine Ne.symm ?_); k_extra "m o3") | k_extra "m scN" | k_extra "m own0")
  k_with "m o3" => (first | ((with_reducible apply o3_I); (with_reducible assumption); k_mem) | ((with_reducible apply o3_C); (with_reducible assumption); k_mem) | ((with_reducible apply o3_D); (with_reducible assumption); k_mem))
  k_with "m own0" => (((with_reducible rename OwnOff _ _ => q9); first | ((with_reducible apply OwnOff.ne1 q9); k_mem; k_mem) | ((with_reducible refine Ne.symm ?_); (with_reducible apply OwnOff.ne1 q9); k_mem; k_mem) | (clear q9; k_extra "m own0")))
  k_with "m alloff" => (first | exact List.forall_mem_nil _ | exact OffD.off (by with_reducible assumption) (fun _ h => h) | (refine' List.forall_mem_cons.mpr ⟨?la, ?lb⟩; (case la => k_extra "m neq"); (case lb => k_extra "m alloff")) | ((with_reducible apply OffD.off); (with_reducible assumption); k_extra "m tails") | k_extra "m ofN" | k_extra "m ownA")
  trivial
example : True := by
  k_with "m openC" => (((case ho => k_is); (case hcd => k_is); (case hb => exact fun _ => BindsTo.of_eq rfl); (case hkind => exact rfl); (case hnd => decide +kernel); (case c1 => exact rfl); (case c2 => exact rfl); (case c3 => exact rfl); (case hcl => exact fun _ => rfl); intro loose' mean' mg' mb' dp' un' gd' outer' A0' base' g' L' h' gn' dr' tk' os' Z' cells' env' m0' hpre F' N' Y' B' X' T' hdp hun hZ A'; k_cells Y'))
  k_with "m openP" => (((case ho => k_is); (case hcd => k_is); (case hb => exact fun _ => BindsTo.of_eq rfl); (case hl => exact locs rfl); (case c1 => exact rfl); (case c2 => exact rfl); (case c3 => exact rfl); (case hcell => decide); intro loose' mean' mg' mb' dp' un' gd' outer' A0' base' g' L' h' gn' dr' tk' os' Z' m0' hpre F' N' B' X' T' hdp hun hZ env' A'))
  k_with "m rng" => (first | with_reducible assumption | exact ⟨by decide, by decide⟩ | k_extra "m om")
  k_with "m tab" => (((with_reducible show wpAny _ _ (subscriptTail _ _ (Value.ref _) (Value.int _ _)) _ _ _); k_dflt (first
      | (refine' row_b ?F ?H ?v ?_; (case H => with_reducible assumption); (case F => k_asm); (case v => k_extra "m rng"); intro t')
      | (refine' pm_b ?F ?H ?v ?_; (case H => with_reducible assumption); (case F => k_asm); (case v => k_extra "m rng"); intro r' H')
      | (refine' sm_b ?F ?H ?v ?_; (case H => with_reducible assumption); (case F => k_asm); (case v => k_extra "m rng"); intro r' H'))))
  k_with "call builtin:sum" => ((k_here; (with_reducible show wpAny _ _ (call (Value.builtin "sum") [Value.ref _]) _ _ _); k_dflt (first
      | (refine' sum3_N ?hh ?F ?N ?hm9 ?_; (case F => k_asm); (case N => k_asm); (case hm9 => k_mem); (case hh => exact rfl))
      | (refine' sum4_N ?hh ?F ?N ?hm9 ?_; (case F => k_asm); (case N => k_asm); (case hm9 => k_mem); (case hh => exact rfl))); intro h' tk' t' F' N'; (try k_sweep)))
  k_with "UnrEnd" => (((with_reducible rename Fr _ _ _ _ => F9); (with_reducible rename News _ _ _ _ => N9); k_dflt (k_extra "m unr0")))
  k_with "m unr0" => (first
      | (refine' rturn0 F9 N9 ?off ?_; (case off => k_extra "m alloff"))
      | (replace N9 := news_tl N9; k_extra "m unr0"))
  trivial
example : True := by
  k_with "m evN" => (first
      | (refine' Ev.nL ?nF ?nV ?nE ?nK ?nX ?nD; (case nF => k_asm); (case nE => with_reducible exact rfl); (case nX => exact rfl); (case nK => exact rfl); (case nV => exact rfl); (case nD => decide))
      | (refine' Ev.nC ?nN ?nC ?nM ?nD ?nE ?nK ?nX ?nB; (case nE => with_reducible exact rfl); (case nX => exact rfl); (case nK => exact rfl); (case nN => k_asm); (case nC => exact rfl); (case nM => k_mem); (case nD => k_asm); (case nB => decide))
      | (refine' Ev.cL ?nN ?nM ?nC ?nX ?nE ?nK ?nL ?nD; (case nE => with_reducible exact rfl); (case nL => exact rfl); (case nK => exact rfl); (case nN => k_asm); (case nM => k_mem); (case nC => assumption); (case nX => assumption); (case nD => decide))
      | (refine' Ev.cC ?nN ?nC ?nM ?nD ?nE ?nK ?nX ?nB; (case nE => with_reducible exact rfl); (case nX => exact rfl); (case nK => exact rfl); (case nN => k_asm); (case nC => exact rfl); (case nM => k_mem); (case nD => k_asm); (case nB => decide))
      | (refine' Ev.cF ?nN ?nC ?nM ?nD ?nE ?nK ?nX ?nB ?nZ; (case nE => with_reducible exact rfl); (case nX => exact rfl); (case nK => exact rfl); (case nN => k_asm); (case nC => exact rfl); (case nM => k_mem); (case nD => k_asm); (case nB => decide); (case nZ => decide)))
  k_with "m evI" => (((fail_if_success k_extra "inA"); first
      | exact Ev.int
      | ((with_reducible apply Ev.add); (k_extra "m evI"); (k_extra "m evI"))
      | ((with_reducible apply Ev.sub); (k_extra "m evI"); (k_extra "m evI"))
      | ((with_reducible apply Ev.pm2); (k_extra "m evN"); k_asm; (with_reducible assumption); (k_extra "m evI"); (k_extra "m evI"); (k_extra "m rng"); (k_extra "m rng"); (exact fun _ _ _ => by with_unfolding_all rfl); (exact fun _ _ _ => by with_unfolding_all rfl))
      | ((with_reducible apply Ev.sm2); (k_extra "m evN"); k_asm; (with_reducible assumption); (k_extra "m evI"); (k_extra "m evI"); (k_extra "m rng"); (k_extra "m rng"); (exact fun _ _ _ => by with_unfolding_all rfl); (exact fun _ _ _ => by with_unfolding_all rfl))
      | ((with_reducible apply Ev.wk); first | (k_extra "m evN") | (k_extra "m evR"))
      | ((with_reducible apply Ev.rowN); (k_extra "m evN"); k_asm; (with_reducible assumption); (k_extra "m evI"); (k_extra "m rng"); (exact fun _ _ _ => by with_unfolding_all rfl))))
  k_with "m evR" => (((with_reducible apply Ev.itL); (first | k_extra "m evN" | k_extra "m evR"); k_asm; k_mem; (k_extra "m evI"); decide; (exact rfl); (exact fun _ _ _ => by with_unfolding_all rfl)))
  k_with "m evA" => (first | k_extra "m evI" | k_extra "m evN" | k_extra "m evR" | exact Ev.str)
  k_with "eval BinOp" => ((k_here; k_dflt ((refine' Ev.go ?ev9 ?_); (case ev9 => (intro C9; k_extra "m evI")); intro t' tk')))
  k_with "eval Subscript" => ((k_here; k_dflt ((refine' Ev.go ?ev9 ?_); (case ev9 => (intro C9; first | k_extra "m evI" | k_extra "m evR")); intro t' tk')))
  k_with "spliced" => ((k_here; k_dflt (first
      | ((with_reducible show wpAny _ _ (spliced (backTo _ (starEach [_] _))) _ _ _); refine' Ev.go1 ?ev9 ?s ?_; (case s => exact fun _ _ => rfl); (case ev9 => (intro C9; k_extra "m evA")); intro t' tk')
      | ((with_reducible show wpAny _ _ (spliced (backTo _ (starEach [_, _] _))) _ _ _); refine' Ev.go2 ?ev9 ?s ?_; (case s => exact ⟨fun _ _ => rfl, fun _ _ => rfl⟩); (case ev9 => (intro C9; refine' ⟨?a1, ?a2⟩; (case a1 => k_extra "m evA"); (case a2 => k_extra "m evA"))); intro t1' t2' tk')
      | ((with_reducible show wpAny _ _ (spliced (backTo _ (starEach [_, _, _] _))) _ _ _); refine' Ev.go3 ?ev9 ?s ?_; (case s => exact ⟨fun _ _ => rfl, fun _ _ => rfl, fun _ _ => rfl⟩); (case ev9 => (intro C9; refine' ⟨?a1, ?a2, ?a3⟩; (case a1 => k_extra "m evA"); (case a2 => k_extra "m evA"); (case a3 => k_extra "m evA"))); intro t1' t2' t3' tk')
      | ((with_reducible show wpAny _ _ (spliced (backTo _ (starEach (_ :: _ :: _ :: _ :: _) _))) _ _ _); refine' Ev.go4 ?ev9 ?s ?_; (case s => exact ⟨fun _ _ => rfl, fun _ _ => rfl, fun _ _ => rfl, fun _ _ => rfl⟩); (case ev9 => (intro C9; refine' ⟨?a1, ?a2, ?a3, ?a4⟩; (case a1 => k_extra "m evA"); (case a2 => k_extra "m evA"); (case a3 => k_extra "m evA"); (case a4 => k_extra "m evA"))); intro t1' t2' t3' t4' tk')); (try dsimp only [List.nil_append, List.cons_append])))
  k_with "CompRest" => ((k_dflt (first
      | ((refine' cr_turn ?cp9 ?_); (case cp9 => first | exact cp_range | exact cp_str (by exact rfl) | exact cp_ledL (by exact rfl) | exact cp_led (by exact rfl)); intro t' I' oI' C' oC' D' m' h' tk' E' hC' hx' F' N' off' ne' qk'; (try dsimp only at hx'))
      | refine LCg.CompRest.zero ?_)))
  k_with "CompSrc" => ((k_here; k_dflt ((first
      | (refine LCg.CompSrc.ledger (by rfl) (by k_asm) (by k_asm) (by k_mem) (by first | exact Nat.le_of_ble_eq_true rfl | size_fits) ?_; intro g'; lcg_lit)
      | (refine LCg.CompSrc.range (by rfl) (by k_asm) (by k_asm) (by assumption) (by first | decide | rfl) (by first | rfl | decide) (by first | exact Nat.le_of_ble_eq_true rfl | size_fits) ?_; intro g'; lcg_lit)); (try dsimp only); refine cr_fold ?_; intro Fin')))
  k_with "SrcS" => ((k_here; k_dflt ((refine SrcS.intro (by rfl) (by k_asm) (by k_asm) (by exact Nat.le_of_ble_eq_true rfl) ?_); intro g'; (try dsimp only); refine cr_fold ?_; intro Fin')))
  k_with "And" => (((with_reducible show Frag.In _ _ ∧ _); k_dflt (refine ⟨Frag.In.keeps (by with_reducible assumption) (Fr.keep (by k_asm)), ?_⟩); (try dsimp only [List.nil_append, List.cons_append])))
  trivial
example : True := by
  k_with "m off" => (first | exact ownOff_nil | (refine' ownOff_cons ?oa ?ob; (case oa => k_extra "m alloff"); (case ob => k_extra "m off")))
  k_with "m allne" => (first | exact List.forall_mem_nil _ | (refine' List.forall_mem_cons.mpr ⟨?na, ?nb⟩; (case na => k_extra "m neq"); (case nb => k_extra "m allne")))
  k_with "m to" => (skip)
  k_with "m ownA" => (((with_reducible rename OwnOff _ _ => q9); first | ((with_reducible apply OwnOff.allS q9); k_mem; k_extra "m tails") | (clear q9; k_extra "m ownA")))
  k_with "call builtin:list.append" => ((k_here; (with_reducible show wpAny _ _ (call (Value.builtin _) [Value.ref _, _]) _ _ _); k_dflt (refine' append_L ?F ?N ?U ?hs ?_; (case F => k_asm); (case N => k_asm); (case U => k_extra "m upd"); (case hs => first | exact Nat.le_of_ble_eq_true rfl | (rw [sizeLine_eq]; (try simp only [List.length_append, List.length_cons, List.length_nil]); omega))); intro h' F' N'; (try dsimp only); (try k_sweep)))
  k_with "call ref" => ((k_here; (with_reducible show wpAny _ _ (call (Value.ref 28) _) _ _ _); k_dflt (refine' add_stats_use ?B ?F ?X ?N ?T ?hk ?h1 ?h2 ?h3 ?m1 ?m2 ?m3 ?m4 ?e1 ?e2 ?e3 ?_; (case B => k_asm); (case F => k_asm); (case X => k_asm); (case N => k_asm); (case T => k_asm); (case hk => exact rfl); (case h1 => assumption); (case h2 => assumption); (case h3 => exact rfl); (case m1 => k_mem); (case m2 => k_mem); (case m3 => k_mem); (case m4 => k_mem); (case e1 => k_extra "m dict"); (case e2 => k_extra "m dict"); (case e3 => first | exact .inl ⟨rfl, by k_extra "m om"⟩ | exact .inr ⟨rfl, merge1_pos _ _ _, Nat.le_trans (merge1_le _ _ _) (by k_extra "m om")⟩)); intro a' c' o' x1' x2' x3' x4' h' tk' F' N' oa' oc' D'; (try k_sweep)))
  k_with "call ref" => ((k_here; (with_reducible show wpAny _ _ (call (Value.ref 187) _) _ _ _); k_dflt (refine' tag_use ?B ?F ?X ?N ?T ?hk ?h1 ?h2 ?h3 ?m1 ?e1 ?e2 ?e3 ?_; (case B => k_asm); (case F => k_asm); (case X => k_asm); (case N => k_asm); (case T => k_asm); (case hk => exact rfl); (case h1 => assumption); (case h2 => assumption); (case h3 => exact rfl); (case m1 => k_mem); (case e1 => k_extra "m om"); (case e2 => k_extra "m om"); (case e3 => k_extra "m om")); intro c' t' h' tk' F' N' P'; (try k_sweep)))
  k_with "m offAll" => (first | exact ownOff_none | (refine' OwnOff.lcons ?ga ?gb; (case ga => k_extra "m allne"); (case gb => k_extra "m offAll")))
  k_with "m fresh2" => (first | exact List.forall_mem_nil _ | (refine' List.forall_mem_cons.mpr ⟨⟨?hx, ?hy⟩, ?hz⟩; (case hx => k_extra "m neq"); (case hy => k_extra "m neq"); (case hz => k_extra "m fresh2")))
  k_with "subscriptTail Name Name ref int" => ((k_here; (with_reducible rename OwnOff [_, _] [_, _] => o9); k_dflt (refine' item_symF ?k1 ?k2 ?k3 ?k4 ?_ ?k6; (case k1 => k_asm); (case k2 => k_mem); (case k3 => assumption); (case k4 => assumption); (case k6 => with_unfolding_all rfl); k_whole)))
  trivial
example : True := by
  k_with "CRest" => ((k_dflt (first
      | ((refine' crc_turn ?cp9 ?_); (case cp9 => first | exact cp_range | exact cp_str (by exact rfl) | exact cp_ledL (by exact rfl) | exact cp_led (by exact rfl)); intro t' I' oI' C' oC' c' oc' D' h' tk' E' hc' F' N' off' ne' qk'; (try dsimp only at hc'))
      | refine crc_zero ?_)))
  k_with "CSrc" => ((k_here; k_dflt ((first
      | (refine CSrc.ledger (by rfl) (by k_asm) (by k_asm) (by k_mem) (by first | exact Nat.le_of_ble_eq_true rfl | size_fits) ?_; intro g')
      | (refine CSrc.range (by rfl) (by k_asm) (by k_asm) (by assumption) (by first | decide | rfl) (by first | rfl | decide) (by first | exact Nat.le_of_ble_eq_true rfl | size_fits) ?_; intro g')); (try dsimp only); refine crc_fold ?_; intro Fin')))
  k_with "m o3" => (first | ((with_reducible apply o3_I); (with_reducible assumption); k_mem) | ((with_reducible apply o3_C); (with_reducible assumption); k_mem) | ((with_reducible apply o3_D); (with_reducible assumption); k_mem) | ((with_reducible apply co_I); (with_reducible assumption); k_mem) | ((with_reducible apply co_C); (with_reducible assumption); k_mem) | ((with_reducible apply co_c); (with_reducible assumption); k_mem) | ((with_reducible apply co_D); (with_reducible assumption); k_mem))
  k_with "call ref" => ((k_here; (with_reducible show wpAny _ _ (call (Value.ref 173) _) _ _ _); k_dflt (refine' value_use ?B ?F ?X ?N ?T ?hk ?h1 ?h2 ?h3 ?m1 ?e1 ?e2 ?e3 ?_; (case B => k_asm); (case F => k_asm); (case X => k_asm); (case N => k_asm); (case T => k_asm); (case hk => exact rfl); (case h1 => assumption); (case h2 => assumption); (case h3 => exact rfl); (case m1 => k_mem); (case e1 => exact av_bd (PM.at_bd (by assumption) _ _) (SM.at_bd (by assumption) _ _) (by assumption) (by assumption)); (case e2 => exact av_bd (PM.at_bd (by assumption) _ _) (SM.at_bd (by assumption) _ _) (by assumption) (by assumption)); (case e3 => exact av_bd (PM.at_bd (by assumption) _ _) (SM.at_bd (by assumption) _ _) (by assumption) (by assumption))); intro t' h' tk' F' N'; (try k_sweep)))
  k_with "m stepsI" => (repeat' ((fail_if_success (with_reducible show ItemsRest _ _ _ _ _ _ _ _ _ _ _ _ _ _ _)); (k_extra "m go1")))
  trivial
example : True := by
  k_with "eval Name" => ((k_here; (first | (with_reducible show wpAny _ _ (eval (Expr.Name (PySem.Str.ofString "range") _) _) _ _ _) | (with_reducible show wpAny _ _ (eval (Expr.Name (PySem.Str.ofString "sum") _) _) _ _ _)); k_dflt (refine' nameX_B ?F ?X ?T ?e ?v ?n ?_ ?a ?b; (case F => k_asm); (case X => k_asm); (case T => k_asm); (case a => rfl); (case b => rfl); (case e => k_is); (case v => boot_fast); (case n => decide); k_whole)))
  k_with "callWith ref" => ((k_here; ((with_reducible show wpAny _ _ (callWith _ (Value.ref _) _ (backTo _ (starEach (_ :: _) _)) []) _ _ _); k_dflt (refine' callWith_K ?k1 ?k2 ?_; (case k1 => k_asm); (case k2 => k_is); k_whole))))
  k_with "getMethod ref" => ((k_here; ((with_reducible show wpAny _ _ (getMethod (Value.ref _) (PySem.Str.ofString "append") _) _ _ _); k_dflt (refine' kl_method ?N ?m PySem.F.slot_list_append PySem.F.type_list_append ?_; (case N => k_asm); (case m => k_mem)))))
  k_with "getMethod ref" => ((k_here; ((with_reducible show wpAny _ _ (getMethod (Value.ref _) (PySem.Str.ofString "get") _) _ _ _); k_dflt (refine' kdl_method (knd := PySem.strKind _ _) PySem.F.slot_dict_get PySem.F.type_dict_get ?N ?m ?d ?_; (case N => k_asm); (case m => k_mem); (case d => k_asm)))))
  k_with "exec Assign cons ListComp" => (((first | (with_reducible show wpAny _ _ (exec (Stmt.Assign [Expr.Name (PySem.Str.ofString "tags") _] _ _) _) _ _ _) | (with_reducible show wpAny _ _ (exec (Stmt.Assign [Expr.Name (PySem.Str.ofString "coming") _] _ _) _) _ _ _) | (with_reducible show wpAny _ _ (exec (Stmt.Assign [Expr.Name (PySem.Str.ofString "hues") _] _ _) _) _ _ _) | (with_reducible show wpAny _ _ (exec (Stmt.Assign [Expr.Name (PySem.Str.ofString "lights") _] _ _) _) _ _ _)); k_dflt (refine wpAny_Assign_Name ?_)))
  trivial
example : True := by
  k_with "m memall" => (first | exact List.forall_mem_nil _ | (refine' List.forall_mem_cons.mpr ⟨⟨_, ?ma⟩, ?mb⟩; (case ma => k_mem); (case mb => k_extra "m memall")))
  k_with "m app" => ((refine' append_L ?zaF ?zaN ?zaU ?zah ?_; (case zaF => k_asm); (case zaN => k_asm); (case zaU => k_extra "m upd"); (case zah => (rw [sizeLine_eq]; (try simp only [List.length_append, List.length_cons, List.length_nil]); omega)); intro h' F' N'; (try dsimp only); (try k_sweep); k_extra "m foldN"))
  k_with "eval Subscript" => (k_dflt (refine Subscript_ ?_))
  k_with "spliced" => (((with_reducible show wpAny _ _ (spliced (backTo _ (starEach (Expr.Subscript _ _ _ :: _) _))) _ _ _); k_dflt (refine args_cons ?_)))
  trivial
theorem forth_specB (w : World) (P M : Addr) (p : PM) (sm : SM) (hp0 : PM.ok p) (hs0 : SM.ok sm) :
   PureB w 192 6 [.ref P, .ref M] (TabsAt P M p sm)
     (fun v tl => ∃ T BK KP lv ks nb nk n0 extra Ls ts, v = .ref T ∧ tl = (T, ({ cls := .type "tuple", data := .seq #[.ref BK, .ref KP] n0 } : Obj)) :: (KP, listOf ks.toArray nk) :: (BK, listOf lv.toArray nb) :: extra ∧ All2 (LevIn w extra) lv (List.reverse Ls) ∧ All2 (KeptIn extra) ks (List.reverse ts) ∧ FC p sm Ls ts ∧ ts.length = 3) := by
  w_top off
  refine' openCB [("pairs", .ref P), ("signs", .ref M)] (fun L' => [("signs", L' + 1)]) ?ho ?hcd ?hb ?hkind ?hnd ?c1 ?c2 ?c3 ?hcl ?_
  k_extra "m openC"
  rename Obj => o1
  obtain ⟨HP, HM⟩ := hpre
  repeat' ((fail_if_success (with_reducible show wpAny _ _ (PySem.storeName _ (PySem.Str.ofString "books") _) _ _ _)); k_extra "m go1")
  rename Addr => BK
  repeat' ((fail_if_success (with_reducible show wpAny _ _ (PySem.storeName _ (PySem.Str.ofString "kept") _) _ _ _)); k_extra "m go1")
  rename Addr => KP
  k_extra "m stepsR"
  rename Addr => J
  have nKB : @Ne Nat KP BK := by k_extra "m neq"
  have nKJ : @Ne Nat KP J := by k_extra "m neq"
  have nBJ : @Ne Nat BK J := by k_extra "m neq"
  refine' range_ind ["v", "three", "u", "step", "tag", "place"] _ (FInvX w (L' + 1, o1) BK KP J p sm) ?obase ?ostep _ _ _ _ (by rfl) ?oag ?oinv
  case oag => exact (by intro z _; rfl)
  case oinv =>
    refine ⟨[_], [], _, _, _, lev0 sm, [], [], rfl, ?hc, ?ho, .cons ⟨_, _, _, _, _, rfl, by k_mem, ⟨_, _, _, _, _, _, _, rfl, by k_mem, by k_mem, dict_nil (by assumption) (by assumption)⟩, ⟨_, _, _, _, _, _, _, rfl, by k_mem, by k_mem, dict_nil (by assumption) (by assumption)⟩, ⟨_, _, _, _, _, _, _, rfl, by k_mem, by k_mem, dict_nil (by assumption) (by assumption)⟩⟩ .nil, .nil, rfl, rfl⟩
    case hc => k_mem
    case ho => k_extra "m off"
  case obase =>
    intro news u hi h tk F1 N1
    refine byG (fun P9 hP9 => ?_)
    obtain ⟨lv, ks, nb, nk, X, L0, Ls, ts, rfl, hcX, hoX, hlv, hks, hfc, hts⟩ := hi
    refine hP9 ?_
    clear hP9 P9
    k_extra "m go"
    refine' hZ _ _ _ _ _ _ ⟨_, BK, KP, lv, ks, nb, nk, _, X, L0 :: Ls, ts, rfl, rfl, hlv, hks, hfc, hts⟩ ?F ?N ?s
    case F => k_asm
    case N => k_asm
    case s => exact List.forall_mem_cons.mpr ⟨by k_mem, fun q hq => .tail _ hq⟩
  case ostep =>
    intro i news u hi hinv t h tk F1 N1
    refine byG (fun P9 hP9 => ?_)
    obtain ⟨lv, ks, nb, nk, X, L0, Ls, ts, rfl, hcX, hoX, hlv, hks, hfc, hts⟩ := hinv
    obtain ⟨hlen, ⟨⟨b0a, b0b⟩, b0l⟩, ⟨⟨b1a, b1b⟩, b1l⟩, ⟨⟨b2a, b2b⟩, b2l⟩⟩ := FC_ok hp0 hs0 hfc
    rw [List.reverse_cons] at hlv
    obtain ⟨lv0, Bv, rfl, hlv0, hB⟩ := hlv.last
    have hl0 : lv0.length = i := by rw [hlv0.length, List.length_reverse, hlen, hts]
    have hk0 : ks.length = i := by rw [hks.length, List.length_reverse, hts]
    obtain ⟨B, nB, _, _, _, rfl, hBm, ⟨r0, f0, fo0, y00, y01, y02, y03, rfl, hr0, hf0, hD0⟩, ⟨r1, f1, fo1, y10, y11, y12, y13, rfl, hr1, hf1, hD1⟩, ⟨r2, f2, fo2, y20, y21, y22, y23, rfl, hr2, hf2, hD2⟩⟩ := hB
    have hts' := hts
    rw [hts'] at b0b b1b b2b b0l b1l b2l
    clear hts'
    refine hP9 ?_
    clear hP9 P9
    k_extra "m foldN"
    repeat' ((fail_if_success (with_reducible show wpAny _ _ (call (Value.builtin "list.append") _) _ _ _)); k_extra "m go1")
    rename Addr => NB
    k_extra "m go1"
    repeat' ((fail_if_success (with_reducible show wpAny _ _ (call (Value.builtin "list.append") _) _ _ _)); k_extra "m go1")
    rename Addr => NK
    k_extra "m go1"
    k_extra "m stepsR"
    rename Addr => I2
    have nNN : @Ne Nat NK NB := by k_extra "m neq"
    have nNI : @Ne Nat NK I2 := by k_extra "m neq"
    have nBI : @Ne Nat NB I2 := by k_extra "m neq"
    with_reducible rename OffD NB _ => qN
    with_reducible rename OffD NK _ => qK
    have hnb : OwnOff ((NB, o1) :: (NK, o1) :: []) [J, KP, BK] := OwnOff.lcons (offD_all qN (by k_extra "m memall")) (OwnOff.lcons (offD_all qK (by k_extra "m memall")) fun _ h => nomatch h)
    refine (let Y9 := (J, itR (1 + ((i + 1 : Nat) : Int)) ((3 : Nat) - ((i + 1 : Nat) : Int))) :: (KP, listOf (ks ++ [Value.ref NK]).toArray (nk + 1)) :: (BK, listOf (lv0 ++ [Value.ref B] ++ [Value.ref NB]).toArray (nb + 1)) :: X; ?_)
    have oY : OwnOff Y9 [NB, NK, I2] := by
      show OwnOff (_ :: _ :: _ :: X) _
      k_extra "m off"
    have oI2 : OwnOff ((NK, o1) :: (NB, o1) :: ([] ++ Y9)) [I2] := OwnOff.lcons (List.forall_mem_cons.mpr ⟨nNI, List.forall_mem_nil _⟩) (OwnOff.lcons (List.forall_mem_cons.mpr ⟨nBI, List.forall_mem_nil _⟩) (OwnOff.sub oY (fun _ h => h) (fun b hb => .tail _ (.tail _ hb))))
    refine' range_ind ["v", "three", "u", "step", "tag"] _ (FInner w [] Y9 NB NK [I2, J, KP, BK] p sm (1 + (i : Int)) L0) ?ibase ?istep _ _ _ _ (by rfl) ?iag ?iinv
    case iag => exact (by intro z _; rfl)
    case iinv => exact ⟨[], [], 0, 0, [], [], rfl, (fun _ h => nomatch h), .nil, .nil, rfl, fun v q h => by simp at h⟩
    case ibase =>
      intro news u' hi' h' tk' F3 N3
      refine byG (fun P9 hP9 => ?_)
      obtain ⟨bs, kv, k1, k2, nt, done, rfl, Hn, hbs, hkv, hdl, hdn⟩ := hi'
      refine hP9 ?_
      clear hP9 P9
      repeat' ((fail_if_success (with_reducible show UnrEnd _ _ _ _ _ _ _)); k_extra "m go1")
      rename Fr _ _ _ _ => F9
      rename News _ _ _ _ => N9
      refine' forth_placeX F9 N9 ?hag ?hn hoX hcX nKJ nBJ hbs hkv hdl hdn hlv hks hfc hts rfl
      case hag => k_extra "m agree"
      case hn => exact OwnOff.lcons (fun b hb => hnb _ (.head _) b hb) (OwnOff.lcons (fun b hb => hnb _ (.tail _ (.head _)) b hb) (OwnOff.sub Hn (fun _ h => h) (fun b hb => .tail _ (.tail _ (.tail _ hb)))))
    case istep =>
      intro j news u' hj hiv tj h' tk' F3 N3
      refine byG (fun P9 hP9 => ?_)
      obtain ⟨bs, kv, k1, k2, nt, done, rfl, Hn, hbs, hkv, hdl, hdn⟩ := hiv
      have hbl : bs.length = j := by rw [hbs.length, hdl]
      have hkl : kv.length = j := by rw [hkv.length, hdl]
      refine hP9 ?_
      clear hP9 P9
      have hWX : ∀ q ∈ X, q ∈ nt ++ Y9 := fun q hq => List.mem_append_right nt (.tail _ (.tail _ (.tail _ hq)))
      have mBK : (BK, listOf (lv0 ++ [Value.ref B] ++ [Value.ref NB]).toArray (nb + 1)) ∈ nt ++ Y9 := List.mem_append_right nt (.tail _ (.tail _ (.head _)))
      have mKP : (KP, listOf (ks ++ [Value.ref NK]).toArray (nk + 1)) ∈ nt ++ Y9 := List.mem_append_right nt (.tail _ (.head _))
      have oW : OwnOff (nt ++ Y9) [NB, NK, I2] := OwnOff.app (OwnOff.sub Hn (fun _ h => h) (fun b hb => by simp only [List.mem_cons, List.not_mem_nil, or_false] at hb ⊢; rcases hb with h | h | h <;> simp [h])) oY
      have mJ : (J, itR (1 + ((i + 1 : Nat) : Int)) ((3 : Nat) - ((i + 1 : Nat) : Int))) ∈ nt ++ Y9 := List.mem_append_right nt (.head _)
      have mc := hWX _ hcX
      have mB := hWX _ hBm
      have mr0 := hWX _ hr0
      have mf0 := hWX _ hf0
      have mr1 := hWX _ hr1
      have mf1 := hWX _ hf1
      have mr2 := hWX _ hr2
      have mf2 := hWX _ hf2
      dsimp only [List.nil_append] at N3
      generalize hW : nt ++ Y9 = W at N3 mBK mKP mJ oW mc mB mr0 mf0 mr1 mf1 mr2 mf2
      have vb0 := PM.at_bd hp0 (0 + ((0 : Nat) : Int)) (0 + (j : Int))
      have vb1 := PM.at_bd hp0 (0 + ((0 + 1 : Nat) : Int)) (0 + (j : Int))
      have vb2 := PM.at_bd hp0 (0 + ((0 + 1 + 1 : Nat) : Int)) (0 + (j : Int))
      k_extra "m foldN"
      repeat' ((fail_if_success (with_reducible show wpAny _ _ (PySem.storeName _ (PySem.Str.ofString "three") _) _ _ _)); k_extra "m go1")
      rename Addr => TH
      k_extra "m stepsR"
      rename Addr => U2
      have nTU : @Ne Nat TH U2 := by k_extra "m neq"
      with_reducible rename OffD U2 _ => qU
      with_reducible rename OffD TH _ => qT
      have oLT : OwnOff ((I2, itR (0 + ((j + 1 : Nat) : Int)) ((3 : Nat) - ((j + 1 : Nat) : Int))) :: (NK, listOf kv.toArray k1) :: (NB, listOf bs.toArray k2) :: W) [TH, U2] := fun q hq => List.forall_mem_cons.mpr ⟨qT q hq, List.forall_mem_cons.mpr ⟨qU q (.tail _ hq), List.forall_mem_nil _⟩⟩
      refine' range_ind ["u", "step"] _ (fun k _ n' => UInv w p L0 (0 + (j : Int)) TH [TH, U2, NB, NK] ((I2, itR (0 + ((j + 1 : Nat) : Int)) ((3 : Nat) - ((j + 1 : Nat) : Int))) :: (NK, listOf kv.toArray k1) :: (NB, listOf bs.toArray k2) :: W) k n') ?ubase ?ustep _ _ _ _ (by rfl) ?uag ⟨[], 0, rfl, rfl, trivial⟩
      case uag => exact (by intro z _; rfl)
      case ustep =>
        clear vb0 vb1 vb2 mKP mJ mc
        intro k news u9 hk hiv t9 h9 tk9 F5 N5
        refine byG (fun P9 hP9 => ?_)
        obtain ⟨rows, n9, rfl, hrl, hok⟩ := hiv
        obtain ⟨bk9, r9, f9, fo9, z0, z1, z2, z3, hLa, hx9, mr9, mf9, hD9, hl9⟩ := books_at mr0 mf0 hD0 b0l mr1 mf1 hD1 b1l mr2 mf2 hD2 b2l hk
        refine hP9 ?_
        have hrl2 : (uRef rows).length = k := (uRef_len rows).trans hrl
        clear hP9 P9 mr0 mf0 hD0 b0l mr1 mf1 hD1 b1l mr2 mf2 hD2 b2l
        have hsW : ∀ q ∈ W, q ∈ uObj p L0 (0 + (j : Int)) rows ++ ((I2, itR (0 + ((j + 1 : Nat) : Int)) ((3 : Nat) - ((j + 1 : Nat) : Int))) :: (NK, listOf kv.toArray k1) :: (NB, listOf bs.toArray k2) :: W) := fun q hq => List.mem_append_right _ (.tail _ (.tail _ (.tail _ hq)))
        replace mr9 := hsW _ mr9
        replace mf9 := hsW _ mf9
        replace mB := hsW _ mB
        replace mBK := hsW _ mBK
        have oOT : OwnOff (uObj p L0 (0 + (j : Int)) rows ++ ((I2, itR (0 + ((j + 1 : Nat) : Int)) ((3 : Nat) - ((j + 1 : Nat) : Int))) :: (NK, listOf kv.toArray k1) :: (NB, listOf bs.toArray k2) :: W)) [TH, U2] := OwnOff.app (OwnOff.sub (UOk.off hok) (fun _ h => h) (fun b hb => List.mem_append_left [NB, NK] hb)) oLT
        have hOT : ∀ q ∈ uObj p L0 (0 + (j : Int)) rows ++ ((I2, itR (0 + ((j + 1 : Nat) : Int)) ((3 : Nat) - ((j + 1 : Nat) : Int))) :: (NK, listOf kv.toArray k1) :: (NB, listOf bs.toArray k2) :: W), q ∈ uObj p L0 (0 + (j : Int)) rows ++ ((I2, itR (0 + ((j + 1 : Nat) : Int)) ((3 : Nat) - ((j + 1 : Nat) : Int))) :: (NK, listOf kv.toArray k1) :: (NB, listOf bs.toArray k2) :: W) := fun _ h => h
        have oKK : OwnOff (uObj p L0 (0 + (j : Int)) rows ++ ((I2, itR (0 + ((j + 1 : Nat) : Int)) ((3 : Nat) - ((j + 1 : Nat) : Int))) :: (NK, listOf kv.toArray k1) :: (NB, listOf bs.toArray k2) :: W)) [] := fun _ _ _ h => nomatch h
        have mNK : (NK, listOf kv.toArray k1) ∈ uObj p L0 (0 + (j : Int)) rows ++ ((I2, itR (0 + ((j + 1 : Nat) : Int)) ((3 : Nat) - ((j + 1 : Nat) : Int))) :: (NK, listOf kv.toArray k1) :: (NB, listOf bs.toArray k2) :: W) := List.mem_append_right _ (.tail _ (.head _))
        have mNB : (NB, listOf bs.toArray k2) ∈ uObj p L0 (0 + (j : Int)) rows ++ ((I2, itR (0 + ((j + 1 : Nat) : Int)) ((3 : Nat) - ((j + 1 : Nat) : Int))) :: (NK, listOf kv.toArray k1) :: (NB, listOf bs.toArray k2) :: W) := List.mem_append_right _ (.tail _ (.tail _ (.head _)))
        clear hsW oKK
        generalize hOTe : uObj p L0 (0 + (j : Int)) rows ++ ((I2, itR (0 + ((j + 1 : Nat) : Int)) ((3 : Nat) - ((j + 1 : Nat) : Int))) :: (NK, listOf kv.toArray k1) :: (NB, listOf bs.toArray k2) :: W) = OT at N5 mr9 mf9 mB mBK oOT hOT mNK mNB
        rw [← hOTe] at hOT
        generalize hbv : [Value.ref r0, .ref r1, .ref r2] = bv at mB hx9
        k_extra "m foldN"
        repeat' ((fail_if_success (with_reducible show wpAny _ _ (subscriptTail _ (Expr.Name (PySem.Str.ofString "u") _) (Value.ref _) _) _ _ _)); k_extra "m go1")
        refine' item_symF ?i1 ?i2 ?i3 hx9 ?_ ?i6
        case i1 => k_asm
        case i2 => k_mem
        case i3 => clear hx9 hl9 hrl hLa; omega
        case i6 => with_unfolding_all rfl
        repeat' ((fail_if_success (with_reducible show wpAny _ _ (call (Value.builtin "list.append") _) _ _ _)); k_extra "m go1")
        k_extra "m app"
        repeat' ((fail_if_success (with_reducible show UnrEnd _ _ _ _ _ _ _)); k_extra "m go1")
        rename Fr _ _ _ _ => F9
        rename News _ _ _ _ => N9
        refine' u_turn (W := (I2, itR (0 + ((j + 1 : Nat) : Int)) ((3 : Nat) - ((j + 1 : Nat) : Int))) :: (NK, listOf kv.toArray k1) :: (NB, listOf bs.toArray k2) :: W) (keys := [TH, U2, NB, NK]) F9 N9 ?uI ?uT ?ua ?uc ?uO hLa rfl hrl hok ?uD ?uf (.tail _ (.head _)) nTU (OwnOff.sub oLT (fun _ h => h) (fun b hb => .tail _ hb)) ?ug
        case uI => k_mem
        case uT => k_mem
        case ua => k_mem
        case uc => k_mem
        case uO => rw [hOTe]; k_extra "m tails"
        case uD => assumption
        case uf => k_extra "m offAll"
        case ug => k_extra "m agree"
      case ubase =>
        intro news u9 hi9 h9 tk9 F5 N5
        refine byG (fun P9 hP9 => ?_)
        obtain ⟨rows, n9, rfl, hrl, hok⟩ := hi9
        obtain ⟨⟨a0, c0, o09, x01, x02, x03, x04⟩, ⟨a1, c1, o19, x11, x12, x13, x14⟩, ⟨a2, c2, o29, x21, x22, x23, x24⟩, rfl, D2, g2, D1, g1, D0, g0, _⟩ := u_three hrl hok
        have N6 := Mine.News.sub N5 (l' := (a2, tupO [.int (1 + L0.2.2.cc) x21, .int (p.at (0 + ((0 + 1 + 1 : Nat) : Int)) (0 + (j : Int)) + L0.2.2.nc) x22, .int (0 + L0.2.2.tt) x23, .int (p.at (0 + ((0 + 1 + 1 : Nat) : Int)) (0 + (j : Int)) + L0.2.2.ct) x24, .ref c2]) :: (c2, o29) :: (a1, tupO [.int (1 + L0.2.1.cc) x11, .int (p.at (0 + ((0 + 1 : Nat) : Int)) (0 + (j : Int)) + L0.2.1.nc) x12, .int (0 + L0.2.1.tt) x13, .int (p.at (0 + ((0 + 1 : Nat) : Int)) (0 + (j : Int)) + L0.2.1.ct) x14, .ref c1]) :: (c1, o19) :: (a0, tupO [.int (1 + L0.1.cc) x01, .int (p.at (0 + ((0 : Nat) : Int)) (0 + (j : Int)) + L0.1.nc) x02, .int (0 + L0.1.tt) x03, .int (p.at (0 + ((0 : Nat) : Int)) (0 + (j : Int)) + L0.1.ct) x04, .ref c0]) :: (c0, o09) :: (TH, listOf #[.ref a0, .ref a1, .ref a2] n9) :: ((I2, itR (0 + ((j + 1 : Nat) : Int)) ((3 : Nat) - ((j + 1 : Nat) : Int))) :: (NK, listOf kv.toArray k1) :: (NB, listOf bs.toArray k2) :: W)) u_mv
        dsimp only at g0 g1 g2
        refine hP9 ?_
        clear hP9 P9 N5 hrl
        k_extra "m foldN"
        repeat' ((fail_if_success (with_reducible show wpAny _ _ (PySem.storeName _ (PySem.Str.ofString "tag") _) _ _ _)); k_extra "m go1")
        with_reducible rename News _ _ _ _ => N9
        with_reducible rename (_ = (0 : Int) ∧ _ ∧ _) ∨ _ => P9
        have pk := pick_book (i := i) (keys := [NB, NK]) N9 P9 D0 D1 D2 b0l b1l b2l (OwnOff.sub g0 (fun _ h => h) fun b hb => .tail _ (.tail _ hb)) (OwnOff.sub g1 (fun _ h => h) fun b hb => .tail _ (.tail _ hb)) (OwnOff.sub g2 (fun _ h => h) fun b hb => .tail _ (.tail _ hb)) rfl
        clear P9 N9
        obtain ⟨X9, XD9, oX9, y1, y2, y3, y4, ⟨N10, dX9, hx9, hg9, hb9, hl9, ho9⟩⟩ := pk
        k_extra "m foldN"
        repeat' ((fail_if_success (with_reducible show wpAny _ _ (call (Value.builtin "list.append") _) _ _ _)); k_extra "m go1")
        k_extra "m app"
        repeat' ((fail_if_success (with_reducible show wpAny _ _ (call (Value.builtin "list.append") _) _ _ _)); k_extra "m go1")
        k_extra "m app"
        repeat' ((fail_if_success (with_reducible show UnrEnd _ _ _ _ _ _ _)); k_extra "m go1")
        rename Fr _ _ _ _ => F9
        rename News _ _ _ _ => N9
        refine' forth_turn (BASE := []) (extra := Y9) (nt := nt) F9 N9 ?hI ?hNK ?hNB ?hBASE ?hnt ?hX ?hXD ?fX oI2 ?hag Hn hbs hkv hdl hdn ?dX ?e hb9
        case hI => k_mem
        case hNK => k_mem
        case hNB => k_mem
        case hBASE => exact fun _ h => nomatch h
        case hnt => rw [hW]; k_extra "m tails"
        case hX => k_mem
        case hXD => k_mem
        case fX => exact offD_all2 oa' oc' (by k_extra "m memall")
        case hag => k_extra "m agree"
        case dX => assumption
        case e => rfl
example : True := by
  k_with "m evI" => (((fail_if_success k_extra "inA"); ((with_reducible apply Ev.it3); (first | k_extra "m evN" | k_extra "m evR"); k_asm; k_mem; (k_extra "m evI"); (with_reducible assumption); (exact fun _ _ _ => by with_unfolding_all rfl))))
  trivial
theorem ahead_specB (w : World) (P M : Addr) (p : PM) (sm : SM) (hp0 : PM.ok p) (hs0 : SM.ok sm) :
   PureB w 197 5 [.ref P, .ref M] (TabsAt P M p sm)
     (fun v tl => ∃ AH vs k extra done, v = .ref AH ∧ tl = extra ∧ (AH, listOf vs.toArray k) ∈ extra ∧ All2 (TripIn extra) vs done ∧ AF p sm done ∧ done.length = 4) := by
  w_top off
  refine' openCB [("pairs", .ref P), ("signs", .ref M)] (fun L' => [("coming", L' + 5), ("place", L' + 4), ("ahead", L' + 3), ("signs", L' + 2), ("pairs", L' + 1)]) ?ho ?hcd ?hb ?hkind ?hnd ?c1 ?c2 ?c3 ?hcl ?_
  k_extra "m openC"
  rename_i oC oPl oA oS oP dC dPl dA dS dP
  obtain ⟨HP, HM⟩ := hpre
  k_extra "m foldN"
  repeat' ((fail_if_success (with_reducible show wpAny _ _ (PySem.storeName _ (PySem.Str.ofString "ahead") _) _ _ _)); k_extra "m go1")
  rename Addr => AH
  repeat' ((fail_if_success (with_reducible show wpAny _ _ (pyIter _) _ _ _)); k_extra "m go1")
  rename Addr => TU
  k_extra "m stepsI"
  rename Addr => I
  refine items_sub (news' := (L' + 5, _) :: (L' + 4, _) :: (L' + 3, _) :: (TU, tupO [.int 3 t1', .int 2 t2', .int 1 t3']) :: ([(L' + 2, oS), (L' + 1, oP)] ++ [(AH, listOf #[.ref _] _), (_, listOf #[.int 0 _, .int 0 _, .int 0 _] _)])) (by k_extra "m sub") ?_
  have nTI : @Ne Nat TU I := by k_extra "m neq"
  have hI0 : ∀ b ∈ [TU, L' + 5, L' + 4, L' + 3, L' + 2, L' + 1], @Ne Nat I b := by k_extra "m allne"
  have hT0 : ∀ b ∈ [L' + 5, L' + 4, L' + 3, L' + 2, L' + 1], @Ne Nat TU b := by k_extra "m allne"
  refine list_ind (fun v (q : Int × Tok) => v = .int q.1 q.2) [] m0' (fun r _ n' => AInvX (L' + 5) (L' + 4) (L' + 3) [(L' + 2, oS), (L' + 1, oP)] TU (tupO [.int 3 t1', .int 2 t2', .int 1 t3']) [I, TU, L' + 5, L' + 4, L' + 3, L' + 2, L' + 1] p sm r n') ?base ?step _ [(3, _), (2, _), (1, _)] _ _ (.cons rfl (.cons rfl (.cons rfl .nil))) ?ag ?inv
  case ag => exact (by intro z _; rfl)
  case inv =>
    refine ⟨_, _, _, _, _, AH, [.ref _], _, _, [(0, 0, 0)], dC, dPl, by assumption, rfl, .head _, ?h1, .cons ⟨_, _, _, _, _, rfl, .tail _ (.head _)⟩ .nil, rfl, rfl, ?h2, ?h3, ?h4⟩
    case h1 =>
      refine OwnOff.lcons ?e1 (OwnOff.lcons ?e2 ownOff_none)
      case e1 => k_extra "m allne"
      case e2 => k_extra "m allne"
    case h2 => intro q hq; simp at hq ⊢; rw [← hq]
    case h3 => intro q hq; simp at hq ⊢; rw [← hq]
    case h4 => intro q hq; simp at hq ⊢; rw [← hq]
  case base =>
    intro news u hi h tk F1 N1
    refine byG (fun P9 hP9 => ?_)
    obtain ⟨oC', oP', oA', vC, vP, AH', vs, k', extra, done, eC, eP, eA, rfl, hAH, Hx, hall, haf, hlen, _, _, _⟩ := hi
    refine hP9 ?_
    clear hP9 P9
    dsimp only [List.cons_append, List.nil_append] at N1
    k_extra "m foldN"
    k_extra "m go"
    refine' hZ _ _ _ _ _ _ ⟨AH', vs, k', extra, done, rfl, rfl, hAH, hall, haf, by simpa using hlen⟩ ?F ?N ?s
    case F => k_asm
    case N => k_asm
    case s => k_extra "m tails"
  case step =>
    intro v q r news u hv hi h tk F1
    refine byG (fun P9 hP9 => ?_)
    obtain ⟨x, tt'⟩ := q
    obtain ⟨oC', oP', oA', vC, vP, AH', vs, k', extra, done, eC, eP, eA, rfl, hAH, Hx, hall, haf, hlen, g0, g1, g2⟩ := hi
    match done, haf, hall, hlen with
    | A0 :: dn, haf, hall, hlen =>
    match vs, hall, hAH with
    | v0 :: vr, hall, hAH =>
    have hA0 := AF_ok hp0 hs0 haf
    obtain ⟨R0', nR, y0, y1, y2, e0, hR0⟩ : TripIn extra v0 A0 := by cases hall with | cons r _ => exact r
    subst e0
    have hx : x = 3 - (dn.length : Int) := by
      have := g0 (x, tt') rfl
      simp at this hlen
      omega
    have hdn : dn.length ≤ 2 := by simp at hlen; omega
    have hvr : vr.length = dn.length := by have := hall.length; simpa using this
    obtain ⟨⟨q1, q2⟩, ⟨q3, q4⟩, ⟨q5, q6⟩⟩ := hA0
    have hx0 : 0 ≤ x ∧ x < 4 := by omega
    have hq1 : A0.1 ≤ 20 := by omega
    have hq3 : A0.2.1 ≤ 20 := by omega
    have hq5 : A0.2.2 ≤ 20 := by omega
    dsimp only at hv
    subst hv
    refine hP9 ?_
    clear hP9 P9
    refine AllObj.cons (fun o' hc' => ?_)
    refine AllObj.nil (fun N' => ?_)
    dsimp only [List.cons_append, List.nil_append] at N'
    k_fold
    k_extra "m foldN"
    repeat' ((fail_if_success (with_reducible show LCg.CompRest _ _ _ _ _ _ _ _ _ _ _ _ _ _ _ _ _ _ _)); k_extra "m go1")
    have b1 := fun v => SM.at_bd hs0 x v
    k_dflt (refine' cr_ints3 (f := fun v => sm.at x v + pick3 A0.1 A0.2.1 A0.2.2 v) trivial ?turn ?fin)
    case turn =>
      intro u t' I oI C oC D oD m₂ h₁ E' hu hC' hx' F2 N2
      k_extra "m evI"
    case fin =>
    intro s1 s2 s3
    repeat' ((fail_if_success (with_reducible show CRest _ _ _ _ _ _ _ _ _ _ _ _ _ _ _ _ _ _ _)); k_extra "m go1")
    k_dflt (refine' crc_some3 (R := fun u y => y = mx3 (p.at u 0 + (sm.at x 0 + A0.1)) (p.at u 1 + (sm.at x 1 + A0.2.1)) (p.at u 2 + (sm.at x 2 + A0.2.2))) trivial ?turn ?fin)
    case turn =>
      intro u t' I oI C oC c oc D oD h₁ tk E' hu hc F2 N2
      have b2 := fun v => PM.at_bd hp0 u v
      k_extra "m foldN"
      repeat' ((fail_if_success (with_reducible show LCg.CompRest _ _ _ _ _ _ _ _ _ _ _ _ _ _ _ _ _ _ _)); k_extra "m go1")
      k_dflt (refine' cr_ints3 (f := fun v => p.at u v + pick3 (sm.at x 0 + A0.1) (sm.at x 1 + A0.2.1) (sm.at x 2 + A0.2.2) v) trivial ?tur2 ?fi2)
      case tur2 =>
        intro v t' I oI C oC D oD m₂ h₁ E' hv hC' hx' F2 N2
        k_extra "m evI"
      case fi2 =>
        intro s4 s5 s6
        repeat' ((fail_if_success (with_reducible show wpAny _ _ (call (Value.ref _) _) _ _ _)); k_extra "m go1")
        repeat' ((fail_if_success (with_reducible show SomeInt _ _ _ _ _ _ _ _ _ _)); k_extra "m go1")
        with_reducible rename Fr _ _ _ _ => F9
        with_reducible rename News _ _ _ _ => N9
        exact ⟨_, _, _, _, rfl, rfl, rfl, F9, Mine.News.sub N9 (by k_extra "m tails")⟩
    case fin =>
    intro x0 x1 x2 t0 t1 t2 r0 r1 r2
    repeat' ((fail_if_success (with_reducible show UnrEndW _ _ _ _ _ _)); k_extra "m go1")
    rename Fr _ _ _ _ => F9
    rename News _ _ _ _ => N9
    refine' ahead_turnX F9 N9 ?hI ?hC ?hP ?hA ?hTU ?hPINS ?hex ?hAH ?hR ?fR ?fA ?dC ?dP ?dA ?hag Hx rfl ?hIk hall haf hlen g0 g1 g2 ?ex
    case hI => k_mem
    case hC => k_mem
    case hP => k_mem
    case hA => k_mem
    case hTU => k_mem
    case dC => assumption
    case dP => assumption
    case dA => assumption
    case hAH => k_mem
    case hR => k_mem
    case hPINS => k_extra "m sub"
    case hex => k_extra "m tails"
    case fR => k_extra "m allne"
    case fA => k_extra "m allne"
    case hag => exact (by intro z _; rfl)
    case hIk => exact fun b hb => (hI0 b hb).symm
    case ex => (show (_, _, _) = _; rw [r0, r1, r2]; rfl)
example : True := by
  k_with "m evI" => (((fail_if_success k_extra "inA"); ((with_reducible apply Ev.it4); (k_extra "m evN"); k_asm; k_mem; (k_extra "m evI"); (with_reducible assumption); (exact fun _ _ _ => by with_unfolding_all rfl))))
  trivial
theorem due_specB (w : World) (P M : Addr) (p : PM) (sm : SM) (tw : Tok) (a b c d : Int) (ha : 0 ≤ a ∧ a < 3) (hb : 0 ≤ b ∧ b < 3) (hc : 0 ≤ c ∧ c < 3) (hd' : 0 ≤ d ∧ d < 3) :
   PureB w 219 4 [.ref P, .ref M, .str (tx [a, b, c, d]) tw] (TabsAt P M p sm)
     (fun v tl => ∃ T C o x1 x2 x3 x4 al sh, v = .ref T ∧ tl = [(T, tupO [.int 3 x1, .int al x2, .int sh x3, .int (al + sh) x4, .ref C]), (C, o)] ∧ DictIs w C o (dueD a b c d) ∧ al = p.at a b + p.at b c + p.at c d ∧ sh = sm.at 0 a + sm.at 1 b + sm.at 2 c + sm.at 3 d) := by
  w_top off
  refine' openCB [("pairs", .ref P), ("meant", .ref M), ("way", .str (tx [a, b, c, d]) tw)] (fun L' => [("tags", L' + 3), ("meant", L' + 2), ("pairs", L' + 1)]) ?ho ?hcd ?hb ?hkind ?hnd ?c1 ?c2 ?c3 ?hcl ?_
  k_extra "m openC"
  obtain ⟨HP, HM⟩ := hpre
  repeat' ((fail_if_success (with_reducible show LCg.CompRest _ _ _ _ _ _ _ _ _ _ _ _ _ _ _ _ _ _ _)); k_extra "m go1")
  k_dflt (refine' cr_str4 trivial ha hb hc hd' ?turn ?fin)
  case turn =>
    intro u t' I oI C oC D oD m₂ h₁ E' hu hC' hx' F2 N2
    refine .mk fun Q tk k => ?_
    k_extra "m go"
    exact k _ _
  case fin =>
    intro t1 t2 t3 t4
    repeat' ((fail_if_success (with_reducible show LCg.CompRest _ _ _ _ _ _ _ _ _ _ _ _ _ _ _ _ _ _ _)); k_extra "m go1")
    k_dflt (refine' cr_ints3 (f := fun k => p.at (pick4 a b c d k) (pick4 a b c d (k + 1))) trivial ?turn ?fin)
    case turn =>
      intro u t' I oI C oC D oD m₂ h₁ E' hu hC' hx' F2 N2
      have g1 := pick4_dig (v := u) ha hb hc hd'
      have g2 := pick4_dig (v := u + 1) ha hb hc hd'
      have g3 : 0 ≤ u ∧ u < 4 := ⟨hu.1, by omega⟩
      have g4 : 0 ≤ u + 1 ∧ u + 1 < 4 := ⟨by omega, by omega⟩
      k_extra "m evI"
    case fin =>
      intro t5 t6 t7
      repeat' ((fail_if_success (with_reducible show LCg.CompRest _ _ _ _ _ _ _ _ _ _ _ _ _ _ _ _ _ _ _)); k_extra "m go1")
      k_dflt (refine' cr_ints4 (f := fun k => sm.at k (pick4 a b c d k)) trivial ?turn ?fin)
      case turn =>
        intro u t' I oI C oC D oD m₂ h₁ E' hu hC' hx' F2 N2
        have g1 := pick4_dig (v := u) ha hb hc hd'
        k_extra "m evI"
      case fin =>
        intro t8 t9 u1 u2
        k_extra "m go"
        refine' hZ _ _ _ _ _ _ ⟨_, _, _, _, _, _, _, _, _, rfl, rfl, ⟨by assumption, ⟨_, by assumption, cast_flat (by assumption) (due_pd (by assumption) (by assumption))⟩, dueD_nodup a b c d⟩, ?p1, ?p2⟩ ?F ?N ?s
        case F => k_asm
        case N => k_asm
        case s => k_extra "m sub"
        case p1 => rfl
        case p2 => rfl
example : True := by
  k_with "UnrEnd" => (((fail_if_success k_extra "inA"); ((with_reducible rename Fr _ _ _ _ => F9); (with_reducible rename News _ _ _ _ => N9); k_dflt (refine' rturn1 F9 N9 ?off ?_; (case off => k_extra "m alloff")))))
  trivial
theorem ways_specB (w : World) (P M : Addr) (p : PM) (sm : SM) :
   PureB w 209 4 [.ref P, .ref M] (TabsAt P M p sm)
     (fun v tl => ∃ W vs k tups, v = .ref W ∧ tl = (W, listOf vs.toArray k) :: tups ∧ All2 (WayL tups) vs (waysF p sm 3)) := by
  w_top off
  refine' openCB [("pairs", .ref P), ("meant", .ref M)] (fun L' => [("meant", L' + 1)]) ?ho ?hcd ?hb ?hkind ?hnd ?c1 ?c2 ?c3 ?hcl ?_
  k_extra "m openC"
  rename Obj => o1
  obtain ⟨HP, HM⟩ := hpre
  k_extra "m stepsR"
  rename Addr => J
  refine' range_ind ["ways", "longer", "way", "worth", "u", "v", "place"] _ (WInvX (L' + 1, o1) J p sm) ?obase ?ostep _ _ _ _ (by rfl) ?oag ?oinv
  case oag => exact (by intro z _; rfl)
  case oinv =>
    refine ⟨_, [.ref _, .ref _, .ref _], _, _, rfl, rfl, ?hc, ?ho, ?hne, .cons ⟨_, _, _, rfl, by k_mem⟩ (.cons ⟨_, _, _, rfl, by k_mem⟩ (.cons ⟨_, _, _, rfl, by k_mem⟩ .nil))⟩
    case hc => k_mem
    case hne => k_extra "m neq"
    case ho => k_extra "m off"
  case obase =>
    intro news u hi h tk F1 N1
    refine byG (fun P9 hP9 => ?_)
    obtain ⟨WS', vs, kk, X, hm, rfl, hcX, hoX, hne, hall⟩ := hi
    rw [set_eq hm] at F1
    refine hP9 ?_
    clear hP9 P9
    k_extra "m go"
    refine' hZ _ _ _ _ _ _ ⟨WS', vs, kk, X, rfl, rfl, hall⟩ ?F ?N ?s
    case F => k_asm
    case N => k_asm
    case s => exact fun q hq => hq
  case ostep =>
    intro i news u hi hinv t h tk F1 N1
    refine byG (fun P9 hP9 => ?_)
    obtain ⟨WS', vs, kk, X, hm, rfl, hcX, hoX, hne, hall⟩ := hinv
    rw [set_eq hm] at F1
    refine hP9 ?_
    clear hP9 P9
    k_extra "m foldN"
    repeat' ((fail_if_success (with_reducible show wpAny _ _ (PySem.storeName _ (PySem.Str.ofString "longer") _) _ _ _)); k_extra "m go1")
    rename Addr => LG
    k_extra "m stepsR"
    (with_unfolding_all refine iter_listTurns (lo := listOf vs.toArray kk) (vs := vs) (by rfl) (by k_asm) (by k_asm) (by k_mem) (by rfl) (by rfl) ?_)
    intro I lI
    replace lI := OffD.of lI
    have nLI : @Ne Nat LG I := by k_extra "m neq"
    refine (let Y9 := (J, itR (1 + ((i + 1 : Nat) : Int)) ((3 : Nat) - ((i + 1 : Nat) : Int))) :: (WS', listOf vs.toArray kk) :: X; ?_)
    have oY : OwnOff Y9 [LG, I] := by
      show OwnOff (_ :: _ :: X) _
      k_extra "m off"
    refine' list_ind (WayL X) ["way", "worth", "u", "v"] _ (fun r _ n' => WInnerX Y9 LG [LG, I, J, WS'] p sm i r n') ?ibase ?istep vs _ _ _ hall ?iag ?iinv
    case iag => exact (by intro z _; rfl)
    case iinv => exact ⟨[], 0, [], [], rfl, (fun _ h => nomatch h), .nil, rfl⟩
    case ibase =>
      intro news u' hi' h' tk' F3 N3
      refine byG (fun P9 hP9 => ?_)
      obtain ⟨gs, kk', nt, done, rfl, Hn, hal, hdone⟩ := hi'
      rw [List.append_nil] at hdone
      rw [hdone] at hal
      refine hP9 ?_
      clear hP9 P9
      repeat' ((fail_if_success (with_reducible show UnrEnd _ _ _ _ _ _ _)); k_extra "m go1")
      rename Fr _ _ _ _ => F9
      rename News _ _ _ _ => N9
      refine' ways_placeX F9 N9 ?hm ?hag Hn oY hoX hcX hal
      case hm => rfl
      case hag => k_extra "m agree"
    case istep =>
      intro v q r news u' hv hi' h' tk' F3
      refine byG (fun P9 hP9 => ?_)
      obtain ⟨ls, uu, wv⟩ := q
      obtain ⟨d, tw, uw, rfl, hd⟩ := hv
      obtain ⟨gs, kk', nt, done, rfl, Hn, hal, hdone⟩ := hi'
      obtain ⟨hl1, hl2, hl3⟩ := waysF_len p sm i (ls, uu, wv) (by rw [← hdone]; simp)
      dsimp only at hl1 hl2 hl3 hd
      have hgs := gs_len hi hal hdone
      refine hP9 ?_
      clear hP9 P9
      refine AllObj.cons (fun o' hc' => ?_)
      refine AllObj.nil (fun N' => ?_)
      have md : (d, tupO [.str (tx (ls ++ [uu])) tw, .int wv uw]) ∈ nt ++ Y9 := List.mem_append_right nt (.tail _ (.tail _ hd))
      have mc : _ ∈ nt ++ Y9 := List.mem_append_right nt (.tail _ (.tail _ hcX))
      have mJ : (J, itR (1 + ((i + 1 : Nat) : Int)) ((3 : Nat) - ((i + 1 : Nat) : Int))) ∈ nt ++ Y9 := List.mem_append_right nt (.head _)
      have mW : (WS', listOf vs.toArray kk) ∈ nt ++ Y9 := List.mem_append_right nt (.tail _ (.head _))
      have oW : OwnOff (nt ++ Y9) [LG, I] := OwnOff.app (OwnOff.sub Hn (fun _ h => h) (fun b hb => by simp only [List.mem_cons, List.not_mem_nil, or_false] at hb ⊢; rcases hb with h | h <;> simp [h])) oY
      dsimp only [List.cons_append, List.nil_append] at N'
      generalize hW : nt ++ Y9 = W at N' md mc mJ mW oW
      (try k_fold)
      k_extra "m foldN"
      repeat' ((fail_if_success (with_reducible show UnrEndW _ _ _ _ _ _)); k_extra "m go1")
      rename Fr _ _ _ _ => F9
      rename News _ _ _ _ => N9
      refine' ways_turnX (y0 := o') (y1 := o') (y2 := o') (i := i) (nt := nt) (Y := Y9) (keys := [LG, I, J, WS']) (WS := WS') F9 N9 ?hI ?hLG ?h0 ?h1 ?h2 ?hW ?fD (.tail _ (.head _)) (OwnOff.sub oY (fun _ h => h) (fun b hb => .tail _ hb)) nLI (.tail _ (.head _)) ?e ?hag Hn hal hdone
      case hI => k_mem
      case hLG => k_mem
      case h0 => k_mem
      case h1 => k_mem
      case h2 => k_mem
      case e => exact ⟨rfl, rfl, rfl, rfl, rfl, rfl⟩
      case hW => rw [hW]; k_extra "m tails"
      case fD => k_extra "m offAll"
      case hag => k_extra "m agree"
end Mine
end
section
namespace Mine
example : True := by
  k_with "inA" => (skip)
  trivial
local macro_rules | `(tactic| k_ne) => `(tactic| k_extra "m nescan")
local macro_rules | `(tactic| k_inst) => `(tactic| (refine' inst_acc ?N ?h1 ?h2; (case N => k_asm); (case h1 => k_mem); (case h2 => k_mem)))
local macro_rules | `(tactic| k_room) => `(tactic| ktr_room)
local macro_rules | `(tactic| k_all) => `(tactic| k_extra "m offscan")
local macro_rules | `(tactic| k_all) => `(tactic| (refine allLt_ne ?_; simp only [AllLt, and_true]; with_reducible assumption))
local macro_rules | `(tactic| k_ne) => `(tactic| with_reducible first | assumption | (refine Ne.symm ?_; assumption))
example : True := by
  k_with "subscriptTail Name Slice ref ref" => ((k_here; (with_reducible show wpAny _ _ (subscriptTail _ (PySem.Expr.Slice _ _ (some _) _) (Value.ref _) (Value.ref _)) _ _ _); k_dflt (refine' slice3_any ?F ?N ?l ?i ?p ?q ?k ?o ?_ ?s ?t ?z; (case F => k_asm); (case N => k_asm); (case l => kmk_list); (case i => assumption); (case p => kmk_part); (case q => kmk_part); (case k => kmk_part); (case o => decide); (case s => with_unfolding_all rfl); (case t => kmk_pure); (case z => omega)); intro D' ws' ms' h' F' N' l1 i9'; (try k_lt l1); (try k_sweep)))
  k_with "call ref" => ((k_here; (with_reducible show wpAny _ _ (call (Value.ref 166) _) _ _ _); k_dflt (refine' Pure.use (signs_spec _ _ _ _ _ _ _ _ _ _ _ _ _ ?e1 ?e2 ?e3 ?e4) (by k_asm) (by k_asm) (by k_asm) (by k_asm) (by k_asm) (by first | exact rfl | assumption) (by k_extra "m sub") (by ktr_room) (by ktr_units) ?_; (case e1 => assumption); (case e2 => assumption); (case e3 => assumption); (case e4 => assumption)); intro v' tl' h' tk' F' N' ne' P'; refine byG (fun P9 hP9 => ?_); obtain ⟨B9', b0', b1', b2', b3', n9', u00', u01', u02', u10', u11', u12', u20', u21', u22', u30', u31', u32', e1', e2'⟩ := P'; subst e1' e2'; refine hP9 ?_; clear hP9 P9; (dsimp only [List.cons_append, List.nil_append] at N'); (try dsimp only); (try k_fold)))
  k_with "binaryOp FloorDiv int int" => ((k_here; (with_reducible refine floordiv_int ?b ?_); (case b => decide +kernel)))
  k_with "binaryOp Pow int int" => ((k_here; (with_reducible refine pow_int_small ?kb1 ?kb2 ?kb3 ?_); (case kb1 => decide +kernel); (case kb2 => decide +kernel); (case kb3 => decide +kernel)))
  k_with "m to3" => (repeat' ((fail_if_success (with_reducible show wpAny _ _ (execs (Stmt.Assign [Expr.Name (PySem.Str.ofString "meant") _] _ _ :: _) _) _ _ _)); (first | (k_unfold; (try dsimp only)) | walk1 | (dsimp only; walk1) | (leave1; (try dsimp only)))))
  trivial
example : True := by
  k_with "FinE" => (((unfold LCg.FinE); intro D' h' tk' F' N' o1'; (replace o1' := neAll_off1 o1'); (try dsimp only [List.nil_append, List.cons_append] at N' o1'); (try dsimp only); k_sweep; (repeat ((rename (LCg.Off3 _ _ _ _) => q9); clear q9)); (repeat ((rename (LCg.NsObj _ _) => q9); clear q9))))
  k_with "FinA" => (((unfold LCg.FinA); intro D' h' tk' F' N' o1'; (replace o1' := neAll_off1 o1'); (try dsimp only [List.nil_append, List.cons_append] at N' o1'); (try dsimp only); k_sweep))
  k_with "m to6" => (repeat' ((fail_if_success (with_reducible show wpAny _ _ (execs (_ :: Stmt.Assign [Expr.Name (PySem.Str.ofString "ahead") _] _ _ :: _) _) _ _ _)); (first | (k_unfold; (try dsimp only)) | walk1 | (dsimp only; walk1) | (leave1; (try dsimp only)))))
  k_with "m allne" => (first | exact List.forall_mem_nil _ | (refine' List.forall_mem_cons.mpr ⟨?x, ?y⟩; (case x => k_ne); (case y => k_extra "m allne")))
  k_with "m offAll" => (first | exact ownOff_none | (refine' OwnOff.lcons ?a ?b; (case a => k_extra "m allne"); (case b => k_extra "m offAll")))
  k_with "m rows" => (exact ⟨rfl, rfl, rfl⟩)
  k_with "compareOp NotEq ref ref" => ((k_here; (with_reducible show wpAny _ _ (compareOp _ (Value.ref _) (Value.ref _)) _ _ _); k_dflt (refine' ne44 ?N ?h ?h0 ?h1 ?h2 ?h3 ?g ?g0 ?g1 ?g2 ?g3 ?e0 ?e1 ?e2 ?e3 ?hu ?_; (case N => k_asm); (case h => k_mem); (case h0 => k_mem); (case h1 => k_mem); (case h2 => k_mem); (case h3 => k_mem); (case g => k_mem); (case g0 => k_mem); (case g1 => k_mem); (case g2 => k_mem); (case g3 => k_mem); (case e0 => k_extra "m rows"); (case e1 => k_extra "m rows"); (case e2 => k_extra "m rows"); (case e3 => k_extra "m rows"); (case hu => ke_room))))
  k_with "ite" => (with_reducible first | (refine iteF ?_; (try dsimp only)) | (refine iteT ?_; (try dsimp only)))
  k_with "CEnd" => (k_dflt (refine' CEnd.keep ?F ?N ?off ?ne ?src ?_; (case F => k_asm); (case N => k_asm); (case off => assumption); (case ne => exact ⟨by k_ne, by k_ne, by k_ne, by k_ne⟩); (case src => lcg_src); k_whole))
  k_with "newList" => ((k_here; k_dflt (refine' newList_K ?k1 ?k2 ?_ ?hz; (case k1 => k_asm); (case k2 => k_asm); (case hz => exact Nat.le_of_ble_eq_true rfl); k_whole); intro l' h' F' N' l1; (try k_lt l1); (try k_sweep)))
  k_with "CompSrc" => ((k_here; k_dflt (first
      | (refine LCg.CompSrc.ledger (by rfl) (by k_asm) (by k_asm) (by k_mem) (by first | exact Nat.le_of_ble_eq_true rfl | size_fits) ?_; intro g'; lcg_lit)
      | (refine LCg.CompSrc.range (by rfl) (by k_asm) (by k_asm) (by assumption) (by first | decide | rfl) (by first | rfl | decide) (by first | exact Nat.le_of_ble_eq_true rfl | size_fits) ?_; intro g'; lcg_lit)); (try dsimp only)))
  k_with "CSrc" => ((k_here; k_dflt (first
      | (refine CSrc.ledger (by rfl) (by k_asm) (by k_asm) (by k_mem) (by first | exact Nat.le_of_ble_eq_true rfl | size_fits) ?_; intro g')
      | (refine CSrc.range (by rfl) (by k_asm) (by k_asm) (by assumption) (by first | decide | rfl) (by first | rfl | decide) (by first | exact Nat.le_of_ble_eq_true rfl | size_fits) ?_; intro g')); (try dsimp only)))
  trivial
local macro_rules | `(tactic| k_ne) => `(tactic| k_extra "m ownscan")
example : True := by
  k_with "m ownscan" => (((with_reducible rename OwnOff _ _ => q9); first | exact OwnOff.ne1 q9 (by k_mem) (by k_mem) | exact Ne.symm (OwnOff.ne1 q9 (by k_mem) (by k_mem)) | (clear q9; k_extra "m ownscan")))
  k_with "m to192" => (repeat' ((fail_if_success (with_reducible show wpAny _ _ (call (Value.ref 192) _) _ _ _)); (first | (k_unfold; (try dsimp only)) | walk1 | (dsimp only; walk1) | (leave1; (try dsimp only)))))
  k_with "m to197" => (repeat' ((fail_if_success (with_reducible show wpAny _ _ (call (Value.ref 197) _) _ _ _)); (first | (k_unfold; (try dsimp only)) | walk1 | (dsimp only; walk1) | (leave1; (try dsimp only)))))
  k_with "m to8" => (repeat' ((fail_if_success (with_reducible show wpAny _ _ (execs (Stmt.Assign [Expr.Name (PySem.Str.ofString "lights") _] _ _ :: _) _) _ _ _)); (first | (k_unfold; (try dsimp only)) | walk1 | (dsimp only; walk1) | (leave1; (try dsimp only)))))
  k_with "m subT" => (first | (refine List.forall_mem_cons.mpr ⟨List.mem_append_right _ (by k_mem), ?_⟩; k_extra "m subT") | skip)
  k_with "m to9" => (repeat' ((fail_if_success (with_reducible show wpAny _ _ (execs (Stmt.Assign [Expr.Name (PySem.Str.ofString "ways") _] _ _ :: _) _) _ _ _)); (first | (k_unfold; (try dsimp only)) | walk1 | (dsimp only; walk1) | (leave1; (try dsimp only)))))
  k_with "subscriptTail Subscript Name Name Name ref int" => ((k_here; (with_reducible show wpAny _ _ (subscriptTail _ _ (Value.ref _) (Value.int _ _)) _ _ _); k_dflt (refine' item_here ?k1 ?k2 ?k3 ?k4 ?_ ?k6; (case k1 => k_asm); (case k2 => k_mem); (case k3 => with_unfolding_all decide); (case k4 => with_unfolding_all rfl); (case k6 => with_unfolding_all rfl); k_whole)))
  k_with "subscriptTail Subscript Subscript Name Constant ref int" => ((k_here; (with_reducible show wpAny _ _ (subscriptTail _ _ (Value.ref _) (Value.int _ _)) _ _ _); k_dflt (refine' item_tup ?k1 ?k2 ?k3 ?k4 ?k5 ?_ ?k6; (case k1 => k_asm); (case k2 => k_mem); (case k3 => with_unfolding_all decide); (case k4 => with_unfolding_all rfl); (case k5 => with_unfolding_all rfl); (case k6 => with_unfolding_all rfl); k_whole)))
  k_with "m toSt" => (repeat' ((fail_if_success (with_reducible show wpAny _ _ (PySem.storeName _ (PySem.Str.ofString "lights") _) _ _ _)); (first | (k_unfold; (try dsimp only)) | walk1 | (dsimp only; walk1) | (leave1; (try dsimp only)))))
  k_with "m newoff" => ((intro b9 hb9; simp only [celA, List.mem_cons, List.not_mem_nil, or_false] at hb9; (try dsimp only [TrA.row, fourRef]); rcases hb9 with rfl | rfl | rfl | rfl | rfl | rfl <;> k_ne))
  trivial
example : True := by
  k_with "m to209" => (repeat' ((fail_if_success (with_reducible show wpAny _ _ (call (Value.ref 209) _) _ _ _)); (first | (k_unfold; (try dsimp only)) | walk1 | (dsimp only; walk1) | (leave1; (try dsimp only)))))
  k_with "m to214" => (repeat' ((fail_if_success (with_reducible show wpAny _ _ (call (Value.ref 214) _) _ _ _)); (first | (k_unfold; (try dsimp only)) | walk1 | (dsimp only; walk1) | (leave1; (try dsimp only)))))
  k_with "m to204" => (repeat' ((fail_if_success (with_reducible show wpAny _ _ (call (Value.ref 204) _) _ _ _)); (first | (k_unfold; (try dsimp only)) | walk1 | (dsimp only; walk1) | (leave1; (try dsimp only)))))
  k_with "m to219" => (repeat' ((fail_if_success (with_reducible show wpAny _ _ (call (Value.ref 219) _) _ _ _)); (first | (k_unfold; (try dsimp only)) | walk1 | (dsimp only; walk1) | (leave1; (try dsimp only)))))
  k_with "m to42" => (repeat' ((fail_if_success (with_reducible show wpAny _ _ (call (Value.ref 42) _) _ _ _)); (first | (k_unfold; (try dsimp only)) | walk1 | (dsimp only; walk1) | (leave1; (try dsimp only)))))
  k_with "m toLC" => (repeat' ((fail_if_success (with_reducible show wpAny _ _ (eval (Expr.ListComp _ _ _ _) _) _ _ _)); (first | (k_unfold; (try dsimp only)) | walk1 | (dsimp only; walk1) | (leave1; (try dsimp only)))))
  k_with "m toBf" => (repeat' ((fail_if_success (with_reducible show wpAny _ _ (call (Value.builtin _) _) _ _ _)); (first | (k_unfold; (try dsimp only)) | walk1 | (dsimp only; walk1) | (leave1; (try dsimp only)))))
  k_with "m toIf" => (repeat' ((fail_if_success (with_reducible show wpAny _ _ (execs (Stmt.If _ _ _ _ :: _) _) _ _ _)); (first | (k_unfold; (try dsimp only)) | walk1 | (dsimp only; walk1) | (leave1; (try dsimp only)))))
  k_with "m toCmp" => (repeat' ((fail_if_success (with_reducible show wpAny _ _ (compareOp _ (Value.ref _) (Value.ref _)) _ _ _)); (first | (k_unfold; (try dsimp only)) | walk1 | (dsimp only; walk1) | (leave1; (try dsimp only)))))
  k_with "m subX" => (first | (refine List.forall_mem_cons.mpr ⟨by k_mem, ?_⟩; k_extra "m subX") | (intro q hq; (repeat refine List.Mem.tail _ ?_); exact hq))
  k_with "m toSrc" => (repeat' ((fail_if_success (with_reducible show LCp.SrcLP _ _ _ _ _ _ _ _ _ _ _ _ _ _ _)); (first | walk1 | (dsimp only; walk1))))
  k_with "m toCmpI" => (repeat' ((fail_if_success (with_reducible show wpAny _ _ (compareOp _ (Value.int _ _) (Value.int _ _)) _ _ _)); (first | (k_unfold; (try dsimp only)) | walk1 | (dsimp only; walk1) | (leave1; (try dsimp only)))))
  k_with "m toAs" => (repeat' ((fail_if_success (with_reducible show wpAny _ _ (execs (Stmt.Assign _ _ _ :: _) _) _ _ _)); (first | (k_unfold; (try dsimp only)) | walk1 | (dsimp only; walk1) | (leave1; (try dsimp only)))))
  k_with "m toStH" => (repeat' ((fail_if_success (with_reducible show wpAny _ _ (PySem.storeName _ (PySem.Str.ofString "hues") _) _ _ _)); (first | (k_unfold; (try dsimp only)) | walk1 | (dsimp only; walk1) | (leave1; (try dsimp only)))))
  trivial
local macro_rules | `(tactic| k_ne) => `(tactic| k_extra "m neq")
local macro_rules | `(tactic| k_all) => `(tactic| k_extra "m alloff")
local macro_rules | `(tactic| k_mem) => `(tactic| k_extra "m mem")
example : True := by
  k_with "FinE" => (((unfold LCg.FinE); intro D' h' tk' F' N' o1'; (try dsimp only); (try k_sweep)))
  k_with "FinA" => (((unfold LCg.FinA); intro D' h' tk' F' N' o1'; (try dsimp only); (try k_sweep)))
  k_with "UnrEnd" => (((with_reducible rename Fr _ _ _ _ => F9); (with_reducible rename News _ _ _ _ => N9); k_dflt (k_extra "m unr0")))
  k_with "CompSrc" => ((k_here; k_dflt ((first
      | (refine LCg.CompSrc.ledger (by rfl) (by k_asm) (by k_asm) (by k_mem) (by first | exact Nat.le_of_ble_eq_true rfl | size_fits) ?_; intro g'; lcg_lit)
      | (refine LCg.CompSrc.range (by rfl) (by k_asm) (by k_asm) (by assumption) (by first | decide | rfl) (by first | rfl | decide) (by first | exact Nat.le_of_ble_eq_true rfl | size_fits) ?_; intro g'; lcg_lit)); (try dsimp only); refine cr_fold ?_; intro Fin')))
  k_with "m allne" => (first | exact List.forall_mem_nil _ | (refine' List.forall_mem_cons.mpr ⟨?na, ?nb⟩; (case na => k_extra "m neq"); (case nb => k_extra "m allne")))
  k_with "call ref" => ((k_here; (with_reducible show wpAny _ _ (call (Value.ref 28) _) _ _ _); k_dflt (refine' add_stats_use ?B ?F ?X ?N ?T ?hk ?h1 ?h2 ?h3 ?m1 ?m2 ?m3 ?m4 ?e1 ?e2 ?e3 ?_; (case B => k_asm); (case F => k_asm); (case X => k_asm); (case N => k_asm); (case T => k_asm); (case hk => exact rfl); (case h1 => assumption); (case h2 => assumption); (case h3 => exact rfl); (case m1 => k_mem); (case m2 => k_mem); (case m3 => k_mem); (case m4 => k_mem); (case e1 => k_extra "m dict"); (case e2 => k_extra "m dict"); (case e3 => first | exact .inl ⟨rfl, by k_extra "m om"⟩ | exact .inr ⟨rfl, merge1_pos _ _ _, Nat.le_trans (merge1_le _ _ _) (by k_extra "m om")⟩)); intro a' c' o' x1' x2' x3' x4' h' tk' F' N' oa' oc' D'; (try k_sweep)))
  k_with "call ref" => ((k_here; (with_reducible show wpAny _ _ (call (Value.ref 187) _) _ _ _); k_dflt (refine' tag_use ?B ?F ?X ?N ?T ?hk ?h1 ?h2 ?h3 ?m1 ?e1 ?e2 ?e3 ?_; (case B => k_asm); (case F => k_asm); (case X => k_asm); (case N => k_asm); (case T => k_asm); (case hk => exact rfl); (case h1 => assumption); (case h2 => assumption); (case h3 => exact rfl); (case m1 => k_mem); (case e1 => k_extra "m om"); (case e2 => k_extra "m om"); (case e3 => k_extra "m om")); intro c' t' h' tk' F' N' P'; (try k_sweep)))
  k_with "m offAll" => (first | exact ownOff_none | (refine' OwnOff.lcons ?ga ?gb; (case ga => k_extra "m allne"); (case gb => k_extra "m offAll")))
  k_with "CSrc" => ((k_here; k_dflt ((first
      | (refine CSrc.ledger (by rfl) (by k_asm) (by k_asm) (by k_mem) (by first | exact Nat.le_of_ble_eq_true rfl | size_fits) ?_; intro g')
      | (refine CSrc.range (by rfl) (by k_asm) (by k_asm) (by assumption) (by first | decide | rfl) (by first | rfl | decide) (by first | exact Nat.le_of_ble_eq_true rfl | size_fits) ?_; intro g')); (try dsimp only); refine crc_fold ?_; intro Fin')))
  k_with "call ref" => ((k_here; (with_reducible show wpAny _ _ (call (Value.ref 173) _) _ _ _); k_dflt (refine' value_use ?B ?F ?X ?N ?T ?hk ?h1 ?h2 ?h3 ?m1 ?e1 ?e2 ?e3 ?_; (case B => k_asm); (case F => k_asm); (case X => k_asm); (case N => k_asm); (case T => k_asm); (case hk => exact rfl); (case h1 => assumption); (case h2 => assumption); (case h3 => exact rfl); (case m1 => k_mem); (case e1 => exact av_bd (PM.at_bd (by assumption) _ _) (SM.at_bd (by assumption) _ _) (by assumption) (by assumption)); (case e2 => exact av_bd (PM.at_bd (by assumption) _ _) (SM.at_bd (by assumption) _ _) (by assumption) (by assumption)); (case e3 => exact av_bd (PM.at_bd (by assumption) _ _) (SM.at_bd (by assumption) _ _) (by assumption) (by assumption))); intro t' h' tk' F' N'; (try k_sweep)))
  trivial
example : True := by
  k_with "m sub" => (first | exact List.forall_mem_nil _ | (refine' List.forall_mem_cons.mpr ⟨?u9a, ?u9b⟩; (case u9a => k_mem); (case u9b => k_extra "m sub")))
  k_with "m mem" => (first | exact List.Mem.head _ | (refine' List.Mem.tail _ ?_; k_extra "m mem") | assumption | ((with_reducible rename SubC _ _ => sub9); (first | refine SubC.mem' sub9 ?_ | refine SubC.mem sub9 ?_); k_extra "m mem"))
  k_with "m tails" => (first | exact fun _ h => h | (refine sub_tl ?_; k_extra "m tails") | ((with_reducible rename SubC _ _ => sub9); refine SubC.all sub9 ?_; k_extra "m tails"))
  k_with "m evI" => (first
      | ((with_reducible apply Ev.book); (k_extra "m evN"); (exact BooksIn.at (by with_reducible assumption) (by k_asm) (by k_extra "m tails")); (k_extra "m evI"); (k_extra "m evI"); (k_extra "m rng"); (k_extra "m rng"); (exact fun _ _ _ => by with_unfolding_all rfl); (exact fun _ _ _ => by with_unfolding_all rfl); (exact fun _ _ _ => by with_unfolding_all rfl))
      | ((with_reducible apply Ev.sm2h); (k_extra "m evN"); (exact SMIn.at (by with_reducible assumption) (by k_asm) (by k_extra "m tails")); (k_extra "m evI"); (k_extra "m evI"); (k_extra "m rng"); (k_extra "m rng"); (exact fun _ _ _ => by with_unfolding_all rfl); (exact fun _ _ _ => by with_unfolding_all rfl))
      | exact Ev.int
      | ((with_reducible apply Ev.add); (k_extra "m evI"); (k_extra "m evI"))
      | ((with_reducible apply Ev.sub); (k_extra "m evI"); (k_extra "m evI"))
      | ((with_reducible apply Ev.pm2); (k_extra "m evN"); k_asm; (with_reducible assumption); (k_extra "m evI"); (k_extra "m evI"); (k_extra "m rng"); (k_extra "m rng"); (exact fun _ _ _ => by with_unfolding_all rfl); (exact fun _ _ _ => by with_unfolding_all rfl))
      | ((with_reducible apply Ev.sm2); (k_extra "m evN"); k_asm; (with_reducible assumption); (k_extra "m evI"); (k_extra "m evI"); (k_extra "m rng"); (k_extra "m rng"); (exact fun _ _ _ => by with_unfolding_all rfl); (exact fun _ _ _ => by with_unfolding_all rfl))
      | ((with_reducible apply Ev.wk); first | (k_extra "m evN") | (k_extra "m evR"))
      | ((with_reducible apply Ev.rowN); (k_extra "m evN"); k_asm; (with_reducible assumption); (k_extra "m evI"); (k_extra "m rng"); (exact fun _ _ _ => by with_unfolding_all rfl)))
  k_with "m lt1" => (first | with_reducible exact Nat.lt_succ_self _ | ((with_reducible refine Nat.lt_succ_of_lt ?_); k_extra "m lt1"))
  k_with "m neq" => (((with_reducible show @Ne Nat (_ + 1) (_ + 1)); first | ((refine Nat.ne_of_lt ?_); k_extra "m lt1") | ((refine Nat.ne_of_gt ?_); k_extra "m lt1")))
  trivial
example : True := by
  k_with "call ref" => ((k_here; (with_reducible show wpAny _ _ (call (Value.ref 136) _) _ _ _); k_dflt (refine' call_L ?k1 ?k2 ?k3 ?k4 ?k5 ?k6 ?_; (case k1 => k_asm); (case k2 => k_asm); (case k3 => k_asm); (case k4 => exact acc_makes _); (case k5 => k_is); (case k6 => kernel_rfl); intro x' d' h' F' N' l1 l2; (try k_lt l1); (try k_lt2 l2)); (k_dflt (refine' ks_code_super ?k1 ?k2 ?k3 ?k4 ?k5 ?kA ?kF ?kK ?k6 ?k7 ?k8 ?k9 ?kB ?_ ?c1 ?c2 ?c3 ?c4; (case kA => exact rfl); (case kF => exact rfl); (case kK => first | exact rfl | assumption); (case k1 => k_asm); (case k2 => k_asm); (case k3 => k_asm); (case k4 => k_asm); (case k5 => k_asm); (case k6 => k_is); (case k7 => k_is); (case k8 => exact Nat.lt_of_le_of_lt (Nat.le_add_right _ _) hdp); (case k9 => first | exact BindsTo.of_eq rfl | exact binds_K (by k_in) rfl (by k_is) rfl rfl rfl); (case kB => exact locs rfl); (case c1 => decide); (case c2 => exact rfl); (case c3 => exact rfl); (case c4 => exact rfl)); intro g' L' h' FG' F' N' B' X' T' l1; (try k_lt l1); (try dsimp only); (try k_lift B'))))
  trivial
theorem ks_fold {M : Model} {A : Around} {c : Code} {t : Sem Flow} {Q : Flow → Shared → Prop} {E : Value → Shared → Prop} {s : Shared} (h : let Q' := Q; let E' := E; _root_.PySem.wpAt M A c t Q' E' s) : _root_.PySem.wpAt M A c t Q E s := h
theorem acc_new (w : World) {loose : List Str} {mean : ExcName → Option Value} {mg mb : Str → Option Value} {dp un : Nat} {gd : Option (List Code)} {cn : Str} {cs : Scope} {a : Addr} {ccd : Value} {cl : List (Str × Addr)} {outer : List Env} {A₀ : Around} {base h₀ h : Heap} {L : Addr} {m : Str → Option Value} {news : List (Addr × Obj)} {Q E : Value → Shared → Prop} {gn : Array GenState} {dr : Drawn} {tk : Nat} {os : OsState}
    (B : Below A₀ base outer h₀) (F : Fr h₀ L h m) (X : (hd.heap_1 w.params).In h₀) (N : News h₀ L h news) (T : Top vw loose mean mg mb h₀) (hk : cs.kind = .function) (hdp : dp + 15 < recursionLimit) (hun : un + 8 * 15 < cLine)
    (k : ∀ x dx td h' tk', Fr h₀ L h' m → News h₀ L h' ((x, accObj 136 dx ([] : List Value).toArray 0) :: (dx, accD w td) :: news) → @Ne Nat dx x → OffD x news → OffD dx news → Q (.ref x) (Shared.mk h' gn dr tk' os)) :
    wpAny (model prg w) (ktrTop dp un gd cn cs L a ccd cl outer) (call (.ref 136) []) Q E (Shared.mk h gn dr tk os) := by
  w_top off
  refine call_L F X N (acc_makes _) (by k_is) (by kernel_rfl) ?_
  intro x dx h' F1 N1 l1 l2
  have n1 : @Ne Nat dx x := Nat.ne_of_lt l2
  have o1 : OffD dx news := OffD.of l1
  have o2 : OffD x news := fun p hp => Nat.ne_of_lt (Nat.lt_trans (l1 p hp) l2)
  clear l1 l2 N F
  (k_dflt (refine' ks_code_super ?k1 ?k2 ?k3 ?k4 ?k5 ?kA ?kF ?kK ?k6 ?k7 ?k8 ?k9 ?kB ?_ ?c1 ?c2 ?c3 ?c4; (case kA => exact rfl); (case kF => exact rfl); (case kK => first | exact rfl | assumption); (case k1 => k_asm); (case k2 => k_asm); (case k3 => k_asm); (case k4 => k_asm); (case k5 => k_asm); (case k6 => k_is); (case k7 => k_is); (case k8 => ktr_room); (case k9 => first | exact BindsTo.of_eq rfl | exact binds_K (by k_in) rfl (by k_is) rfl rfl rfl); (case kB => exact locs rfl); (case c1 => decide); (case c2 => exact rfl); (case c3 => exact rfl); (case c4 => exact rfl)); intro g' L' h2' FG' F' N' B' X' T' l1; (try dsimp only); (try k_lift B'))
  clear l1
  refine ks_fold ?_
  intro Q9 E9
  k_extra "m foldN"
  k_extra "m go"
  with_reducible rename Fr _ _ _ _ => F9
  with_reducible rename News _ _ _ _ => N9
  exact k x dx _ _ _ F9 (Mine.News.sub N9 (List.forall_mem_cons.mpr ⟨by k_mem, List.forall_mem_cons.mpr ⟨by k_mem, by k_extra "m tails"⟩⟩)) n1 o2 o1
example : True := by
  k_with "callWith ref" => ((k_here; (first
      | ((with_reducible show wpAny _ _ (callWith _ (Value.ref _) _ (backTo _ (starEach (_ :: _) _)) []) _ _ _); k_dflt (refine' callWith_K ?k1 ?k2 ?_; (case k1 => k_asm); (case k2 => k_is); k_whole))
      | ((with_reducible show wpAny _ _ (callWith _ (Value.ref _) _ (backTo _ (starEach [] _)) []) _ _ _); k_dflt (refine' callWith_K0 ?k1 ?k2 ?_; (case k1 => exact Frag.In.keeps (by k_asm) (Fr.keep (by k_asm))); (case k2 => k_is); k_whole)))))
  k_with "call ref" => ((k_here; (with_reducible show wpAny _ _ (call (Value.ref 80) _) _ _ _); k_dflt (refine' push_use (vs := vs9) (n := nn9) (td := td9) ?vB ?vF ?vX ?vN ?vT ?vk ?vr ?vu ?vb ?vm ?vU ?vz ?vx ?_; (case vB => k_asm); (case vF => k_asm); (case vX => k_asm); (case vN => k_asm); (case vT => k_asm); (case vk => exact rfl); (case vr => assumption); (case vu => assumption); (case vb => exact rfl); (case vm => k_mem); (case vU => k_extra "m updF"); (case vz => assumption); (case vx => k_extra "m neq")); intro D' h' tk' F' N' o1'))
  k_with "call ref" => ((k_here; (with_reducible show wpAny _ _ (call (Value.ref 133) _) _ _ _); k_dflt (refine' count_use (vs := vs9) (n := nn9) (td := td9) ?vB ?vF ?vX ?vN ?vT ?vk ?vr ?vu ?vb ?vm ?vU ?_; (case vB => k_asm); (case vF => k_asm); (case vX => k_asm); (case vN => k_asm); (case vT => k_asm); (case vk => exact rfl); (case vr => assumption); (case vu => assumption); (case vb => exact rfl); (case vm => k_mem); (case vU => k_extra "m updF")); intro t' h' tk' F' N'))
  k_with "call ref" => ((k_here; (with_reducible show wpAny _ _ (call (Value.ref 96) _) _ _ _); k_dflt (refine' pop_use (vs := us9) (v := Value.ref D9) (n := nn9) (td := td9) ?vB ?vF ?vX ?vN ?vT ?vk ?vr ?vu ?vb ?vm ?vU ?vz ?vx ?_; (case vB => k_asm); (case vF => k_asm); (case vX => k_asm); (case vN => k_asm); (case vT => k_asm); (case vk => exact rfl); (case vr => assumption); (case vu => assumption); (case vb => exact rfl); (case vm => k_mem); (case vU => k_extra "m updF"); (case vz => assumption); (case vx => k_extra "m neq")); intro h' tk' F' N'))
  k_with "call ref" => ((k_here; (with_reducible show wpAny _ _ (call (Value.ref 136) _) _ _ _); k_dflt (refine' acc_new _ ?vB ?vF ?vX ?vN ?vT ?vk ?vr ?vu ?_; (case vB => k_asm); (case vF => k_asm); (case vX => k_asm); (case vN => k_asm); (case vT => k_asm); (case vk => exact rfl); (case vr => assumption); (case vu => assumption)); intro x9 dx9 td9 h' tk' F' N' n9 o9 o8))
  k_with "subscriptTail" => ((k_here; (with_reducible show wpAny _ _ (subscriptTail _ _ (Value.str (PySem.Str.ofString "rgb") _) (Value.int _ _)) _ _ _); k_dflt (refine' item_rgb ?wk1 ?wk2 ?_; (case wk1 => first | exact hg2.1 | exact hl.1); (case wk2 => first | exact hg2.2 | exact hl.2)); intro t' k'))
  k_with "binaryOp Add str str" => ((k_here; ((with_reducible show wpAny _ _ (binaryOp _ (Value.str (tx _) _) (Value.str (tx _) _)) _ _ _); k_dflt (refine' add_tx ?ak1 ?_; (case ak1 => exact hd9))); intro t' k'))
  trivial
theorem popped_specB (w : World) (K : Addr) (kp : Int → Int → Int) (l : Int) (t : Tok) (hl : 0 ≤ l ∧ l < 3) (hkp : ∀ i u, 0 ≤ i ∧ i < 3 → 0 ≤ u ∧ u < 3 → 0 ≤ kp i u ∧ kp i u < 3) :
   PureB w 204 16 [.ref K, .int l t] (fun h => PMAt h K kp) (fun v tl => ∃ t, v = .str (tx [kp 0 (kp 1 (kp 2 l)), kp 1 (kp 2 l), kp 2 l, l]) t ∧ tl = []) := by
  w_top off
  refine' openB [("kept", .ref K), ("last", .int l t)] ?ho ?hcd ?hb ?hl ?c1 ?c2 ?c3 ?hcell ?_
  k_extra "m openP"
  repeat' ((fail_if_success (with_reducible show wpAny _ _ (PySem.storeName _ _ _) _ _ _)); k_extra "m go1")
  let vs9 : List Value := []
  let nn9 : Nat := 0
  have hz9 : vs9.length ≤ sizeLine := Nat.le_of_ble_eq_true rfl
  repeat' ((fail_if_success (with_reducible show wpAny _ _ (pyIter _) _ _ _)); k_extra "m go1")
  rename Addr => TU
  k_extra "m stepsI"
  rename Addr => I
  have nTx : @Ne Nat TU x9 := by k_extra "m neq"
  have nTd : @Ne Nat TU dx9 := by k_extra "m neq"
  have nIT : @Ne Nat TU I := by k_extra "m neq"
  have nIx : @Ne Nat x9 I := by k_extra "m neq"
  have nId : @Ne Nat dx9 I := by k_extra "m neq"
  have oD : ∀ b ∈ [I, TU, x9, dx9], @Ne Nat D' b := by k_extra "m allne"
  have oY : ∀ o, OwnOff [(D', o)] [I, TU, x9, dx9] := fun o => OwnOff.lcons oD ownOff_none
  refine items_sub (news' := (TU, { cls := Value.type "tuple", data := Data.seq #[Value.int 2 t1', Value.int 1 t2', Value.int 0 t3'] }) :: (x9, accObj 136 dx9 (vs9 ++ [Value.ref D']).toArray (nn9 + 1)) :: (dx9, accD w td9) :: [(D', tupO [.str (Str.ofString "") _, .str (tx [l]) _])]) (by k_extra "m sub") ?_
  refine list_ind (fun v (q : Int × Tok) => v = .int q.1 q.2) ["place", "tag"] m' (PInvF w kp l x9 dx9 TU I { cls := Value.type "tuple", data := Data.seq #[Value.int 2 t1', Value.int 1 t2', Value.int 0 t3'] } td9) ?base ?step _ [(2, _), (1, _), (0, _)] _ _ (.cons rfl (.cons rfl (.cons rfl .nil))) ?ag ?inv
  case ag => exact (by intro z _; rfl)
  case inv =>
    refine .mk _ _ 0 (vs9 ++ [Value.ref D']) (nn9 + 1) _ _ rfl ?h2 rfl (.cons ⟨D', _, _, rfl, .head _⟩ .nil) (oY _)
    case h2 => exact p3_heads
  case step =>
    clear oD oY
    intro v q r news u hv hi h tk F1
    refine byG (fun P9 hP9 => ?_)
    obtain ⟨q1, qt⟩ := q
    dsimp only at hv
    subst hv
    cases hi with
    | mk j vs9 nn9 Y t0 h1 h2 hm hall hoff =>
    have hj : j ≤ 2 := by simp only [List.length_cons] at h1; omega
    have hq := h2 0 (q1, qt) rfl
    rw [set_eq hm] at F1
    have hg := pst_bd hl hkp j (Nat.le_succ_of_le hj)
    have hz9 : vs9.length ≤ sizeLine := by
      rw [hall.length, pst_len]
      exact Nat.le_trans (Nat.succ_le_succ hj) (Nat.le_of_ble_eq_true rfl)
    have hq1 : q1 = 2 - (j : Int) := by simpa using hq
    have hq3 : 0 ≤ q1 ∧ q1 < 3 := by omega
    have hg2 := hkp q1 _ hq3 hg
    clear hq hm
    generalize hgg : (pst kp l j).2 = g9 at F1 hg hg2
    refine hP9 ?_
    clear hP9 P9
    refine AllObj.cons (fun o' hc' => ?_)
    refine AllObj.nil (fun N' => ?_)
    dsimp only [List.cons_append, List.nil_append] at N'
    k_fold
    k_extra "m foldN"
    repeat' ((fail_if_success (with_reducible show UnrEndW _ _ _ _ _ _)); k_extra "m go1")
    (with_reducible rename Fr _ _ _ _ => F9)
    (with_reducible rename News _ _ _ _ => N9)
    refine' pop_turn F9 N9 ?mI ?mT ?mx ?md ?mD ?mY ?hag (by rfl) ?hcc h1 h2 hall hoff ?nD ?nI
    case mI => k_mem
    case mT => k_mem
    case mx => k_mem
    case md => k_mem
    case mD => k_mem
    case mY => k_extra "m tails"
    case hag => k_extra "m agree"
    case hcc => rw [hgg, hq1]
    case nD => k_extra "m allne"
    case nI => exact List.forall_mem_cons.mpr ⟨nIT, List.forall_mem_cons.mpr ⟨nIx, List.forall_mem_cons.mpr ⟨nId, List.forall_mem_nil _⟩⟩⟩
  case base =>
    clear oD oY
    intro news u hi h tk F1 N1
    refine byG (fun P9 hP9 => ?_)
    cases hi with
    | mk j vs9 nn9 Y t0 h1 h2 hm hall hoff =>
    have hj : j = 3 := by simpa using h1
    subst hj
    refine hP9 ?_
    clear hP9 P9 hm h1 h2
    k_extra "m foldN"
    repeat' ((fail_if_success (with_reducible show wpAny _ _ (exec (Stmt.While _ _ _ _) _) _ _ _)); k_extra "m go1")
    have hF : ∀ q ∈ Y, q.1 ≠ x9 ∧ q.1 ≠ dx9 := fun q hq => ⟨hoff q hq _ (.tail _ (.tail _ (.head _))), hoff q hq _ (.tail _ (.tail _ (.tail _ (.head _))))⟩
    have oY : OwnOff Y [x9, dx9] := fun q hq b hb => hoff q hq b (.tail _ (.tail _ hb))
    (with_reducible rename Fr _ _ _ _ => F9)
    (with_reducible rename News _ _ _ _ => N9)
    refine whl_start 0 ?_
    refine whl_ind (PInvW w x9 dx9 td9 [kp 0 (kp 1 (kp 2 l)), kp 1 (kp 2 l), kp 2 l, l] g' L' gn' dr' os') ?hE ?wstep _ _ _ (.mk vs9 nn9 Y [] _ _ _ _ _ hall (pst_full kp l) (by rw [← tx_nil0]; rfl) rfl F9 (Mine.News.sub N9 fun q hq => ?sub9) oY)
    case hE => first | passes_own | with_unfolding_all passes_own
    case sub9 => exact (by k_extra "m tails" : ∀ q ∈ _, q ∈ _) q hq
    case wstep =>
      clear hF oY hall hoff N9 F9
      intro n s hi
      refine byG (fun P9 hP9 => ?_)
      cases hi with
      | mk vs9 nn9 Y done cs m t1 h1 tk1 hall hc hw hp F N hoff =>
      replace F := fr_two F hw hp
      refine hP9 ?_
      clear hP9 P9 hw hp
      k_extra "m foldN"
      repeat' ((fail_if_success (with_reducible show WhlIf _ _ _)); k_extra "m go1")
      rcases nil_or_snoc vs9 with rfl | ⟨us9, v9, rfl⟩
      · refine WhlIf.no ?bn ?_
        case bn => rfl
        cases hall with | nil =>
        have hd9 : done = [kp 0 (kp 1 (kp 2 l)), kp 1 (kp 2 l), kp 2 l, l] := by rw [← hc, List.reverse_nil, List.append_nil]
        k_extra "m go"
        refine' hZ _ _ _ _ _ _ ⟨_, congrArg (fun d => Value.str (tx d) _) hd9, rfl⟩ ?rF ?rN ?rs
        case rF => k_asm
        case rN => k_asm
        case rs => exact List.forall_mem_nil _
      · refine WhlIf.yes ?by9 ?_
        case by9 => rw [List.length_append]; exact congrArg not (decide_eq_false (fun e => by have := congrArg Int.toNat e; exact Nat.succ_ne_zero _ this))
        refine byG (fun P9 hP9 => ?_)
        obtain ⟨cs', c, D9, ta, tb, rfl, hall', rfl, mD⟩ := ptup_last hall
        have hl4 := congrArg List.length hc
        have hz8 : us9.length ≤ 1000 := by
          have := hall'.length
          simp at hl4
          omega
        have hd9 : done.length + [c].length ≤ 100 := by
          simp at hl4 ⊢
          omega
        have oY : OwnOff Y [x9, dx9] := hoff
        refine hP9 ?_
        clear hP9 P9 hl4 hall
        repeat' ((fail_if_success (with_reducible show _ ∧ _)); k_extra "m go1")
        (with_reducible rename Fr _ _ _ _ => F9)
        (with_reducible rename News _ _ _ _ => N9)
        refine ⟨rfl, by rw [List.length_append]; exact Nat.succ_pos _, ?_⟩
        rw [List.length_append, List.length_singleton, Nat.add_sub_cancel]
        refine .mk us9 (nn9 + 1) Y (done ++ [c]) cs' _ _ _ _ hall' ?hc9 rfl rfl F9 (Mine.News.sub N9 ?hs9) oY
        case hc9 => rw [← hc, List.reverse_append, List.reverse_singleton, List.append_assoc]
        case hs9 =>
          refine List.forall_mem_cons.mpr ⟨?hm1, List.forall_mem_cons.mpr ⟨?hm2, ?hm3⟩⟩
          case hm1 => k_mem
          case hm2 => k_mem
          case hm3 => k_extra "m tails"
example : True := by
  k_with "subscriptTail Name Name ref int" => ((k_here; (with_reducible show wpAny _ _ (subscriptTail _ _ (Value.ref _) (Value.int _ _)) _ _ _); k_dflt (refine' item_here ?i1 ?i2 ?i3 hbx ?_ ?i6; (case i1 => k_asm); (case i2 => k_mem); (case i3 => exact hi64); (case i6 => with_unfolding_all rfl))))
  k_with "subscriptTail Subscript Name Name Name ref int" => ((k_here; (with_reducible show wpAny _ _ (subscriptTail _ _ (Value.ref _) (Value.int _ _)) _ _ _); k_dflt (refine' item3 ?i1 ?i2 ha3.1 ha3.2 ?_; (case i1 => k_asm); (case i2 => k_mem)); intro t'))
  k_with "subscriptTail Name Name str int" => ((k_here; (with_reducible show wpAny _ _ (subscriptTail _ _ (Value.str (tx _) _) (Value.int _ _)) _ _ _); k_dflt (refine' item_tx hl100 hi0 hi1 hax ?_); intro t' k'))
  k_with "call builtin:str.index" => ((k_here; (with_reducible show wpAny _ _ (call _ [Value.str (PySem.Str.ofString "rgb") _, Value.str (tx _) _]) _ _ _); k_dflt (refine' index_rgb ha3.1 ha3.2 ?_); intro t' k'))
  k_with "setItem ref int" => ((k_here; (with_reducible show wpAny _ _ (PySem.setItem (Value.ref _) (Value.int _ _) (Value.int _ _)) _ _ _); k_dflt (refine' set3 ?i1 ?i2 ha3.1 ha3.2 ?i5 ?_; (case i1 => k_asm); (case i2 => k_asm); (case i5 => k_extra "m upd")); intro h' F' N'))
  trivial
theorem most_specN (w : World) (W : Addr) (vs : List Value) (n : Nat) (tups : List (Addr × Obj)) (spec : List (List Int × Int)) (hall : All2 (WayIn tups) vs spec) (hl : ∀ p ∈ spec, p.1.length = 4 ∧ Tags p.1) (hz : vs.length ≤ 1000) :
   Pure w 214 4 [.ref W] ((W, listOf vs.toArray n) :: tups) (MostPost spec) := by
  w_top off
  intro loose mean mg mb dp un gd cn cs a ccd cl outer A₀ base h₀ L m news s Q E B F X N T hk hp hd hu k
  k_dflt (k_extra "m plain")
  repeat' ((fail_if_success (with_reducible show LCg.CompRest _ _ _ _ _ _ _ _ _ _ _ _ _ _ _ _ _ _ _)); k_extra "m go1")
  refine' cr_rows4 (f := fun _ => -1) ?hS ?row ?fin
  case hS => exact fun _ => trivial
  case row =>
    intro C I oI oC D oD news'
    refine ⟨fun Q E h tk F N k => ?_⟩
    repeat' ((fail_if_success (with_reducible show (_ : Value → Shared → Prop) (Value.ref _) (Shared.mk _ _ _ _ _))); k_extra "m go1")
    exact k _ _ _ _ ⟨_, _, _, _, rfl⟩ (by k_asm) (by k_asm) (by with_reducible assumption)
  case fin =>
    intro r0 r1 r2 r3 o0 o1 o2 o3 i0 i1 i2 i3 f0 f1 f2 f3 MO h1 tk1 F1 N1 oMO
    refine byG (fun P9 hP9 => ?_)
    obtain ⟨news1, N2, hM, hnd, hYb, hbM, hMY⟩ := most_start N1 (OffD.of1 oMO) i0 i1 i2 i3 f0 f1 f2 f3
    refine hP9 ?_
    clear hP9 P9 N1 oMO i0 i1 i2 i3 f0 f1 f2 f3
    have nWM := hMY _ (.head _)
    generalize hbs : [Value.ref r0, Value.ref r1, Value.ref r2, Value.ref r3] = bv at F1 N2 hM ⊢
    have hbv : bv = [r0, r1, r2, r3].map Value.ref := hbs.symm
    clear hbs
    repeat' ((fail_if_success (with_reducible show wpAny _ _ (pyIter _) _ _ _)); k_extra "m go1")
    have hMem := hM.mem
    (with_unfolding_all refine iter_listTurns (lo := listOf vs.toArray n) (vs := vs) (by rfl) (by k_asm) N2 (hMem _ (.head _)) (by rfl) (by rfl) ?_)
    intro I lI
    refine byG (fun P9 hP9 => ?_)
    obtain ⟨nI, nMI, nYI⟩ := hM.off (OffD.of lI)
    refine hP9 ?_
    clear hP9 P9 lI hMem
    refine' list_ind (WayIn tups) ["way", "worth", "place", "c"] _ (fun r _ n' => ∃ done, done ++ r = spec ∧ MIn MO (LCg.lst bv) [r0, r1, r2, r3] ((W, listOf vs.toArray n) :: tups) (RowIs done) n') ?base ?step vs spec _ _ hall ?ag ⟨[], rfl, hM⟩
    case ag => exact (by intro z _; rfl)
    case base =>
      intro news u hi h tk F3 N3
      refine byG (fun P9 hP9 => ?_)
      obtain ⟨done, hdone, hM'⟩ := hi
      rw [List.append_nil] at hdone
      subst hdone
      obtain ⟨R0, R1, R2, R3, hs, hs', hne, q0, q1, q2, q3⟩ := most_done hM' N3 hMY hYb
      subst hbv
      refine hP9 ?_
      clear hP9 P9
      k_extra "m go"
      refine' hZ _ _ _ _ _ _ ⟨_, r0, r1, r2, r3, R0, R1, R2, R3, rfl, rfl, q0, q1, q2, q3⟩ ?qF ?qN hs hs' hne
      case qF => k_asm
      case qN => k_asm
    case step =>
      intro v lw r news u hv hi h tk F3
      refine byG (fun P9 hP9 => ?_)
      obtain ⟨ls, wv⟩ := lw
      obtain ⟨d, tw, uw, rfl, hd9⟩ := hv
      obtain ⟨done, hdone, rs, hbs, rfl, hP⟩ := hi
      obtain ⟨hl4, htg⟩ := hl (ls, wv) (by rw [← hdone]; simp)
      refine hP9 ?_
      clear hP9 P9
      refine AllObj.cons (fun o' hc' => ?_)
      refine AllObj.nil (fun N4 => ?_)
      replace N4 := Mine.News.sub N4 (l' := (MO, LCg.lst bv) :: (rowsO rs ++ ((I, o') :: (W, listOf vs.toArray n) :: tups))) rows_mv
      have hd8 : (d, tupO [.str (tx ls) tw, .int wv uw]) ∈ rowsO rs ++ ((I, o') :: (W, listOf vs.toArray n) :: tups) := List.mem_append_right _ (.tail _ (.tail _ hd9))
      have hM4 : MIn MO (LCg.lst bv) [r0, r1, r2, r3] ((I, o') :: (W, listOf vs.toArray n) :: tups) (fun k => RowIs (if k < 0 then done ++ [(ls, wv)] else done) k) ((MO, LCg.lst bv) :: (rowsO rs ++ ((I, o') :: (W, listOf vs.toArray n) :: tups))) := ⟨rs, hbs, rfl, hP⟩
      generalize rowsO rs ++ ((I, o') :: (W, listOf vs.toArray n) :: tups) = OTH at N4 hd8 hM4
      (try dsimp only); (try k_fold)
      k_extra "m foldN"
      k_extra "m stepsR"
      rename Addr => J
      (with_reducible rename OffD _ _ => qJ)
      have nJ := hM4.off qJ
      refine' range_ind ["place", "c"] _ (fun i _ n' => MIn MO (LCg.lst bv) [r0, r1, r2, r3] ((I, o') :: (W, listOf vs.toArray n) :: tups) (fun k => RowIs (if k < i then done ++ [(ls, wv)] else done) k) n') ?ibase ?istep _ _ _ _ (by rfl) ?iag hM4
      case iag => exact (by intro z _; rfl)
      case ibase =>
        intro news u' hi h' tk' F5 N5
        refine byG (fun P9 hP9 => ?_)
        obtain ⟨rs', hbs', rfl, hP'⟩ := hi
        refine hP9 ?_
        clear hP9 P9
        k_extra "m go"
        (with_reducible rename Fr _ _ _ _ => F9)
        (with_reducible rename News _ _ _ _ => N9)
        refine most_turnW (Pk := fun d k => RowIs d k) F9 N9 (fun q hq => hq) (.head _) hbs' nI nMI nYI ?wag hdone ?wP
        case wag => k_extra "m agree"
        case wP => exact fun k q hq => by have := hP' k q hq; dsimp only at this; rwa [if_pos (lt4_of hbs' hq)] at this
      case istep =>
        intro i news u' hi4 hiv t' h' tk' F5 N5
        refine byG (fun P9 hP9 => ?_)
        obtain ⟨rs', hbs', rfl, hP'⟩ := hiv
        obtain ⟨a9, hai, ha3, hl100, hi0, hi1, hax, hi64⟩ := at4 hl4 htg hi4
        obtain ⟨l1, ⟨b9, R⟩, l2, rfl, hlen⟩ := split_at' (i := i) (l := rs') (by have := congrArg List.length hbs'; simp at this; omega)
        have hbp := pick_bs hbs' hlen
        have hob := pick_off hbs' hnd (own_cons (o := o') nI hYb)
        have hoJ := pick_offJ hbs' nJ.1 nJ.2.2
        have N6 := most_pick N5
        have hbx : bv[(0 + (i : Int)).toNat]? = some (.ref b9) := by rw [hbv, Int.zero_add, Int.toNat_natCast]; exact hbp.1
        have nbM := hbM b9 hbp.2
        have hRi := if_lt_self (P := fun d => RowIs d i R) (hP' i (b9, R) (by rw [List.getElem?_append_right (Nat.le_of_eq hlen), hlen, Nat.sub_self]; rfl))
        obtain ⟨x, y, z, tx1, ty1, tz1, n1⟩ := R
        obtain ⟨hoJ, nbJ⟩ := hoJ
        have nMJ := nJ.2.1
        have hsub : ∀ q ∈ rowsO l1 ++ (rowsO l2 ++ ((I, o') :: (W, listOf vs.toArray n) :: tups)), q ∈ rowsO l1 ++ (rowsO l2 ++ ((I, o') :: (W, listOf vs.toArray n) :: tups)) := fun _ h => h
        dsimp only [Row3.obj] at N6
        generalize hOT : rowsO l1 ++ (rowsO l2 ++ ((I, o') :: (W, listOf vs.toArray n) :: tups)) = OT2 at N6 hob hoJ
        clear N5
        refine hP9 ?_
        clear hP9 P9
        k_extra "m foldN"
        repeat' ((fail_if_success (with_reducible show UnrEnd _ _ _ _ _ _ _)); k_extra "m go1")
        all_goals ((with_reducible rename Fr _ _ _ _ => F9); (with_reducible rename News _ _ _ _ => N9); (first
          | refine' most_turnX (R' := ⟨if a9 = 0 then wv else x, if a9 = 1 then wv else y, if a9 = 2 then wv else z, _, _, _, _⟩) F9 N9 ?tJ ?tM ?tb (hOT ▸ ?tO) nMJ nbJ (hOT ▸ hoJ) ?tag hP' hlen (row_yes hRi hai ha3 (by assumption)) hbs'
          | refine' most_turnX (R' := ⟨x, y, z, _, _, _, _⟩) F9 N9 ?tJ ?tM ?tb (hOT ▸ ?tO) nMJ nbJ (hOT ▸ hoJ) ?tag hP' hlen (row_no hRi hai ha3 (by assumption)) hbs'); (case tJ => k_mem); (case tM => k_mem); (case tb => k_mem); (case tO => k_extra "m tails"); (case tag => k_extra "m agree"))
theorem seg6 (w : World) (S8 : SA8 w) : SA6 w := by
  w_top off
  intro nm body rest sc loose mean mg mb h₀ L f cd m0 s Q E hB hb X T hQ P M G p sm OT c1 c2 c3 c4 c5 c6 v1 v2 v3 v4 v5 v6 F N HP HM HG hp hs hC hO
  subst hb
  refine byG (fun P9 hP9 => ?_)
  obtain ⟨d1, d2, d3, d4, d5, d6⟩ := hC
  obtain ⟨pa, rfl, lp⟩ := HP.pa
  obtain ⟨sa, rfl, ls⟩ := HM.sa
  have B : Below callerA h₀ [] h₀ := below_caller h₀
  obtain ⟨rfl, rfl, rfl⟩ := hB.same (LawIs.intro (by k_is))
  refine hP9 ?_
  clear hP9 P9 hB
  dsimp only [cel, List.cons_append, List.nil_append] at N
  unfold LawWp
  dsimp only [List.drop]
  k_extra "m foldN"
  repeat' ((fail_if_success (with_reducible show wpAny _ _ (call (Value.ref 192) _) _ _ _)); k_extra "m go1")
  refine' PureB.use (forth_specB w pa.P G p sm hp hs) ?zB ?zF ?zX ?zN ?zT ?zk ?zp ?zr ?zu ?_
  case zB => k_asm
  case zF => k_asm
  case zX => k_asm
  case zN => k_asm
  case zT => k_asm
  case zk => exact rfl
  case zp => exact ⟨HP.at (by k_asm) (by k_extra "m tails"), HG.at (by k_asm) (by k_extra "m tails")⟩
  case zr => ktr_room
  case zu => ktr_units
  intro v' tl1 h1 tk1 F1 N1 ne1 P1
  refine byG (fun P9 hP9 => ?_)
  obtain ⟨TT, BK, KP, nb, nk, n0, l0, l1, l2, l3, k0, k1, k2, L0, L1, L2, L3, T0, T1, T2, rfl, hTT, HB, hfc, hlate, i0, i1, i2⟩ := forth_res P1
  refine hP9 ?_
  clear hP9 P9 P1
  have o1 := own_ne ne1
  have N2 : News h₀ L h1 ((TT, ({ cls := .type "tuple", data := .seq #[.ref BK, .ref KP] n0 } : Obj)) :: (cel L c1 c2 c3 c4 c5 c6 ++ (tl1 ++ OT))) := Mine.News.sub N1 (tail_in3 hTT)
  have O1 : OwnOff (tl1 ++ OT) (celA L) := OwnOff.app o1 hO
  have HP1 := HP.mono (l' := tl1 ++ OT) fun q hq => List.mem_append_right _ hq
  have HG1 := HG.mono (l' := tl1 ++ OT) fun q hq => List.mem_append_right _ hq
  have HB1 := HB.mono (l' := tl1 ++ OT) fun q hq => List.mem_append_left _ hq
  have oT : OwnOff [(TT, ({ cls := .type "tuple", data := .seq #[.ref BK, .ref KP] n0 } : Obj))] (celA L) := fun q hq => by rw [List.mem_singleton] at hq; subst hq; exact o1 _ hTT
  have hl := fun t2 => late_in (t2 := t2) hlate lp ls
  clear N1 ne1 hTT o1 hO HP HM HG HB hlate lp ls F
  dsimp only [celA] at oT
  have O1x := O1
  dsimp only [celA] at O1x
  generalize tl1 ++ OT = OT1 at N2 O1 O1x HP1 HG1 HB1 hl
  dsimp only [cel, List.cons_append, List.nil_append] at N2
  k_extra "m foldN"
  repeat' ((fail_if_success (with_reducible show wpAny _ _ (call (Value.ref 197) _) _ _ _)); k_extra "m go1")
  rename Obj => c3'
  with_reducible rename Obj.data _ = Data.cell (some (Value.ref BK)) => dB
  refine' PureB.use (ahead_specB w pa.P G p sm hp hs) ?yB ?yF ?yX ?yN ?yT ?yk ?yp ?yr ?yu ?_
  case yB => k_asm
  case yF => k_asm
  case yX => k_asm
  case yN => k_asm
  case yT => k_asm
  case yk => exact rfl
  case yp => exact ⟨HP1.at (by k_asm) (by k_extra "m tails"), HG1.at (by k_asm) (by k_extra "m tails")⟩
  case yr => ktr_room
  case yu => ktr_units
  intro v2' tl2 h2 tk2 F2 N3 ne2 P2
  refine byG (fun P9 hP9 => ?_)
  obtain ⟨AH, A0, A1, A2, A3, rfl, HA, haf⟩ := ahead_res P2
  refine hP9 ?_
  clear hP9 P9 P2
  have o2 := own_ne (fun q hq => ne2 q (.tail _ hq))
  have N4 : News h₀ L h2 (cel L c1 c2 c3' c4 c5 c6 ++ (tl2 ++ OT1)) := Mine.News.sub N3 (tail_in4 (tl := tl2) (OT := OT1))
  have O2 : OwnOff (tl2 ++ OT1) (celA L) := OwnOff.app o2 O1
  have HB2 := HB1.mono (l' := tl2 ++ OT1) fun q hq => List.mem_append_right _ hq
  have HA2 := HA.mono (l' := tl2 ++ OT1) fun q hq => List.mem_append_left _ hq
  have K : KF w p sm L0 L1 L2 L3 T0 T1 T2 A0 A1 A2 A3 l3 (lateLed BK KP nb nk l0 l1 l2 l3 k0 k1 k2 L3 T0 T1 T2 pa sa p sm) (tl2 ++ OT1) := ⟨hp, hs, hfc, haf, i0, i1, i2, hl tl2⟩
  clear N3 ne2 o2 O1 O1x HP1 HG1 HB1 HA hl oT
  generalize tl2 ++ OT1 = OT2 at N4 O2 HB2 HA2 K
  dsimp only [cel, List.cons_append, List.nil_append] at N4
  have O2x := O2
  dsimp only [celA] at O2x
  k_extra "m foldN"
  repeat' ((fail_if_success (with_reducible show wpAny _ _ (execs (Stmt.Assign [Expr.Name (PySem.Str.ofString "lights") _] _ _ :: _) _) _ _ _)); k_extra "m go1")
  with_reducible rename Obj.data _ = Data.cell (some (Value.ref AH)) => dA
  with_reducible rename Fr _ _ _ _ => F9
  with_reducible rename News _ _ _ _ => N9
  have hL : LawIs w _ _ _ := LawIs.intro (by k_is)
  exact S8 hL rfl X T hQ nb nk l0 l1 l2 l3 k0 k1 k2 L0 L1 L2 L3 T0 T1 T2 A0 A1 A2 A3 pa sa p sm OT2 (fr_three F9 rfl rfl rfl) N9 HB2 HA2 K ⟨d1, d2, dB, dA, d5, d6⟩ O2
theorem seg8 (w : World) (S9 : SA9 w) : SA8 w := by
  w_top off
  intro nm body rest sc loose mean mg mb h₀ L f cd m0 s Q E hB hb X T hQ BK AH KP nb nk l0 l1 l2 l3 k0 k1 k2 L0 L1 L2 L3 T0 T1 T2 A0 A1 A2 A3 pa sa p sm OT c1 c2 c3 c4 c5 c6 v1 v2 v5 v6 F N HB HA K hC hO
  subst hb
  obtain ⟨d1, d2, d3, d4, d5, d6⟩ := hC
  have B : Below callerA h₀ [] h₀ := below_caller h₀
  obtain ⟨rfl, rfl, rfl⟩ := hB.same (LawIs.intro (by k_is))
  dsimp only [cel, List.cons_append, List.nil_append] at N
  unfold LawWp
  dsimp only [List.drop]
  clear hB
  k_extra "m foldN"
  repeat' ((fail_if_success (with_reducible show CRest _ _ _ _ _ _ _ _ _ _ _ _ _ _ _ _ _ _ _)); k_extra "m go1")
  refine' crc_rows4 (gl := fun i => (i : Int)) (fs := fun i u => bkT L0 L1 L2 L3 (i : Int) u + trT A0 A1 A2 A3 (i : Int) u) ?hS ?hp ?row ?fin
  case hS => exact fun _ => trivial
  case hp => exact fun i v hi hv => rows_range (n := 4) i v hi hv
  case row =>
    intro i hi t C c oc news' hc hm hsub
    have hk : 0 ≤ (i : Int) ∧ (i : Int) < 4 := ⟨Int.natCast_nonneg i, Int.ofNat_lt.mpr hi⟩
    refine ⟨fun Q E h tk F N k => ?_⟩
    clear hi
    repeat' ((fail_if_success (with_reducible show LCg.CompRest _ _ _ _ _ _ _ _ _ _ _ _ _ _ _ _ _ _ _)); k_extra "m go1")
    refine' cr_ints3 (f := fun u => bkT L0 L1 L2 L3 (i : Int) u + trT A0 A1 A2 A3 (i : Int) u) trivial ?ev ?fin3
    case ev =>
      intro u t' I oI C' oC D oD m₂ h₁ E' hu hC' hx F2 N2
      k_extra "m evI"
    case fin3 =>
      intro t1 t2 t3 D h' tk' F2 N2 o2
      exact k D t1 t2 t3 h' tk' F2 N2 o2
  case fin =>
    intro r0 r1 r2 r3 rows R0 R1 R2 R3 hnc D h' tk' F2 N2 o2
    have N3 : News h₀ L h' (cel L c1 c2 c3 c4 c5 c6 ++ ((D, LCg.lst [Value.ref r0, Value.ref r1, Value.ref r2, Value.ref r3]) :: (rows ++ OT))) := Mine.News.sub N2 (tail_in (rows := rows))
    have HL : SMIn ((D, LCg.lst [Value.ref r0, Value.ref r1, Value.ref r2, Value.ref r3]) :: (rows ++ OT)) D (fun k c => bkT L0 L1 L2 L3 k c + trT A0 A1 A2 A3 k c) := SMIn.of (rows := rows) R0 R1 R2 R3 (.head _) fun q hq => .tail _ (List.mem_append_left _ hq)
    have K' := K.mono (OT' := (D, LCg.lst [Value.ref r0, Value.ref r1, Value.ref r2, Value.ref r3]) :: (rows ++ OT)) fun q hq => .tail _ (List.mem_append_right _ hq)
    have hO' := own_add (rs := (D, LCg.lst [Value.ref r0, Value.ref r1, Value.ref r2, Value.ref r3]) :: rows) N3 ⟨d1, d2, d3, d4, d5, d6⟩ (NoCell.seq hnc) hO
    dsimp only [List.cons_append] at hO'
    clear N2 o2 R0 R1 R2 R3 hnc hO K HB HA
    generalize (D, LCg.lst [Value.ref r0, Value.ref r1, Value.ref r2, Value.ref r3]) :: (rows ++ OT) = OT' at N3 HL K' hO'
    dsimp only [cel, List.cons_append, List.nil_append] at N3
    have hOx := hO'
    dsimp only [celA] at hOx
    repeat' ((fail_if_success (with_reducible show wpAny _ _ (execs (Stmt.Assign [Expr.Name (PySem.Str.ofString "ways") _] _ _ :: _) _) _ _ _)); k_extra "m go1")
    with_reducible rename Obj.data _ = Data.cell (some (Value.ref D)) => dL
    with_reducible rename Fr _ _ _ _ => F9
    with_reducible rename News _ _ _ _ => N9
    have hL : LawIs w _ _ _ := LawIs.intro (by k_is)
    exact S9 hL rfl X T hQ nb nk l0 l1 l2 l3 k0 k1 k2 L0 L1 L2 L3 T0 T1 T2 A0 A1 A2 A3 pa sa p sm OT' F9 N9 HL K' ⟨d1, d2, d3, d4, dL, d6⟩ hO'
theorem seg9 (w : World) (S11 : SegR 11 w) : SA9 w := by
  w_top off
  intro nm body rest sc loose mean mg mb h₀ L f cd m0 s Q E hB hb X T hQ BK LT KP nb nk l0 l1 l2 l3 k0 k1 k2 L0 L1 L2 L3 T0 T1 T2 A0 A1 A2 A3 pa sa p sm OT c1 c2 c3 c4 c5 c6 v1 v2 v4 v6 F N HL K hC hO
  subst hb
  have hC0 := hC
  refine byG (fun P9 hP9 => ?_)
  obtain ⟨d1, d2, d3, d4, d5, d6⟩ := hC
  obtain ⟨nl, g0, g1, g2, g3, hg⟩ := lights_rows HL
  have B : Below callerA h₀ [] h₀ := below_caller h₀
  obtain ⟨rfl, rfl, rfl⟩ := hB.same (LawIs.intro (by k_is))
  refine hP9 ?_
  clear hP9 P9 hB HL
  dsimp only [cel, List.cons_append, List.nil_append] at N
  unfold LawWp
  dsimp only [List.drop]
  k_extra "m foldN"
  repeat' ((fail_if_success (with_reducible show wpAny _ _ (call (Value.ref 209) _) _ _ _)); k_extra "m go1")
  refine' PureB.use (ways_specB w pa.P sa.M p sm) ?zB ?zF ?zX ?zN ?zT ?zk ?zp ?zr ?zu ?_
  case zB => k_asm
  case zF => k_asm
  case zX => k_asm
  case zN => k_asm
  case zT => k_asm
  case zk => exact rfl
  case zp => exact K.tabs (by k_asm) (by k_extra "m tails")
  case zr => ktr_room
  case zu => ktr_units
  intro v' tl1 h1 tk1 F1 N1 ne1 P1
  refine byG (fun P9 hP9 => ?_)
  obtain ⟨WS, vs, ns, tups, rfl, rfl, hall⟩ := P1
  refine hP9 ?_
  clear hP9 P9
  have hT : OwnOff (tups ++ OT) (celA L) := OwnOff.app (fun q hq => own_ne ne1 q (.tail _ hq)) hO
  have hways : All2 (WayIn (tups ++ OT)) vs (specW p sm) := (ways_in hall).mono fun _ _ x => x.mono fun q hq => List.mem_append_left _ hq
  have hlt : ∀ q ∈ OT, q ∈ tups ++ OT := fun q hq => List.mem_append_right _ hq
  have N2 : News h₀ L h1 ((WS, listOf vs.toArray ns) :: (cel L c1 c2 c3 c4 c5 c6 ++ (tups ++ OT))) := Mine.News.sub N1 (tail_in7 (tl := tups) (OT := OT))
  have hlen : vs.length = 81 := by rw [hways.length, spec_len]
  have hg' := fun q hq => hlt q (hg q hq)
  have K' := K.mono hlt
  clear N1 ne1 hall hO F hg K hlt
  generalize tups ++ OT = tail at N2 hT hways hg' K'
  dsimp only [cel, List.cons_append, List.nil_append] at N2
  k_extra "m foldN"
  repeat' ((fail_if_success (with_reducible show wpAny _ _ (eval (Expr.ListComp _ _ _ _) _) _ _ _)); k_extra "m go1")
  k_dflt (refine LCp.ListComp_P (F₀ := by k_asm) (by with_unfolding_all rfl) (by decide) (by rfl) (by decide) (by rfl) (by rfl) (by decide) ?_)
  repeat' ((fail_if_success (with_reducible show LCp.SrcLP _ _ _ _ _ _ _ _ _ _ _ _ _ _ _)); k_extra "m go1")
  refine LCp.SrcLP.ledger (by rfl) (by k_asm) (by k_asm) (by k_mem) (by rw [sizeLine_eq, List.size_toArray, hlen]; decide) ?_
  intro g'
  refine worths_turns rfl rfl (by decide) hways ?ex (.inr ⟨_, by k_mem, rfl, _, rfl⟩) ?fin _ 0 [] (by simp) .nil
  case ex => k_extra "m tails"
  intro ys hys D2 h2 tk2 F3 N3 o3
  (try dsimp only)
  repeat' ((fail_if_success (with_reducible show wpAny _ _ (call (Value.builtin _) _) _ _ _)); k_extra "m go1")
  with_reducible rename News _ _ _ _ => N9
  refine sorted81 (by k_asm) N9 ⟨_, (N9 _ (.head _)).1, rfl, _, rfl⟩ hys (by rw [hys.length, List.length_map, spec_len]) ?_
  intro WO ws ns' no h3 F4 N4 lt4 hI hperm hsorted
  clear N9 lt4 F3
  k_extra "m foldN"
  repeat' ((fail_if_success (with_reducible show wpAny _ _ (execs (Stmt.If _ _ _ _ :: _) _) _ _ _)); k_extra "m go1")
  with_reducible rename Fr _ _ _ _ => F9
  with_reducible rename News _ _ _ _ => N9
  refine byG (fun P9 hP9 => ?_)
  obtain ⟨pre, a, b, Sv, Tv, rfl, hpre, htop⟩ := sorted_two hI hperm hsorted
  refine hP9 ?_
  clear hP9 P9
  have hL : LawIs w _ _ _ := LawIs.intro (by k_is)
  refine S11 hL rfl X T hQ nb nl nk ns no l0 l1 l2 l3 k0 k1 k2 g0 g1 g2 g3 L3 T0 T1 T2 (lightT L0 A0) (lightT L1 A1) (lightT L2 A2) (lightT L3 A3) pa sa p sm vs (pre ++ [.int Sv a, .int Tv b]) Sv Tv tail (fr_five F9 rfl rfl rfl rfl rfl) (Mine.News.sub N9 (ledR_in ?m1 ?m2 hg' ?m3 ?m4)) (lf_make K'.hp K'.hs K'.fc K'.af K'.i0 K'.i1 K'.i2 htop hways ⟨pre, a, b, rfl, hpre⟩ K'.late) hC0 hT
  case m1 => k_mem
  case m2 => k_mem
  case m3 =>
    dsimp only [cel]
    k_extra "m sub"
  case m4 => k_extra "m tails"
theorem seg11 (w : World) (S12 : SegR 12 w) : SegR 11 w := by
  w_top off
  intro nm body rest sc loose mean mg mb h₀ L f cd m0 s Q E hB hb X T hQ BK LT KP WS WO nb nl nk ns no l0 l1 l2 l3 k0 k1 k2 g0 g1 g2 g3 L3 T0 T1 T2 G0 G1 G2 G3 pa sa p sm vs ws Sv Tv tail c1 c2 c3 c4 c5 c6 v1 v2 v4 v6 F N lf hC hT
  subst hb
  have hC0 := hC
  refine byG (fun P9 hP9 => ?_)
  obtain ⟨d1, d2, d3, d4, d5, d6⟩ := hC
  have B : Below callerA h₀ [] h₀ := below_caller h₀
  obtain ⟨rfl, rfl, rfl⟩ := hB.same (LawIs.intro (by k_is))
  refine hP9 ?_
  clear hP9 P9 hB
  dsimp only [ledR, cel, List.cons_append, List.nil_append] at N
  unfold LawWp
  dsimp only [List.drop]
  k_extra "m foldN"
  repeat' ((fail_if_success (with_reducible show wpAny _ _ (call (Value.ref 214) _) _ _ _)); k_extra "m go1")
  refine' Pure.use (most_specN w WS vs ns tail (specW p sm) lf.ways spec_tags ?hz) ?zB ?zF ?zX ?zN ?zT ?zk ?zp ?zr ?zu ?_
  case hz => exact Nat.le_trans (Nat.le_of_eq (lf.ways.length.trans (spec_len p sm))) (by decide)
  case zB => k_asm
  case zF => k_asm
  case zX => k_asm
  case zN => k_asm
  case zT => k_asm
  case zk => exact rfl
  case zp => exact List.forall_mem_cons.mpr ⟨by k_mem, by k_extra "m tails"⟩
  case zr => ktr_room
  case zu => ktr_units
  intro v' tl' h' tk' F1 N1 ne1 P1
  refine byG (fun P9 hP9 => ?_)
  obtain ⟨MO, b0, b1, b2, b3, R0, R1, R2, R3, rfl, rfl, r0, r1, r2, r3⟩ := P1
  have e0 := row_is (k := 0) lf.four (by decide) (fun _ => rfl) lf.b0 r0
  have e1 := row_is (k := 1) lf.four (by decide) (fun _ => rfl) lf.b1 r1
  have e2 := row_is (k := 2) lf.four (by decide) (fun _ => rfl) lf.b2 r2
  have e3 := row_is (k := 3) lf.four (by decide) (fun _ => rfl) lf.b3 r3
  refine hP9 ?_
  clear hP9 P9 ne1 r0 r1 r2 r3
  dsimp only [List.cons_append, List.nil_append] at N1
  (try dsimp only)
  k_extra "m foldN"
  repeat' ((fail_if_success (with_reducible show wpAny _ _ (compareOp _ (Value.ref _) (Value.ref _)) _ _ _)); k_extra "m go1")
  k_dflt (refine' ne44 ?N ?h ?h0 ?h1 ?h2 ?h3 ?g ?g0 ?g1 ?g2 ?g3 e0 e1 e2 e3 ?hu ?_; (case N => k_asm); (case h => k_mem); (case h0 => k_mem); (case h1 => k_mem); (case h2 => k_mem); (case h3 => k_mem); (case g => k_mem); (case g0 => k_mem); (case g1 => k_mem); (case g2 => k_mem); (case g3 => k_mem); (case hu => ke_room))
  clear e0 e1 e2 e3
  (try dsimp only)
  repeat' ((fail_if_success (with_reducible show wpAny _ _ (execs (Stmt.If _ _ _ _ :: _) _) _ _ _)); k_extra "m go1")
  with_reducible rename Fr _ _ _ _ => F9
  with_reducible rename News _ _ _ _ => N9
  have hL : LawIs w _ _ _ := LawIs.intro (by k_is)
  refine S12 hL rfl X T hQ nb nl nk ns no l0 l1 l2 l3 k0 k1 k2 g0 g1 g2 g3 L3 T0 T1 T2 G0 G1 G2 G3 pa sa p sm vs ws Sv Tv tail F9 (Mine.News.sub N9 ?news) lf hC0 hT
  case news =>
    dsimp only [ledR, cel, List.cons_append, List.nil_append]
    k_extra "m subX"
theorem seg16 (w : World) (S17 : SegT 17 w) : SegH 16 w := by
  w_top off
  intro nm body rest sc loose mean mg mb h₀ L f cd m0 s Q E hB hb X T hQ BK LT KP WS WO HU nb nl nk ns no nh l0 l1 l2 l3 k0 k1 k2 g0 g1 g2 g3 L3 T0 T1 T2 G0 G1 G2 G3 pa sa p sm vs ws Sv Tv e0 e1 e2 e3 z0 z1 z2 z3 tail c1 c2 c3 c4 c5 c6 v1 v2 v4 F N lf hf hC hT
  subst hb
  have hC0 := hC
  refine byG (fun P9 hP9 => ?_)
  obtain ⟨d1, d2, d3, d4, d5, d6⟩ := hC
  have B : Below callerA h₀ [] h₀ := below_caller h₀
  obtain ⟨rfl, rfl, rfl⟩ := hB.same (LawIs.intro (by k_is))
  have hpin : ∀ q ∈ [threeRef KP nk k0.R k1.R k2.R, k0.row T0, k1.row T1, k2.row T2], q ∈ tail := fun q hq => lf.late q (late_kept q hq)
  refine hP9 ?_
  clear hP9 P9 hB
  dsimp only [hueO, ledR, cel, List.cons_append, List.nil_append] at N
  unfold LawWp
  dsimp only [List.drop]
  k_extra "m foldN"
  repeat' ((fail_if_success (with_reducible show wpAny _ _ (call (Value.ref 204) _) _ _ _)); k_extra "m go1")
  k_extra "m open"
  with_reducible rename News _ _ _ _ => N9
  refine' PureB.use (popped_specB w KP (kpF T0 T1 T2) e3 z3 hf.g3 (kpF_dig lf.kd)) ?zB ?zF ?zX ?zN ?zT ?zk ?zp ?zr ?zu ?_
  case zB => k_asm
  case zF => k_asm
  case zX => k_asm
  case zN => exact N9
  case zT => k_asm
  case zk => exact rfl
  case zp => exact kept_at N9 (fun q hq => (by k_extra "m tails" : ∀ q ∈ tail, q ∈ _) q (hpin q hq))
  case zr => ktr_room
  case zu => ktr_units
  clear N9
  intro v' tl' h' tk' F1 N1 ne1 P1
  refine byG (fun P9 hP9 => ?_)
  obtain ⟨zt, rfl, rfl⟩ := P1
  refine hP9 ?_
  clear hP9 P9 ne1 hpin
  dsimp only [List.nil_append] at N1
  (try dsimp only)
  k_extra "m foldN"
  repeat' ((fail_if_success (with_reducible show wpAny _ _ (execs (Stmt.If _ _ _ _ :: _) _) _ _ _)); k_extra "m go1")
  with_reducible rename Fr _ _ _ _ => F9
  with_reducible rename News _ _ _ _ => N9
  have hL : LawIs w _ _ _ := LawIs.intro (by k_is)
  refine S17 hL rfl X T hQ nb nl nk ns no nh l0 l1 l2 l3 k0 k1 k2 g0 g1 g2 g3 L3 T0 T1 T2 G0 G1 G2 G3 pa sa p sm vs _ Sv Tv e0 e1 e2 e3 _ _ _ z0 z1 z2 z3 zt tail (fr_six F9 rfl rfl rfl rfl rfl rfl) (Mine.News.sub N9 (by
    dsimp only [hueO, ledR, cel, List.cons_append, List.nil_append]
    k_extra "m subX")) lf hf ⟨rfl, rfl, rfl⟩ hC0 hT
example : True := by
  k_with "subscriptTail Name UnaryOp ref int" => ((k_here; (first
      | ((with_reducible show wpAny _ _ (subscriptTail _ _ (Value.ref _) (Value.int (-1) _)) _ _ _); k_dflt (refine' item_m1 ?k1 ?k2 ?k3 ?_ ?k6; (case k1 => k_asm); (case k2 => k_mem); (case k3 => assumption); (case k6 => with_unfolding_all rfl); k_whole))
      | ((with_reducible show wpAny _ _ (subscriptTail _ _ (Value.ref _) (Value.int (-2) _)) _ _ _); k_dflt (refine' item_m2 ?k1 ?k2 ?k3 ?_ ?k6; (case k1 => k_asm); (case k2 => k_mem); (case k3 => assumption); (case k6 => with_unfolding_all rfl); k_whole)))))
  k_with "call ref" => ((k_here; (with_reducible show wpAny _ _ (call (Value.ref 173) _) _ _ _); k_dflt (refine' value_use (r := 3) ?B ?F ?X ?N ?T ?hk ?h1 ?h2 ?h3 ?m1 hb.1 hb.2.1 hb.2.2 ?_; (case B => k_asm); (case F => k_asm); (case X => k_asm); (case N => k_asm); (case T => k_asm); (case hk => exact rfl); (case h1 => ktr_room); (case h2 => ktr_units); (case h3 => exact rfl); (case m1 => k_mem)); intro t' h' tk' F' N'; (try k_sweep)))
  trivial
example : True := by
  k_with "call ref" => ((k_here; (with_reducible show wpAny _ _ (call (Value.ref 180) _) _ _ _); k_dflt (refine' middle_use (r := 3) ?B ?F ?X ?N ?T ?hk ?h1 ?h2 ?h3 ?m1 hb.1 hb.2.1 hb.2.2 ?_; (case B => k_asm); (case F => k_asm); (case X => k_asm); (case N => k_asm); (case T => k_asm); (case hk => exact rfl); (case h1 => ktr_room); (case h2 => ktr_units); (case h3 => exact rfl); (case m1 => k_mem)); intro t' h' tk' F' N'; (try k_sweep)))
  k_with "call ref" => ((k_here; (with_reducible show wpAny _ _ (call (Value.ref 187) _) _ _ _); k_dflt (refine' tag_use (r := 3) ?B ?F ?X ?N ?T ?hk ?h1 ?h2 ?h3 ?m1 hb.1 hb.2.1 hb.2.2 ?_; (case B => k_asm); (case F => k_asm); (case X => k_asm); (case N => k_asm); (case T => k_asm); (case hk => exact rfl); (case h1 => ktr_room); (case h2 => ktr_units); (case h3 => exact rfl); (case m1 => k_mem)); intro c9 t' h' tk' F' N' q9; (try k_sweep)))
  trivial
theorem seg12 (w : World) (S13 : SegR 13 w) : SegR 12 w := by
  w_top off
  intro nm body rest sc loose mean mg mb h₀ L f cd m0 s Q E hB hb X T hQ BK LT KP WS WO nb nl nk ns no l0 l1 l2 l3 k0 k1 k2 g0 g1 g2 g3 L3 T0 T1 T2 G0 G1 G2 G3 pa sa p sm vs ws Sv Tv tail c1 c2 c3 c4 c5 c6 v1 v2 v4 v6 F N lf hC hT
  subst hb
  have hC0 := hC
  refine byG (fun P9 hP9 => ?_)
  obtain ⟨d1, d2, d3, d4, d5, d6⟩ := hC
  have B : Below callerA h₀ [] h₀ := below_caller h₀
  obtain ⟨rfl, rfl, rfl⟩ := hB.same (LawIs.intro (by k_is))
  obtain ⟨pre, a, b, hws, hpre⟩ := lf.worths
  subst hws
  refine hP9 ?_
  clear hP9 P9 hB
  dsimp only [ledR, cel, List.cons_append, List.nil_append] at N
  unfold LawWp
  dsimp only [List.drop]
  k_extra "m foldN"
  repeat' ((fail_if_success (with_reducible show LCg.CompRest _ _ _ _ _ _ _ _ _ _ _ _ _ _ _ _ _ _ _)); k_extra "m go1")
  k_dflt (refine' cr_lights (R := fun G y => y = mx3 G.1 G.2.1 G.2.2) (g0 := g0) (g1 := g1) (g2 := g2) (g3 := g3) (G0 := G0) (G1 := G1) (G2 := G2) (G3 := G3) ?hS ⟨?l0, ?l1, ?l2, ?l3, lf.b0, lf.b1, lf.b2, lf.b3⟩ ?turn ?fin)
  case hS => lcg_src
  case l0 => k_mem
  case l1 => k_mem
  case l2 => k_mem
  case l3 => k_mem
  case turn =>
    intro gg G I oI C oC D oD m₂ h₁ tk E' hb hm hC' hx' F2 N2
    k_extra "m foldN"
    repeat' ((fail_if_success (with_reducible show SomeInt _ _ _ _ _ _ _ _ _ _)); k_extra "m go1")
    with_reducible rename Fr _ _ _ _ => F9
    with_reducible rename News _ _ _ _ => N9
    exact ⟨_, _, _, _, rfl, rfl, rfl, F9, N9⟩
  case fin =>
    intro x0 x1 x2 x3 t0 t1 t2 t3 r0 r1 r2 r3
    repeat' ((fail_if_success (with_reducible show wpAny _ _ (compareOp _ (Value.ref _) (Value.ref _)) _ _ _)); k_extra "m go1")
    k_dflt (refine' ne4 ?N ?h ?g ?eq ?hu ?_; (case N => k_asm); (case h => k_mem); (case g => k_mem); (case hu => ke_room); (case eq => exact four_eq (bd_val lf.four lf.top) r0 r1 r2 r3))
    clear r0 r1 r2 r3
    (try dsimp only)
    repeat' ((fail_if_success (with_reducible show wpAny _ _ (execs (Stmt.If _ _ _ _ :: _) _) _ _ _)); k_extra "m go1")
    with_reducible rename Fr _ _ _ _ => F9
    with_reducible rename News _ _ _ _ => N9
    have hL : LawIs w _ _ _ := LawIs.intro (by k_is)
    refine S13 hL rfl X T hQ nb nl nk ns no l0 l1 l2 l3 k0 k1 k2 g0 g1 g2 g3 L3 T0 T1 T2 G0 G1 G2 G3 pa sa p sm vs _ Sv Tv tail F9 (Mine.News.sub N9 ?news) lf hC0 hT
    case news =>
      dsimp only [ledR, cel, List.cons_append, List.nil_append]
      k_extra "m subX"
theorem seg13 (w : World) (S14 : SegR 14 w) : SegR 13 w := by
  w_top off
  intro nm body rest sc loose mean mg mb h₀ L f cd m0 s Q E hB hb X T hQ BK LT KP WS WO nb nl nk ns no l0 l1 l2 l3 k0 k1 k2 g0 g1 g2 g3 L3 T0 T1 T2 G0 G1 G2 G3 pa sa p sm vs ws Sv Tv tail c1 c2 c3 c4 c5 c6 v1 v2 v4 v6 F N lf hC hT
  subst hb
  have hC0 := hC
  refine byG (fun P9 hP9 => ?_)
  obtain ⟨d1, d2, d3, d4, d5, d6⟩ := hC
  have B : Below callerA h₀ [] h₀ := below_caller h₀
  obtain ⟨rfl, rfl, rfl⟩ := hB.same (LawIs.intro (by k_is))
  obtain ⟨pre, a, b, hws, hpre⟩ := lf.worths
  subst hws
  refine hP9 ?_
  clear hP9 P9 hB
  dsimp only [ledR, cel, List.cons_append, List.nil_append] at N
  unfold LawWp
  dsimp only [List.drop]
  k_extra "m foldN"
  repeat' ((fail_if_success (with_reducible show LCg.CompRest _ _ _ _ _ _ _ _ _ _ _ _ _ _ _ _ _ _ _)); k_extra "m go1")
  k_dflt (refine' cr_lights (R := fun G y => y = med G.1 G.2.1 G.2.2) (g0 := g0) (g1 := g1) (g2 := g2) (g3 := g3) (G0 := G0) (G1 := G1) (G2 := G2) (G3 := G3) ?hS ⟨?l0, ?l1, ?l2, ?l3, lf.b0, lf.b1, lf.b2, lf.b3⟩ ?turn ?fin)
  case hS => lcg_src
  case l0 => k_mem
  case l1 => k_mem
  case l2 => k_mem
  case l3 => k_mem
  case turn =>
    intro gg G I oI C oC D oD m₂ h₁ tk E' hb hm hC' hx' F2 N2
    k_extra "m foldN"
    repeat' ((fail_if_success (with_reducible show SomeInt _ _ _ _ _ _ _ _ _ _)); k_extra "m go1")
    with_reducible rename Fr _ _ _ _ => F9
    with_reducible rename News _ _ _ _ => N9
    exact ⟨_, _, _, _, rfl, rfl, rfl, F9, N9⟩
  case fin =>
    intro x0 x1 x2 x3 t0 t1 t2 t3 r0 r1 r2 r3
    subst r0 r1 r2 r3
    repeat' ((fail_if_success (with_reducible show wpAny _ _ (call (Value.builtin _) _) _ _ _)); k_extra "m go1")
    k_extra "m open"
    with_reducible rename News _ _ _ _ => N9
    refine kso_max (by k_asm) N9 (N9.isList (.head _)) (.cons _ _ (.cons _ _ (.cons _ _ (.cons _ _ .nil)))) (Nat.zero_lt_succ _) rfl ?_
    clear N9
    intro h9 M t9 tk9 F9 N9 hM hle
    have e9 : Sv = M := (bd_mid lf.four lf.top hle hM).symm
    clear hM hle
    subst e9
    (try dsimp only)
    k_extra "m foldN"
    repeat' ((fail_if_success (with_reducible show wpAny _ _ (compareOp _ (Value.int _ _) (Value.int _ _)) _ _ _)); k_extra "m go1")
    refine PyProof.Rows.ne_int ?_
    simp only [bne_self_eq_false]
    (try dsimp only)
    repeat' ((fail_if_success (with_reducible show wpAny _ _ (execs (Stmt.Assign _ _ _ :: _) _) _ _ _)); k_extra "m go1")
    with_reducible rename Fr _ _ _ _ => F8
    with_reducible rename News _ _ _ _ => N7
    have hL : LawIs w _ _ _ := LawIs.intro (by k_is)
    refine S14 hL rfl X T hQ nb nl nk ns no l0 l1 l2 l3 k0 k1 k2 g0 g1 g2 g3 L3 T0 T1 T2 G0 G1 G2 G3 pa sa p sm vs _ Sv Tv tail F8 (Mine.News.sub N7 ?news) lf hC0 hT
    case news =>
      dsimp only [ledR, cel, List.cons_append, List.nil_append]
      k_extra "m subX"
theorem seg14 (w : World) (S15 : SegH 15 w) : SegR 14 w := by
  w_top off
  intro nm body rest sc loose mean mg mb h₀ L f cd m0 s Q E hB hb X T hQ BK LT KP WS WO nb nl nk ns no l0 l1 l2 l3 k0 k1 k2 g0 g1 g2 g3 L3 T0 T1 T2 G0 G1 G2 G3 pa sa p sm vs ws Sv Tv tail c1 c2 c3 c4 c5 c6 v1 v2 v4 v6 F N lf hC hT
  subst hb
  have hC0 := hC
  refine byG (fun P9 hP9 => ?_)
  obtain ⟨d1, d2, d3, d4, d5, d6⟩ := hC
  have B : Below callerA h₀ [] h₀ := below_caller h₀
  obtain ⟨rfl, rfl, rfl⟩ := hB.same (LawIs.intro (by k_is))
  obtain ⟨pre, a, b, hws, hpre⟩ := lf.worths
  subst hws
  refine hP9 ?_
  clear hP9 P9 hB
  have hO := ledR_own N hC0
  dsimp only [ledR, cel, celA, List.cons_append, List.nil_append] at N hO hT
  unfold LawWp
  dsimp only [List.drop]
  k_extra "m foldN"
  repeat' ((fail_if_success (with_reducible show LCg.CompRest _ _ _ _ _ _ _ _ _ _ _ _ _ _ _ _ _ _ _)); k_extra "m go1")
  k_dflt (refine' cr_lights (R := fun G y => Dig y ∧ pick3 G.1 G.2.1 G.2.2 y = mx3 G.1 G.2.1 G.2.2) (g0 := g0) (g1 := g1) (g2 := g2) (g3 := g3) (G0 := G0) (G1 := G1) (G2 := G2) (G3 := G3) ?hS ⟨?l0, ?l1, ?l2, ?l3, lf.b0, lf.b1, lf.b2, lf.b3⟩ ?turn ?fin)
  case hS => lcg_src
  case l0 => k_mem
  case l1 => k_mem
  case l2 => k_mem
  case l3 => k_mem
  case turn =>
    intro gg G I oI C oC D oD m₂ h₁ tk E' hb hm hC' hx' F2 N2
    k_extra "m foldN"
    repeat' ((fail_if_success (with_reducible show SomeInt _ _ _ _ _ _ _ _ _ _)); k_extra "m go1")
    with_reducible rename Fr _ _ _ _ => F9
    with_reducible rename News _ _ _ _ => N9
    exact ⟨_, _, _, _, rfl, tag_dig (by assumption), rfl, F9, N9⟩
  case fin =>
    intro x0 x1 x2 x3 t0 t1 t2 t3 r0 r1 r2 r3
    repeat' ((fail_if_success (with_reducible show wpAny _ _ (execs (Stmt.If _ _ _ _ :: _) _) _ _ _)); k_extra "m go1")
    with_reducible rename Fr _ _ _ _ => F9
    with_reducible rename News _ _ _ _ => N9
    with_reducible rename Obj.data _ = Data.cell (some (Value.ref _)) => dH
    have hL : LawIs w _ _ _ := LawIs.intro (by k_is)
    refine S15 hL rfl X T hQ nb nl nk ns no _ l0 l1 l2 l3 k0 k1 k2 g0 g1 g2 g3 L3 T0 T1 T2 G0 G1 G2 G3 pa sa p sm vs _ Sv Tv _ _ _ _ _ _ _ _ tail F9 (Mine.News.sub N9 (by
      dsimp only [hueO, ledR, cel, List.cons_append, List.nil_append]
      k_extra "m subX")) lf (hf_make lf.four lf.top r0 r1 r2 r3) ⟨hC0.h1, hC0.h2, hC0.h3, hC0.h4, hC0.h5, dH⟩ hT
theorem seg15 (w : World) (S16 : SegH 16 w) : SegH 15 w := by
  w_top off
  intro nm body rest sc loose mean mg mb h₀ L f cd m0 s Q E hB hb X T hQ BK LT KP WS WO HU nb nl nk ns no nh l0 l1 l2 l3 k0 k1 k2 g0 g1 g2 g3 L3 T0 T1 T2 G0 G1 G2 G3 pa sa p sm vs ws Sv Tv e0 e1 e2 e3 z0 z1 z2 z3 tail c1 c2 c3 c4 c5 c6 v1 v2 v4 F N lf hf hC hT
  subst hb
  have hC0 := hC
  refine byG (fun P9 hP9 => ?_)
  obtain ⟨d1, d2, d3, d4, d5, d6⟩ := hC
  have B : Below callerA h₀ [] h₀ := below_caller h₀
  obtain ⟨rfl, rfl, rfl⟩ := hB.same (LawIs.intro (by k_is))
  obtain ⟨pre, a, b, hws, hpre⟩ := lf.worths
  subst hws
  refine hP9 ?_
  clear hP9 P9 hB
  dsimp only [hueO, ledR, cel, celA, List.cons_append, List.nil_append] at N hT
  unfold LawWp
  dsimp only [List.drop]
  k_extra "m foldN"
  repeat' ((fail_if_success (with_reducible show LCg.CompRest _ _ _ _ _ _ _ _ _ _ _ _ _ _ _ _ _ _ _)); k_extra "m go1")
  k_dflt (refine' cr_ints4 (f := fun _ => Tv) trivial ?turn ?fin)
  case turn =>
    intro u t' I oI C oC D oD m₂ h₁ E' hu hC' hx' F2 N2
    obtain ⟨q0, q1, q2, q3, w0, w1, w2, w3⟩ := hf
    rcases u4 hu with rfl | rfl | rfl | rfl
    · rw [← w0]; (refine' Ev.it3 ?e ?n ?m ?j q0 ?s; (case n => k_asm); (case s => exact fun _ _ _ => by with_unfolding_all rfl); (case e => k_extra "m evR"); (case m => k_mem); (case j => k_extra "m evI"))
    · rw [← w1]; (refine' Ev.it3 ?e ?n ?m ?j q1 ?s; (case n => k_asm); (case s => exact fun _ _ _ => by with_unfolding_all rfl); (case e => k_extra "m evR"); (case m => k_mem); (case j => k_extra "m evI"))
    · rw [← w2]; (refine' Ev.it3 ?e ?n ?m ?j q2 ?s; (case n => k_asm); (case s => exact fun _ _ _ => by with_unfolding_all rfl); (case e => k_extra "m evR"); (case m => k_mem); (case j => k_extra "m evI"))
    · rw [← w3]; (refine' Ev.it3 ?e ?n ?m ?j q3 ?s; (case n => k_asm); (case s => exact fun _ _ _ => by with_unfolding_all rfl); (case e => k_extra "m evR"); (case m => k_mem); (case j => k_extra "m evI"))
  case fin =>
    intro t1 t2 t3 t4
    repeat' ((fail_if_success (with_reducible show wpAny _ _ (compareOp _ (Value.ref _) (Value.ref _)) _ _ _)); k_extra "m go1")
    k_dflt (refine' ne4 ?N ?h ?g ⟨rfl, rfl, rfl, rfl⟩ ?hu ?_; (case N => k_asm); (case h => k_mem); (case g => k_mem); (case hu => ke_room))
    (try dsimp only)
    repeat' ((fail_if_success (with_reducible show wpAny _ _ (execs (Stmt.Assign _ _ _ :: _) _) _ _ _)); k_extra "m go1")
    with_reducible rename Fr _ _ _ _ => F9
    with_reducible rename News _ _ _ _ => N9
    have hL : LawIs w _ _ _ := LawIs.intro (by k_is)
    refine S16 hL rfl X T hQ nb nl nk ns no nh l0 l1 l2 l3 k0 k1 k2 g0 g1 g2 g3 L3 T0 T1 T2 G0 G1 G2 G3 pa sa p sm vs _ Sv Tv e0 e1 e2 e3 z0 z1 z2 z3 tail F9 (Mine.News.sub N9 (by
      dsimp only [hueO, ledR, cel, List.cons_append, List.nil_append]
      k_extra "m subX")) lf hf hC0 hT
theorem seg17 (w : World) (S18 : SegT 18 w) : SegT 17 w := by
  w_top off
  intro nm body rest sc loose mean mg mb h₀ L f cd m0 s Q E hB hb X T hQ BK LT KP WS WO HU nb nl nk ns no nh l0 l1 l2 l3 k0 k1 k2 g0 g1 g2 g3 L3 T0 T1 T2 G0 G1 G2 G3 pa sa p sm vs ws Sv Tv e0 e1 e2 e3 j0 j1 j2 z0 z1 z2 z3 zt tail c1 c2 c3 c4 c5 c6 v1 v2 v4 F N lf hf tf hC hT
  subst hb
  have hC0 := hC
  refine byG (fun P9 hP9 => ?_)
  obtain ⟨d1, d2, d3, d4, d5, d6⟩ := hC
  have B : Below callerA h₀ [] h₀ := below_caller h₀
  obtain ⟨rfl, rfl, rfl⟩ := hB.same (LawIs.intro (by k_is))
  obtain ⟨pre, a, b, hws, hpre⟩ := lf.worths
  subst hws
  refine hP9 ?_
  clear hP9 P9 hB
  dsimp only [hueO, ledR, cel, List.cons_append, List.nil_append] at N
  unfold LawWp
  dsimp only [List.drop]
  k_extra "m foldN"
  repeat' ((fail_if_success (with_reducible show wpAny _ _ (compareOp _ (Value.ref _) (Value.ref _)) _ _ _)); k_extra "m go1")
  refine' way_notIn ?N ?hW lf.ways ?ht ?hx ?hne (told_facts lf hf tf).2.2.2.2.2.2 ?hu ?_
  case N => k_asm
  case hW => k_mem
  case ht => k_extra "m tails"
  case hx => k_mem
  case hne => k_extra "m alloff"
  case hu => ke_room
  (try dsimp only)
  repeat' ((fail_if_success (with_reducible show wpAny _ _ (execs (Stmt.Assign _ _ _ :: _) _) _ _ _)); k_extra "m go1")
  with_reducible rename Fr _ _ _ _ => F9
  with_reducible rename News _ _ _ _ => N9
  have hL : LawIs w _ _ _ := LawIs.intro (by k_is)
  refine S18 hL rfl X T hQ nb nl nk ns no nh l0 l1 l2 l3 k0 k1 k2 g0 g1 g2 g3 L3 T0 T1 T2 G0 G1 G2 G3 pa sa p sm vs _ Sv Tv e0 e1 e2 e3 j0 j1 j2 z0 z1 z2 z3 zt tail F9 (Mine.News.sub N9 (by
    dsimp only [hueO, ledR, cel, List.cons_append, List.nil_append]
    k_extra "m subX")) lf hf tf hC0 hT
example : True := by
  k_with "subscriptTail Name Constant ref int" => ((k_here; (with_reducible show wpAny _ _ (subscriptTail _ _ (Value.ref _) (Value.int 4 _)) _ _ _); k_dflt (refine' item_tup ?k1 ?k2 ?k3 ?k4 ?k5 ?_ ?k6; (case k1 => k_asm); (case k2 => k_mem); (case k3 => with_unfolding_all decide); (case k4 => with_unfolding_all rfl); (case k5 => with_unfolding_all rfl); (case k6 => with_unfolding_all rfl); k_whole)))
  k_with "subscriptTail Subscript Name Constant Subscript ref int" => ((k_here; (with_reducible show wpAny _ _ (subscriptTail _ _ (Value.ref _) (Value.int _ _)) _ _ _); k_dflt (refine' item_sym ?k1 ?k2 ?k3 ?k4 ?_ ?k6; (case k1 => k_asm); (case k2 => k_mem); (case k3 => assumption); (case k4 => assumption); (case k6 => with_unfolding_all rfl); k_whole)))
  trivial
theorem seg18 (w : World) : SegT 18 w := by
  w_top off
  intro nm body rest sc loose mean mg mb h₀ L f cd m0 s Q E hB hb X T hQ BK LT KP WS WO HU nb nl nk ns no nh l0 l1 l2 l3 k0 k1 k2 g0 g1 g2 g3 L3 T0 T1 T2 G0 G1 G2 G3 pa sa p sm vs ws Sv Tv e0 e1 e2 e3 j0 j1 j2 z0 z1 z2 z3 zt tail c1 c2 c3 c4 c5 c6 v1 v2 v4 F N lf hf tf hC hT
  subst hb
  refine byG (fun P9 hP9 => ?_)
  obtain ⟨d1, d2, d3, d4, d5, d6⟩ := hC
  have B : Below callerA h₀ [] h₀ := below_caller h₀
  obtain ⟨rfl, rfl, rfl⟩ := hB.same (LawIs.intro (by k_is))
  obtain ⟨⟨a0, a1, a2⟩, ecc, enc, ett, ect, eD, _⟩ := told_facts lf hf tf
  have hg3 := hf.g3
  obtain ⟨ab, hab, hD, hlate⟩ := late_book (BK := BK) (KP := KP) (nb := nb) (nk := nk) (l0 := l0) (l1 := l1) (l2 := l2) (k0 := k0) (k1 := k1) (k2 := k2) (T0 := T0) (T1 := T1) (T2 := T2) (pa := pa) (sa := sa) (p := p) (sm := sm) hg3 lf.i0 lf.i1 lf.i2
  have hpin : ∀ q ∈ pa.led p ++ sa.led sm, q ∈ tail := fun q hq => lf.late q (late_pins q hq)
  have N0 := Mine.News.sub N (l' := hueO HU nh e0 e1 e2 e3 z0 z1 z2 z3 :: fourRef BK nb l0.B l1.B l2.B l3.B :: threeRef l3.B l3.n l3.a0.t l3.a1.t l3.a2.t :: ab.row (L3.at e3) :: (ab.d, ab.o) :: (cel L c1 c2 c3 c4 c5 c6 ++ tail)) (by
    have ht : ∀ q ∈ tail, q ∈ (hueO HU nh e0 e1 e2 e3 z0 z1 z2 z3 :: (ledR WS WO LT ns no nl g0 g1 g2 g3 G0 G1 G2 G3 vs ws ++ (cel L c1 c2 c3 c4 c5 c6 ++ tail))) := fun q hq => .tail _ (List.mem_append_right _ (List.mem_append_right _ hq))
    refine List.forall_mem_cons.mpr ⟨.head _, List.forall_mem_cons.mpr ⟨ht _ (lf.late _ (hlate _ (.head _))), List.forall_mem_cons.mpr ⟨ht _ (lf.late _ (hlate _ (.tail _ (.head _)))), List.forall_mem_cons.mpr ⟨ht _ (lf.late _ (hlate _ (.tail _ (.tail _ (.head _))))), List.forall_mem_cons.mpr ⟨ht _ (lf.late _ (hlate _ (.tail _ (.tail _ (.tail _ (.head _)))))), ?_⟩⟩⟩⟩⟩
    intro q hq
    exact .tail _ (List.mem_append_right _ hq))
  rw [eD] at hD
  refine hP9 ?_
  clear hP9 P9 hB N hlate lf hf tf eD
  dsimp only [hueO, cel, List.cons_append, List.nil_append] at N0
  unfold LawWp
  dsimp only [List.drop]
  k_extra "m foldN"
  repeat' ((fail_if_success (with_reducible show wpAny _ _ (call (Value.ref 219) _) _ _ _)); k_extra "m go1")
  k_extra "m open"
  with_reducible rename News _ _ _ _ => N9
  refine' PureB.use (due_specB w pa.P sa.M p sm zt j0 j1 j2 e3 a0 a1 a2 hg3) ?zB ?zF ?zX ?zN ?zT ?zk ?zp ?zr ?zu ?_
  case zB => k_asm
  case zF => k_asm
  case zX => k_asm
  case zN => exact N9
  case zT => k_asm
  case zk => exact rfl
  case zp => exact TabsAt.of _ (fun q hq => (N9 _ ((by k_extra "m tails" : ∀ q ∈ tail, q ∈ _) q (hpin q hq))).1)
  case zr => ktr_room
  case zu => ktr_units
  clear N9
  intro v' tl' h' tk' F1 N1 ne1 P1
  refine byG (fun P9 hP9 => ?_)
  obtain ⟨DT, C, o, x1, x2, x3, x4, al, sh, rfl, rfl, hC', hal, hsh⟩ := P1
  have hne : @Ne Nat C ab.d := ne1 (ab.d, ab.o) (.tail _ (.tail _ (.tail _ (.tail _ (.head _))))) (C, o) (.tail _ (.head _))
  refine hP9 ?_
  clear hP9 P9 ne1 hpin
  dsimp only [List.cons_append, List.nil_append] at N1
  (try dsimp only)
  k_extra "m foldN"
  repeat' ((fail_if_success (with_reducible show wpAny _ _ (compareOp _ (Value.ref _) (Value.ref _)) _ _ _)); k_extra "m go1")
  k_extra "m open"
  with_reducible rename News _ _ _ _ => N9
  refine' eq_tuples ⟨_, (N9 _ (.tail _ (.tail _ (.tail _ (.tail _ (.tail _ (.head _)))))) ).1, rfl, _, rfl⟩ ⟨_, (N9 _ (.head _)).1, rfl, _, rfl⟩ rfl ?hu ?he ?_
  case hu => ke_room
  case he =>
    refine List.forall_mem_cons.mpr ⟨.int ecc, List.forall_mem_cons.mpr ⟨.int (enc.trans hal.symm), List.forall_mem_cons.mpr ⟨.int (ett.trans hsh.symm), List.forall_mem_cons.mpr ⟨.int (ect.trans (wd_split hal hsh)), List.forall_mem_cons.mpr ⟨?sd, List.forall_mem_nil _⟩⟩⟩⟩⟩
    exact same_dicts N9 (.tail _ (.tail _ (.tail _ (.tail _ (.tail _ (.tail _ (.head _))))))) (.tail _ (.head _)) hD hC' (Ne.symm hne) (by ke_room)
  refine byG (fun P9 hP9 => ?_)
  obtain ⟨s3, len1, len3⟩ := dueD_sum j0 j1 j2 e3
  refine hP9 ?_
  clear hP9 P9 ecc enc ett ect hal hsh hC' hab hne
  k_extra "m foldN"
  (try dsimp only)
  repeat' ((fail_if_success (with_reducible show wpAny _ _ (call (Value.ref 42) _) _ _ _)); k_extra "m go1")
  refine' Pure.use (count_calls_spec w ab.d ab.o (dueD j0 j1 j2 e3) hD len1 len3) ?zB ?zF ?zX ?zN ?zT ?zk ?zp ?zr ?zu ?_
  case zB => k_asm
  case zF => k_asm
  case zX => k_asm
  case zN => k_asm
  case zT => k_asm
  case zk => exact rfl
  case zp => k_extra "m sub"
  case zr => ktr_room
  case zu => ktr_units
  intro v' tl' h2' tk2' F2 N2 ne2 P2
  refine byG (fun P9 hP9 => ?_)
  obtain ⟨t9, rfl, rfl⟩ := P2
  refine hP9 ?_
  clear hP9 P9 ne2 F1
  dsimp only [List.nil_append] at N2
  rw [s3]
  (try dsimp only)
  repeat' ((fail_if_success (with_reducible show wpAny _ _ (compareOp _ (Value.int _ _) (Value.int _ _)) _ _ _)); k_extra "m go1")
  refine PyProof.Rows.eq_int ?_
  simp only [beq_self_eq_true]
  (try dsimp only)
  with_reducible rename Fr _ _ _ _ => F9
  with_reducible rename News _ _ _ _ => N9
  exact hQ _ _ _ _ F9 N9
example : True := by
  k_with "m evN" => ((refine' Ev.cG ?nF ?nX ?nT ?nV ?nE ?nG ?nK ?nL ?nD; (case nE => with_reducible exact rfl); (case nL => exact rfl); (case nK => exact rfl); (case nF => k_asm); (case nX => k_asm); (case nT => k_asm); (case nV => k_is); (case nG => exact rfl); (case nD => decide)))
  k_with "m evI" => (((with_reducible apply Ev.digit); (k_extra "m evI"); (k_extra "m evI"); (k_extra "m rng9")))
  k_with "m rng9" => ((constructor <;> omega))
  trivial
theorem signs_specN (w : World) (l : Addr) (x0 x1 x2 x3 : Int) (t0 t1 t2 t3 t4 t5 : Tok) (nn : Nat) (h0 : 1 ≤ x0 ∧ x0 < 512) (h1 : 1 ≤ x1 ∧ x1 < 512) (h2 : 1 ≤ x2 ∧ x2 < 512) (h3 : 1 ≤ x3 ∧ x3 < 512) :
   Pure w 166 4 [.ref l] [(l, listOf #[.int x0 t0, .int x1 t1, .int x2 t2, .int x3 t3, .int 0 t4, .int 1 t5] nn)] (fun v tl => ∃ G, v = .ref G ∧ SMIn tl G (smOf x0 x1 x2 x3).at ∧ NoCell tl) := by
  w_top off
  intro loose mean mg mb dp un gd cn cs a ccd cl outer A₀ base h₀ L m news s Q E B F X N T hk hp hd hu k
  k_dflt (k_extra "m cells")
  k_extra "m foldN"
  rename Obj => o1
  with_reducible rename Obj.data _ = _ => d1
  repeat' ((fail_if_success (with_reducible show wpAny _ _ (PySem.storeName _ (PySem.Str.ofString "signs") _) _ _ _)); k_extra "m go1")
  rename Addr => lS
  k_extra "m steps"
  (with_unfolding_all refine iter_listTurns (lo := listOf #[.int x0 t0, .int x1 t1, .int x2 t2, .int x3 t3, .int 0 t4, .int 1 t5] nn) (vs := [.int x0 t0, .int x1 t1, .int x2 t2, .int x3 t3, .int 0 t4, .int 1 t5]) (by rfl) (by k_asm) (by k_asm) (by k_mem) (by rfl) (by rfl) ?_)
  intro I lI
  replace lI := OffD.of lI
  refine' items_ind (fun p : Int × Tok => Itm.val (.int p.1 p.2)) [.val (.int 0 t4), .val (.int 1 t5)] [] _ (SInv I (listOf #[.int x0 t0, .int x1 t1, .int x2 t2, .int x3 t3, .int 0 t4, .int 1 t5] nn) [x0, x1, x2, x3] lS (L' + 1) l) ?base ?step [(x0, t0), (x1, t1), (x2, t2), (x3, t3)] _ _ ?ag ?inv
  case ag => exact (by intro z _; rfl)
  case inv =>
    refine ⟨[], [], 0, [], o1, _, rfl, d1, fun _ h => (nomatch h), .nil, rfl, ?hb, ⟨?n1, ?n2, ?n3, ?n4, ?n5, ?n6⟩⟩
    case hb => exact List.forall_mem_cons.mpr ⟨h0, List.forall_mem_cons.mpr ⟨h1, List.forall_mem_cons.mpr ⟨h2, List.forall_mem_cons.mpr ⟨h3, List.forall_mem_nil _⟩⟩⟩⟩
    case n1 => k_extra "m neq"
    case n2 => k_extra "m neq"
    case n3 => k_extra "m neq"
    case n4 => k_extra "m neq"
    case n5 => k_extra "m neq"
    case n6 => exact Ne.symm (Nat.ne_of_lt (Nat.lt_succ_of_lt l1))
  case base =>
    intro news u hi
    refine byG (fun P9 hP9 => ?_)
    obtain ⟨done, vs, k0, extra, oc, vc, rfl, hoc, hoff, hall, hdone, _, hI1, hI2, hI3, hI4, hI5, hI6⟩ := hi
    refine hP9 ?_
    clear hP9 P9
    k_extra "m go"
    rw [List.map_nil, List.append_nil] at hdone
    subst hdone
    refine byG (fun P9 hP9 => ?_)
    obtain ⟨tl, hS, hc, hs, hn⟩ := signs_base (k := k0) hall hoff hI5
    refine hP9 ?_
    clear hP9 P9
    refine' hZ tl _ _ _ _ _ ⟨lS, rfl, hS, hc⟩ ?F ?N ?s ?s' ?ne
    case F => k_asm
    case N => k_asm
    case s =>
      intro p hp
      rcases List.mem_cons.mp (hs p hp) with rfl | hp
      · k_mem
      · exact (by k_extra "m tails" : ∀ q ∈ extra, q ∈ _) _ hp
    case s' => k_extra "m sub"
    case ne =>
      intro q hq p hp
      rw [List.mem_singleton] at hq
      subst hq
      exact hn p hp
  case step =>
    intro xt r news u hi v h tk hv F1
    refine byG (fun P9 hP9 => ?_)
    obtain ⟨x, t⟩ := xt
    obtain ⟨done, vs, k0, extra, oc, vc, rfl, hoc, hoff, hall, hdone, hr, hI1, hI2, hI3, hI4, hI5, hI6⟩ := hi
    cases hv
    have hx := hr _ List.mem_cons_self
    have hz : vs.toArray.size ≤ sizeLine := by
      have e1 := hall.length
      have e2 := congrArg List.length hdone
      rw [sizeLine_eq]
      simp at e2 ⊢
      omega
    refine hP9 ?_
    clear hP9 P9
    refine AllObj.cons (fun o' hc' => ?_)
    refine AllObj.nil (fun N1 => ?_)
    dsimp only [List.cons_append, List.nil_append] at hx N1 F1 ⊢
    k_fold
    k_extra "m foldN"
    k_with "call builtin:list.append" => (k_here; (with_reducible show wpAny _ _ (call (Value.builtin _) [Value.ref _, _]) _ _ _); k_dflt (refine' append_L ?F ?N ?U ?hs8 ?_; (case F => k_asm); (case N => k_asm); (case U => k_extra "m upd"); (case hs8 => (rw [List.size_toArray] at hz; exact hz))); intro h' F' N'; (try dsimp only))
    k_with "CompRest" => (k_dflt ((refine' cr_ints3 (f := sgI x) trivial ?cE9 ?_); (case cE9 => (intro u' t' I' oI' C' oC' D' oD' m2' h1' E1' hu' hC' hx' F2' N2'; (first | (refine Ev.sg1 (Int.not_le.mp (by assumption)) ?_; k_extra "m evI") | (refine Ev.sg2 (Int.not_lt.mpr (by assumption)) hu' ?_; k_extra "m evI")))); intro t1' t2' t3'))
    repeat' ((fail_if_success (with_reducible show UnrEndW _ _ _ _ _ _)); k_extra "m go1")
    all_goals ((with_reducible rename Fr _ _ _ _ => F9); (with_reducible rename News _ _ _ _ => N9); refine' signs_turnX F9 N9 ?mD ?mI ?mS ?mc ?ml ?mx ?md ?mag ?nD hoff hall hdone hr hI1 hI2 hI3 hI4 hI5 hI6; (case mD => k_mem); (case mI => k_mem); (case mS => k_mem); (case mc => k_mem); (case ml => k_mem); (case mx => k_extra "m tails"); (case md => assumption); (case mag => exact (fun z _ => rfl)); (case nD => k_extra "m allne"))
example : True := by
  k_with "call ref" => ((k_here; (with_reducible show wpAny _ _ (call (Value.ref 166) _) _ _ _); k_dflt ((refine' Pure.use (signs_specN _ _ _ _ _ _ _ _ _ _ _ _ _ ?z1 ?z2 ?z3 ?z4) ?zB ?zF ?zX ?zN ?zT ?zk ?zp ?zr ?zu ?_); (case zB => k_asm); (case zF => k_asm); (case zX => k_asm); (case zN => k_asm); (case zT => k_asm); (case zk => exact rfl); (case zp => exact List.forall_mem_cons.mpr ⟨by k_mem, List.forall_mem_nil _⟩); (case z1 => assumption); (case z2 => assumption); (case z3 => assumption); (case z4 => assumption); (case zr => ktr_room); (case zu => ktr_units)); intro v' tl' h' tk' F' N' ne' P'))
  k_with "compareOp NotEq ref ref" => ((k_here; (with_reducible show wpAny _ _ (compareOp _ (Value.ref _) (Value.ref _)) _ _ _); k_dflt (refine' ne_tabs ?zA ?zB ?zU ?_; (case zA => exact SMIn.at (by with_reducible assumption) (by k_asm) (by k_extra "m tails")); (case zB => exact SMIn.at (by with_reducible assumption) (by k_asm) (by k_extra "m tails")); (case zU => ke_room))))
  trivial
theorem seg3 (w : World) (S6 : SA6 w) : SA3 w := by
  w_top off
  intro nm body rest sc loose mean mg mb h₀ L f cd m0 s Q E hB hb X T hQ DR P nd p x0 x1 x2 x3 t0 t1 t2 t3 OT c1 c2 c3 c4 c5 c6 v1 v2 v3 v4 v5 v6 F N hDR HP hp hx0 hx1 hx2 hx3 hC hO
  subst hb
  obtain ⟨d1, d2, d3, d4, d5, d6⟩ := hC
  have B : Below callerA h₀ [] h₀ := below_caller h₀
  obtain ⟨rfl, rfl, rfl⟩ := hB.same (LawIs.intro (by k_is))
  dsimp only [cel, List.cons_append, List.nil_append] at N
  unfold LawWp
  dsimp only [List.drop]
  clear hB
  k_extra "m foldN"
  repeat' ((fail_if_success (with_reducible show CRest _ _ _ _ _ _ _ _ _ _ _ _ _ _ _ _ _ _ _)); k_extra "m go1")
  refine' crc_rows4 (gl := fun i => [x0, x1, x2, x3].getD i 0) (fs := fun i u => sgI ([x0, x1, x2, x3].getD i 0) u) ?hS ?hp ?row ?fin
  case hS => exact fun l => rows_src (.inr ⟨_, by k_mem, rfl, _, rfl⟩) l
  case hp => exact fun i v hi hv => row4_at hi hv
  case row =>
    intro i hi t C c oc news' hc hm hsub
    refine ⟨fun Q E h tk F N k => ?_⟩
    clear hi
    generalize [x0, x1, x2, x3].getD i 0 = x at hc k ⊢
    repeat' ((fail_if_success (with_reducible show LCg.CompRest _ _ _ _ _ _ _ _ _ _ _ _ _ _ _ _ _ _ _)); k_extra "m go1")
    refine' cr_ints3 (f := sgI x) trivial ?ev ?fin3
    case ev =>
      intro u t' I oI C' oC D oD m₂ h₁ E' hu hC' hx F2 N2
      refine Ev.iflt (y9a := x) (by k_extra "m evI") (fun hlt => Ev.sg1 hlt (by k_extra "m evI")) (fun hlt => Ev.sg2 hlt hu (by k_extra "m evI")) (by with_unfolding_all rfl)
    case fin3 =>
      intro t1 t2 t3 D h' tk' F2 N2 o2
      exact k D t1 t2 t3 h' tk' F2 N2 o2
  case fin =>
    intro r0 r1 r2 r3 rows R0 R1 R2 R3 hnc D h' tk' F2 N2 o2
    have N3 : News h₀ L h' (cel L c1 c2 c3 c4 c5 c6 ++ ((D, LCg.lst [Value.ref r0, Value.ref r1, Value.ref r2, Value.ref r3]) :: (rows ++ OT))) := Mine.News.sub N2 (tail_in (rows := rows))
    have HM : SMIn ((D, LCg.lst [Value.ref r0, Value.ref r1, Value.ref r2, Value.ref r3]) :: (rows ++ OT)) D (smOf x0 x1 x2 x3).at := SMIn.sm (rows := rows) R0 R1 R2 R3 (.head _) fun q hq => .tail _ (List.mem_append_left _ hq)
    have HP' := HP.mono (l' := (D, LCg.lst [Value.ref r0, Value.ref r1, Value.ref r2, Value.ref r3]) :: (rows ++ OT)) fun q hq => .tail _ (List.mem_append_right _ hq)
    have hDR' : (DR, W.listOf #[Value.int x0 t0, Value.int x1 t1, Value.int x2 t2, Value.int x3 t3] nd) ∈ (D, LCg.lst [Value.ref r0, Value.ref r1, Value.ref r2, Value.ref r3]) :: (rows ++ OT) := .tail _ (List.mem_append_right _ hDR)
    have hO' := own_add (rs := (D, LCg.lst [Value.ref r0, Value.ref r1, Value.ref r2, Value.ref r3]) :: rows) N3 ⟨d1, d2, d3, d4, d5, d6⟩ (NoCell.seq hnc) hO
    dsimp only [List.cons_append] at hO'
    clear N2 o2 R0 R1 R2 R3 hnc HP hDR hO F
    generalize (D, LCg.lst [Value.ref r0, Value.ref r1, Value.ref r2, Value.ref r3]) :: (rows ++ OT) = OT' at N3 HM HP' hO' hDR'
    dsimp only [cel, List.cons_append, List.nil_append] at N3
    k_extra "m foldN"
    repeat' ((fail_if_success (with_reducible show wpAny _ _ (call (Value.ref 166) _) _ _ _)); k_extra "m go1")
    k_extra "m go1"
    refine byG (fun P9 hP9 => ?_)
    obtain ⟨G, rfl, HG, hng⟩ := P'
    refine hP9 ?_
    clear hP9 P9 ne'
    have N4 : News h₀ L h' (cel L c1 c2 c3 c4 c5 c6 ++ (tl' ++ OT')) := Mine.News.sub N' (tail_in2 (tl := tl') (OT := OT'))
    have HG2 := HG.mono (l' := tl' ++ OT') fun q hq => List.mem_append_left _ hq
    have HM2 := HM.mono (l' := tl' ++ OT') fun q hq => List.mem_append_right _ hq
    have HP2 := HP'.mono (l' := tl' ++ OT') fun q hq => List.mem_append_right _ hq
    have hO2 := own_add N4 ⟨d1, d2, d3, d4, d5, d6⟩ hng hO'
    clear N' HG HM HP' hng hO' hDR'
    generalize tl' ++ OT' = OT2 at N4 HG2 HM2 HP2 hO2
    dsimp only [cel, List.cons_append, List.nil_append] at N4
    k_extra "m foldN"
    repeat' ((fail_if_success (with_reducible show wpAny _ _ (execs (_ :: Stmt.Assign [Expr.Name (PySem.Str.ofString "ahead") _] _ _ :: _) _) _ _ _)); k_extra "m go1")
    with_reducible rename Fr _ _ _ _ => F9
    with_reducible rename News _ _ _ _ => N9
    have hL : LawIs w _ _ _ := LawIs.intro (by k_is)
    exact S6 hL rfl X T hQ p (smOf x0 x1 x2 x3) OT2 (fr_three F9 rfl rfl rfl) N9 HP2 HM2 HG2 hp (smOf_ok _ _ _ _) ⟨d1, d2, d3, d4, d5, d6⟩ hO2
example : True := by
  k_with "m evI" => (((with_reducible apply Ev.mulS); (k_extra "m evI"); (k_extra "m evI"); (exact mul3_ok (by with_reducible assumption))))
  k_with "subscriptTail Name Slice ref ref" => ((k_here; (with_reducible show wpAny _ _ (subscriptTail _ (PySem.Expr.Slice _ _ (some _) _) (Value.ref _) (Value.ref _)) _ _ _); k_dflt (refine' slice3_any (vs := vs) (ns := ns) ?s9F ?s9N ?s9l hI ?s9p ?s9q ?s9k ?s9o ?_ ?s9s ?s9t ?s9z; (case s9F => k_asm); (case s9N => k_asm); (case s9l => kmk_list); (case s9p => kmk_part); (case s9q => kmk_part); (case s9k => kmk_part); (case s9o => decide); (case s9s => with_unfolding_all rfl); (case s9t => kmk_pure); (case s9z => exact hlen)); intro D' ws' ms' h' F' N' l1 i9'; (try k_lt l1); (try k_sweep)))
  trivial
theorem seg0 (w : World) (S3 : SA3 w) : Seg0 w := by
  w_top off
  intro nm body sc loose mean mg mb h₀ L f cd m0 s Q E hB X T hQ l vs ns c1 c2 c3 c4 c5 c6 v2 v3 v4 v5 v6 hl hI hlen hC F N
  obtain ⟨d1, d2, d3, d4, d5, d6⟩ := hC
  have B : Below callerA h₀ [] h₀ := below_caller h₀
  obtain ⟨rfl, rfl, rfl⟩ := hB.same (LawIs.intro (by k_is))
  dsimp only [cel] at N
  unfold LawWp
  clear hB
  k_extra "m foldN"
  repeat' ((fail_if_success (with_reducible show CRest _ _ _ _ _ _ _ _ _ _ _ _ _ _ _ _ _ _ _)); k_extra "m go1")
  rename Obj => c2'
  with_reducible rename Obj.data c2' = Data.cell (some (Value.int _ _)) => dN
  generalize (4071325 + List.sum _ : Int) = num at dN
  refine' crc_rows3 (gl := fun i => (i : Int)) (fs := fun i u => figT num (i : Int) u) ?hS ?hp ?row ?fin
  case hS => exact fun _ => trivial
  case hp => exact fun i v hi hv => rows_range (n := 3) i v hi hv
  case row =>
    intro i hi t C c oc news' hc hm hsub
    have hk : 0 ≤ (i : Int) ∧ (i : Int) < 3 := ⟨Int.natCast_nonneg i, Int.ofNat_lt.mpr hi⟩
    refine ⟨fun Q E h tk F N k => ?_⟩
    clear hi
    generalize hu9 : (i : Int) = u9 at hc k hk ⊢
    clear hu9
    repeat' ((fail_if_success (with_reducible show LCg.CompRest _ _ _ _ _ _ _ _ _ _ _ _ _ _ _ _ _ _ _)); k_extra "m go1")
    refine' cr_ints3 (f := fun v => figT num u9 v) trivial ?ev ?fin3
    case ev =>
      intro u t' I oI C' oC D oD m₂ h₁ E' hu hC' hx F2 N2
      unfold figT
      k_extra "m evI"
    case fin3 =>
      intro t1 t2 t3 D h' tk' F2 N2 o2
      exact k D t1 t2 t3 h' tk' F2 N2 o2
  case fin =>
    intro r0 r1 r2 rows R0 R1 R2 hnc D h' tk' F2 N2 o2
    have N3 : News h₀ L h' (cel L c1 c2' c3 c4 c5 c6 ++ ((D, LCg.lst [Value.ref r0, Value.ref r1, Value.ref r2]) :: rows)) := Mine.News.sub N2 (tail_in5 (by
      dsimp only [cel]
      k_extra "m sub"))
    have HP : PMIn ((D, LCg.lst [Value.ref r0, Value.ref r1, Value.ref r2]) :: rows) D (pmOf num).at := PMIn.fig (rows := rows) R0 R1 R2 (.head _) fun q hq => .tail _ hq
    have hn : NoCell ((D, LCg.lst [Value.ref r0, Value.ref r1, Value.ref r2]) :: rows) := NoCell.seq hnc
    clear N2 o2 R0 R1 R2 hnc
    generalize (D, LCg.lst [Value.ref r0, Value.ref r1, Value.ref r2]) :: rows = OT at N3 HP hn
    dsimp only [cel, List.cons_append, List.nil_append] at N3
    k_extra "m foldN"
    repeat' ((fail_if_success (with_reducible show LCg.CompRest _ _ _ _ _ _ _ _ _ _ _ _ _ _ _ _ _ _ _)); k_extra "m go1")
    refine' cr_some4 (R := fun x => 1 ≤ x ∧ x < 512) trivial ?turn ?fin2
    case turn =>
      intro u t I oI C oC D' oD m₂ h₁ tk E' hu hC' hx F3 N4
      k_extra "m foldN"
      repeat' ((fail_if_success (with_reducible show SomeInt _ _ _ _ _ _ _ _ _ _)); k_extra "m go1")
      with_reducible rename Fr _ _ _ _ => F9
      with_reducible rename News _ _ _ _ => N9
      refine ⟨_, _, _, _, rfl, fm511' _, rfl, F9, Mine.News.sub N9 ?tsub⟩
      refine List.forall_mem_cons.mpr ⟨?m1, List.forall_mem_cons.mpr ⟨?m2, List.forall_mem_cons.mpr ⟨?m3, ?m4⟩⟩⟩
      case m1 => k_mem
      case m2 => k_mem
      case m3 => k_mem
      case m4 => k_extra "m tails"
    case fin2 =>
      intro x0 x1 x2 x3 t0 t1 t2 t3 b0 b1 b2 b3 DR h2 tk2 F3 N4 o3
      have N5 : News h₀ L h2 (cel L c1 c2' c3 c4 c5 c6 ++ ((DR, LCg.lst [Value.int x0 t0, .int x1 t1, .int x2 t2, .int x3 t3]) :: OT)) := Mine.News.sub N4 tail_in6
      have hO := own_of N5 (fun q hq => List.mem_append_left _ hq) (fun q hq => List.mem_append_right _ hq) ⟨d1, dN, d3, d4, d5, d6⟩ (NoCell.seq hn)
      have hL : LawIs w _ _ _ := LawIs.intro (by k_is)
      exact S3 hL rfl X T hQ (pmOf num) x0 x1 x2 x3 _ F3 N5 (.head _) (HP.mono fun q hq => .tail _ hq) (pmOf_ok _) b0 b1 b2 b3 ⟨d1, dN, d3, d4, d5, d6⟩ hO
end Mine
end
end
section
open PySem PySem.W PyProof.Rows PySem.Spec PySem.Calls PyProof.V
namespace Mine
local macro_rules | `(tactic| k_qdec) => `(tactic| kernel_rfl)
example : True := by k_with_none; trivial
theorem law_top (S0 : ∀ w, Seg0 w) : PySem.Challenge.rw_xg0033_01.Holds := hd (by
  w_top off
  k_go0
  (all_goals try k_fold)
  with_reducible rename Fr _ _ _ _ => F9
  refine endFirst F9 ?first ?then9
  case first =>
    intro h' tk' m' news' F' N'
    k_unfold
    (try dsimp only)
    k_end; wrow_close
  intro hQ
  with_reducible rename News _ _ _ _ => N9
  with_reducible rename Frag.In _ _ => X9
  with_reducible rename Top _ _ _ _ _ _ => T9
  with_reducible rename IntsAre _ _ => I9
  have hL := LawIs.ofIn X9 (by k_is)
  with_reducible rename Heap.IsList _ _ _ => l9
  refine (S0 _).go _ _ _ _ hL progE X9 T9 (fun h' tk' m' news' F N => hQ h' tk' m' news' F N) F9 N9 l9 I9 (by omega) ⟨by assumption, by assumption, by assumption, by assumption, by assumption, by assumption⟩)
theorem the_law : PySem.Challenge.rw_xg0033_01.Holds := law_top fun w => seg0 w (seg3 w (seg6 w (seg8 w (seg9 w (seg11 w (seg12 w (seg13 w (seg14 w (seg15 w (seg16 w (seg17 w (seg18 w))))))))))))
end Mine
end
theorem PySem.Challenge.cw_xg0033_01_holds : PySem.Challenge.rw_xg0033_01.Holds :=
  Mine.the_law
