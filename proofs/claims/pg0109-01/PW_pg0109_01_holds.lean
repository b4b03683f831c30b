import PyProof.Rows.All
import Wide.All
import OpenK.AllK
import Wide.FinOn
import PySem.Challenge.RW_pg0109_01
set_option Elab.async false
set_option maxRecDepth 100000
set_option maxHeartbeats 8000000
set_option linter.unusedVariables false
section
open PySem PySem.W PyProof.Rows
set_option Elab.async false
set_option maxRecDepth 100000
set_option maxHeartbeats 8000000
namespace Mine
open_top hd for PySem.Challenge.rw_pg0109_01
end Mine
end
namespace Mine
section
open PySem PySem.W PyProof.Rows PySem.Calls
open PySem.SeqAt PySem.MeetsSeq
set_option Elab.async false
set_option maxRecDepth 100000
set_option maxHeartbeats 4000000
open AutoSeq1 (wpAny_loadPart')

abbrev chipO (p l : Int) (t u : Tok) (n : Nat) : Obj := { cls := .type "tuple", data := .seq #[.int p t, .int l u] n }

noncomputable def ltC (a b : Int × Int) : Bool := if a.1 = b.1 then decide (a.2 < b.2) else decide (a.1 < b.1)

theorem rc_lt_int {prog : Program} {w : World} {A : Around} {E : Value → Shared → Prop} {s : Shared} {a b : Int} {t u : Tok} {Q : Value → Shared → Prop} (h : Q (.bool (decide (a < b))) s) :
    wpAny (model prog w) A (richCompare .Lt (.int a t) (.int b u)) Q E s := PyProof.Rows.lt_int h

theorem tuple_ltC (l b : Addr) (p q p' q' : Int) (t u t' u' : Tok) (n n' : Nat) :
    Meets (Builtin.«tuple.__lt__» ⟨[.ref l, .ref b], []⟩)
      (fun _ R s => s.heap.get? l = some (chipO p q t u n) ∧ s.heap.get? b = some (chipO p' q' t' u' n') ∧
        R (.ok (.ret (.bool (ltC (p, q) (p', q'))))) s) :=
  .of_wp fun prog w A R s h => by
    obtain ⟨hp, g, d, tk, os⟩ := s; obtain ⟨hl, hb, h⟩ := h
    have f2 := AutoSeq1.sub_tuple_tuple
    wp_walk using wpAny_loadPart' hl, wpAny_loadPart' hb, wpAny_eqBool_int
    by_cases hpp : p = p'
    · have e1 : (p == p') = true := by simpa using hpp
      rw [e1]
      wp_walk using wpAny_eqBool_int
      by_cases hq : q = q'
      · have e2 : (q == q') = true := by simpa using hq
        rw [e2]
        wp_walk
        refine ⟨_, rfl, ?_⟩
        have : ltC (p, q) (p', q') = false := by simp [ltC, hpp, hq]
        rw [this] at h
        exact h
      · have e2 : (q == q') = false := by simpa using hq
        rw [e2]
        wp_walk using rc_lt_int
        refine ⟨_, rfl, ?_⟩
        have : ltC (p, q) (p', q') = decide (q < q') := by simp [ltC, hpp]
        rw [this] at h
        exact h
    · have e1 : (p == p') = false := by simpa using hpp
      rw [e1]
      wp_walk using rc_lt_int
      refine ⟨_, rfl, ?_⟩
      have : ltC (p, q) (p', q') = decide (p < p') := by simp [ltC, hpp]
      rw [this] at h
      exact h

theorem cmp_ltC {prog : Program} {w : World} {A : Around} {E : Value → Shared → Prop} {s : Shared} {a b : Addr} {p q p' q' : Int} {t u t' u' : Tok} {n n' : Nat} {Q : Value → Shared → Prop}
    (ha : s.heap.get? a = some (chipO p q t u n)) (hb : s.heap.get? b = some (chipO p' q' t' u' n')) (hu : A.units < cLine) (h : Q (.bool (ltC (p, q) (p', q'))) s) :
    wpAny (model prog w) A (compareOp .Lt (.ref a) (.ref b)) Q E s := by
  show wpAny _ _ (richCompare .Lt (.ref a) (.ref b)) Q E s
  exact richCompare_meets_room (op := .Lt) ⟨_, ha, rfl⟩ ⟨_, hb, rfl⟩ F.slot_tuple_lt F.entry_tuple_lt (F.args_tuple_lt_2 _ _) (tuple_ltC a b p q p' q' t u t' u' n n')
    ⟨ha, hb, show Value.bool _ ≠ Value.notImplemented ∧ Q _ s from ⟨(fun x => nomatch x), h⟩⟩ hu
end
section
/-- the mirror of _siftdown: x is to be laid at pos, or higher up -/
noncomputable def sd {α : Type} (lt : α → α → Bool) (x : α) (start : Nat) (pos : Nat) (zs : List α) : List α :=
  if _h : start < pos then
    match zs[(pos - 1) / 2]? with
    | some p => if lt x p then sd lt x start ((pos - 1) / 2) (zs.set pos p) else zs.set pos x
    | none => zs.set pos x
  else zs.set pos x
termination_by pos
decreasing_by omega

theorem sd_in {α : Type} {lt : α → α → Bool} {x y : α} {start pos : Nat} {zs : List α} (h : start < pos) (hy : zs[(pos - 1) / 2]? = some y) (hl : lt x y = true) :
    sd lt x start pos zs = sd lt x start ((pos - 1) / 2) (zs.set pos y) := by
  rw [sd, dif_pos h, hy]; simp [hl]
theorem sd_brk {α : Type} {lt : α → α → Bool} {x y : α} {start pos : Nat} {zs : List α} (h : start < pos) (hy : zs[(pos - 1) / 2]? = some y) (hl : lt x y = false) :
    sd lt x start pos zs = zs.set pos x := by
  rw [sd, dif_pos h, hy]; simp [hl]
theorem sd_out {α : Type} {lt : α → α → Bool} {x : α} {start pos : Nat} {zs : List α} (h : ¬ start < pos) : sd lt x start pos zs = zs.set pos x := by
  rw [sd, dif_neg h]

/-- the mirror of _siftup: the lesser child goes up till there is none, then x is laid there and goes up -/
noncomputable def su {α : Type} (lt : α → α → Bool) (x : α) (start : Nat) (pos : Nat) (zs : List α) : List α :=
  if _h : 2 * pos + 1 < zs.length then
    match zs[2 * pos + 1]?, zs[2 * pos + 2]? with
    | some l, some r => if lt l r then su lt x start (2 * pos + 1) (zs.set pos l) else su lt x start (2 * pos + 2) (zs.set pos r)
    | some l, none => su lt x start (2 * pos + 1) (zs.set pos l)
    | none, _ => zs
  else sd lt x start pos (zs.set pos x)
termination_by zs.length - pos
decreasing_by all_goals (simp only [List.length_set]; omega)

theorem su_left {α : Type} {lt : α → α → Bool} {x l r : α} {start pos : Nat} {zs : List α} (hl : zs[2 * pos + 1]? = some l) (hr : zs[2 * pos + 2]? = some r) (h : lt l r = true) :
    su lt x start pos zs = su lt x start (2 * pos + 1) (zs.set pos l) := by
  have := (List.getElem?_eq_some_iff.mp hl).1
  rw [su, dif_pos this, hl, hr]; simp [h]
theorem su_right {α : Type} {lt : α → α → Bool} {x l r : α} {start pos : Nat} {zs : List α} (hl : zs[2 * pos + 1]? = some l) (hr : zs[2 * pos + 2]? = some r) (h : lt l r = false) :
    su lt x start pos zs = su lt x start (2 * pos + 2) (zs.set pos r) := by
  have := (List.getElem?_eq_some_iff.mp hl).1
  rw [su, dif_pos this, hl, hr]; simp [h]
theorem su_one {α : Type} {lt : α → α → Bool} {x l : α} {start pos : Nat} {zs : List α} (hl : zs[2 * pos + 1]? = some l) (hr : zs[2 * pos + 2]? = none) :
    su lt x start pos zs = su lt x start (2 * pos + 1) (zs.set pos l) := by
  have := (List.getElem?_eq_some_iff.mp hl).1
  rw [su, dif_pos this, hl, hr]
theorem su_out {α : Type} {lt : α → α → Bool} {x : α} {start pos : Nat} {zs : List α} (h : ¬ 2 * pos + 1 < zs.length) :
    su lt x start pos zs = sd lt x start pos (zs.set pos x) := by
  rw [su, dif_neg h]

/-- what heappop leaves behind -/
noncomputable def hpop {α : Type} (lt : α → α → Bool) (zs : List α) : List α :=
  match zs.getLast? with
  | none => []
  | some y => if zs.dropLast.isEmpty then [] else su lt y 0 0 (zs.dropLast.set 0 y)

/-- what _heapify_max leaves behind: siftups at k - 1, .., 0 -/
noncomputable def hfy {α : Type} (lt : α → α → Bool) : Nat → List α → List α
  | 0, zs => zs
  | k + 1, zs => match zs[k]? with
    | some x => hfy lt k (su lt x k k zs)
    | none => zs

theorem hpop_snoc {α : Type} {lt : α → α → Bool} {zs : List α} {y : α} : hpop lt (zs ++ [y]) = if zs.isEmpty then [] else su lt y 0 0 (zs.set 0 y) := by
  unfold hpop
  simp

theorem sd_length {α : Type} {lt : α → α → Bool} {x : α} {start pos : Nat} {zs : List α} : (sd lt x start pos zs).length = zs.length := by
  induction pos using Nat.strongRecOn generalizing zs with
  | ind pos ih =>
    rw [sd]
    split
    · split
      · split
        · rw [ih _ (by omega)]; simp
        · simp
      · simp
    · simp
theorem sd_mem {α : Type} {lt : α → α → Bool} {x z : α} {start pos : Nat} {zs : List α} (h : z ∈ sd lt x start pos zs) (hx : x ∈ zs) : z ∈ zs := by
  have aux : ∀ pos (zs ys : List α), (∀ a ∈ zs, a ∈ ys) → x ∈ ys → z ∈ sd lt x start pos zs → z ∈ ys := by
    intro pos
    induction pos using Nat.strongRecOn with
    | ind pos ih =>
      intro zs ys hs hx h
      have hset : ∀ y, y ∈ ys → ∀ a ∈ zs.set pos y, a ∈ ys := by
        intro y hy a ha
        rcases List.mem_or_eq_of_mem_set ha with h9 | h9
        · exact hs a h9
        · rw [h9]; exact hy
      rw [sd] at h
      split at h
      · split at h
        · rename_i p hp
          split at h
          · exact ih _ (by omega) _ ys (hset p (hs p (List.mem_of_getElem? hp))) hx h
          · exact hset x hx z h
        · exact hset x hx z h
      · exact hset x hx z h
  exact aux pos zs zs (fun _ h => h) hx h
theorem su_length {α : Type} {lt : α → α → Bool} {x : α} {start pos : Nat} {zs : List α} : (su lt x start pos zs).length = zs.length := by
  generalize hk : zs.length - pos = k
  induction k using Nat.strongRecOn generalizing zs pos with
  | ind k ih =>
    rw [su]
    split
    · split
      · split
        · rw [ih _ (by simp only [List.length_set]; omega) rfl]; simp
        · rw [ih _ (by simp only [List.length_set]; omega) rfl]; simp
      · rw [ih _ (by simp only [List.length_set]; omega) rfl]; simp
      · rfl
    · rw [sd_length]; simp
theorem su_mem {α : Type} {lt : α → α → Bool} {x z : α} {start pos : Nat} {zs : List α} (h : z ∈ su lt x start pos zs) (hx : x ∈ zs) : z ∈ zs := by
  have aux : ∀ k pos (zs ys : List α), zs.length - pos = k → (∀ a ∈ zs, a ∈ ys) → x ∈ ys → z ∈ su lt x start pos zs → z ∈ ys := by
    intro k
    induction k using Nat.strongRecOn with
    | ind k ih =>
      intro pos zs ys hk hs hx h
      have hset : ∀ y, y ∈ ys → ∀ a ∈ zs.set pos y, a ∈ ys := by
        intro y hy a ha
        rcases List.mem_or_eq_of_mem_set ha with h9 | h9
        · exact hs a h9
        · rw [h9]; exact hy
      rw [su] at h
      split at h
      · split at h
        · rename_i l r hl hr
          split at h
          · exact ih _ (by simp only [List.length_set]; omega) _ _ ys rfl (hset l (hs l (List.mem_of_getElem? hl))) hx h
          · exact ih _ (by simp only [List.length_set]; omega) _ _ ys rfl (hset r (hs r (List.mem_of_getElem? hr))) hx h
        · rename_i l hl hr
          exact ih _ (by simp only [List.length_set]; omega) _ _ ys rfl (hset l (hs l (List.mem_of_getElem? hl))) hx h
        · exact hs z h
      · by_cases hpos : pos < zs.length
        · exact hset x hx z (sd_mem h (List.mem_set hpos x))
        · rw [List.set_eq_of_length_le (by omega)] at h
          have hin : ∀ pos', ∀ (us : List α), us = zs → pos' = pos → z ∈ sd lt x start pos' us → z ∈ ys := by
            intro pos' us e1 e2 h'
            subst e1 e2
            have aux2 : ∀ p (vs : List α), (∀ a ∈ vs, a ∈ ys) → z ∈ sd lt x start p vs → z ∈ ys := by
              intro p
              induction p using Nat.strongRecOn with
              | ind p ihp =>
                intro vs hv hh
                have hset2 : ∀ y, y ∈ ys → ∀ a ∈ vs.set p y, a ∈ ys := by
                  intro y hy a ha
                  rcases List.mem_or_eq_of_mem_set ha with h9 | h9
                  · exact hv a h9
                  · rw [h9]; exact hy
                rw [sd] at hh
                split at hh
                · split at hh
                  · rename_i q hq
                    split at hh
                    · exact ihp _ (by omega) _ (hset2 q (hv q (List.mem_of_getElem? hq))) hh
                    · exact hset2 x hx z hh
                  · exact hset2 x hx z hh
                · exact hset2 x hx z hh
            exact aux2 _ _ hs h'
          exact hin _ _ rfl rfl h
  exact aux _ pos zs zs rfl (fun _ h => h) hx h
end
section
open PySem PySem.W PyProof.Rows PySem.Calls
set_option Elab.async false
set_option maxRecDepth 100000
set_option maxHeartbeats 4000000

/-- every object of h but those at `own` lies in h' as it lay -/
noncomputable def Ext (own : List Addr) (h h' : Heap) : Prop := ∀ b o, b ∉ own → h.get? b = some o → h'.get? b = some o
theorem Ext.refl (own : List Addr) (h : Heap) : Ext own h h := fun _ _ _ e => e
theorem Ext.trans {own : List Addr} {h h' h'' : Heap} (a : Ext own h h') (b : Ext own h' h'') : Ext own h h'' := fun x o n e => b x o n (a x o n e)
theorem Ext.mono {own own' : List Addr} {h h' : Heap} (a : Ext own h h') (hs : ∀ x ∈ own, x ∈ own') : Ext own' h h' := fun x o n e => a x o (fun m => n (hs x m)) e

/-- the text's own objects stand at h₀, and h bears h₀ -/
structure Gd (w : World) (h₀ h : Heap) : Prop where
  X : (hd.heap_39 w.params).In h₀
  T : ∃ loose mean mg mb, Top hd.view_39 loose mean mg mb h₀
  keep : ∀ b o, h₀.get? b = some o → h.get? b = some o

theorem Gd.ext {w : World} {h₀ h h' : Heap} {own : List Addr} (G : Gd w h₀ h) (hn : ∀ a ∈ own, h₀.get? a = none) (e : Ext own h h') : Gd w h₀ h' :=
  ⟨G.X, G.T, fun b o q => e b o (fun m => by rw [hn b m] at q; cases q) (G.keep b o q)⟩
theorem Gd.hide {w : World} {h₀ h : Heap} {own : List Addr} (G : Gd w h₀ h) (hn : ∀ a ∈ own, h₀.get? a = none) : Gd w h₀ (hideAll h own) :=
  ⟨G.X, G.T, fun b o q => hideAll_get _ (G.keep b o q) (fun m => by rw [hn b m] at q; cases q)⟩
theorem Gd.fr {w : World} {h₀ g h : Heap} {L : Addr} {m : Str → Option Value} (G : Gd w h₀ g) (F : Fr g L h m) : Gd w h₀ h := ⟨G.X, G.T, fun b o q => F.keep b o (G.keep b o q)⟩
theorem Gd.in {w : World} {h₀ h : Heap} (G : Gd w h₀ h) : (hd.heap_39 w.params).In h := fun a o e => G.keep a o (G.X a o e)
theorem Gd.top {w : World} {h₀ h : Heap} (G : Gd w h₀ h) : ∃ loose mean mg mb, Top hd.view_39 loose mean mg mb h := by
  obtain ⟨l, m, mg, mb, T⟩ := G.T
  exact ⟨l, m, mg, mb, T.keeps G.keep⟩

/-- room for k more calls -/
structure Rm (A : Around) (k : Nat) : Prop where
  depth : A.depth + k ≤ 900
  units : A.units + 20 * k ≤ 9000
  handled : A.handled = none
theorem Rm.le {A : Around} {k j : Nat} (R : Rm A k) (h : j ≤ k) : Rm A j := ⟨by have := R.depth; omega, by have := R.units; omega, R.handled⟩
theorem Rm.deeper {A : Around} {k : Nat} {env : Env} (R : Rm A (k + 1)) : Rm (A.deeper env) k :=
  ⟨by have := R.depth; show A.depth + 1 + k ≤ 900; omega, by have := R.units; show A.units + 3 + 20 * k ≤ 9000; omega, R.handled⟩
theorem Rm.room {A : Around} {k : Nat} (R : Rm A k) : A.depth < recursionLimit := by have := R.depth; show A.depth < 1000; omega
theorem Rm.line {A : Around} {k : Nat} (R : Rm A k) : A.units < cLine := by have := R.units; show A.units < 9900; omega

theorem callF {prog : Program} {w : World} {A : Around} {s : Shared} {K : Frag} {R : Result → Shared → Prop} {name qual : Str} {params : Arguments} {body : List Stmt} {scope : Scope} {dV kV doc pm cdv ct oc : Value} {an od : Option Addr} {osl : Array (Option Value)} {f : Addr} {args : Args} {binds : List (Str × Value)}
    (own : List Addr) (X : K.In s.heap) (hlim : s.heap.NoLimit)
    (ho : K.lookup f = some ⟨oc, od, .func (fnX name qual params body scope [] dV kV doc pm an cdv ct), osl⟩) (hcd : codeIn K cdv qual = true) (hroom : A.depth < recursionLimit)
    (hbind : BindsTo s (fnX name qual params body scope [] dV kV doc pm an cdv ct) args binds) (hloc : ∀ y ∈ binds, scope.names.lookup y.1 = some .local)
    (h : ∀ L h₁, s.heap.objs.size = L → Fr (hideAll s.heap own) L h₁ (fun y => binds.reverse.lookup y) → (∀ b o, s.heap.get? b = some o → h₁.get? b = some o) →
      wpAny (model prog w) (A.deeper (envX qual scope L f cdv [])) (execs body (envX qual scope L f cdv []))
        (fun fl s' => R (.ok (.ret (match fl with | .ret v => v | _ => .none))) s')
        (fun e s' => wpAny (model prog w) (A.deeper (envX qual scope L f cdv [])) (leaving (envX qual scope L f cdv []) e) (fun _ s'' => R (.error e) s'') (fun e' s'' => R (.error e') s'') s')
        { s with heap := h₁, toks := s.toks + binds.length })
    (hcell : ∀ x ∈ scope.names, x.2 ≠ .cell) (hco : scope.isCoroutine = false) (hgen : scope.isGenerator = false) (hk : scope.kind = .function) :
    codeAny (model prog w) A (.call (.ref f) args) R s := by
  refine codeAny_call_def (fd := fnX name qual params body scope [] dV kV doc pm an cdv ct) (body := body) (binds := binds) hroom (X _ _ ho) rfl hlim (codeRec_of X hcd) rfl hbind hcell hloc (fun h₁ hns hk₁ => ?_) hco hgen hk
  exact h _ h₁ rfl ⟨hns, fun b o e => hk₁ b o (of_hideAll _ e), Nat.le_of_eq (hideAll_size _ _)⟩ hk₁

abbrev Z := Value × Int × Int
noncomputable def Chip (h : Heap) (z : Z) : Prop := ∃ a t u n, z.1 = .ref a ∧ h.get? a = some (chipO z.2.1 z.2.2 t u n)
theorem Chip.ext {own : List Addr} {h h' : Heap} {z : Z} (c : Chip h z) (e : Ext own h h') (hn : ∀ a ∈ own, ∀ o, h.get? a = some o → o.cls ≠ .type "tuple") : Chip h' z := by
  obtain ⟨a, t, u, n, e1, e2⟩ := c
  exact ⟨a, t, u, n, e1, e a _ (fun m => hn a m _ e2 rfl) e2⟩

section
variable {prog : Program} {w : World} {A : Around} {E : Value → Shared → Prop} {s : Shared} {g : Heap} {L D : Addr} {m : Str → Option Value} {news : List (Addr × Obj)}

theorem cell_isList {its : Array Value} {n : Nat} {h : Heap} (e : h.get? D = some (listOf its n)) : h.IsList D its := ⟨_, e, rfl, n, rfl⟩

theorem item_at {value slice : PySem.Expr} {vs : List Value} {n : Nat} {i : Nat} {k : Int} {u : Tok} {v : Value} {Q : Value → Shared → Prop} (hl : s.heap.get? D = some (listOf vs.toArray n)) (hk : k = (i : Int)) (hx : vs[i]? = some v) (hlen : vs.length ≤ sizeLine) (h : Q v s)
    (hs : subscripted slice false (.ref D) (.int k u) = operate [.ref D, .int k u] (getItem (.ref D) (.int k u))) :
    wpAny (model prog w) A (subscriptTail value slice (.ref D) (.int k u)) Q E s := by
  have hi : i < vs.length := (List.getElem?_eq_some_iff.mp hx).1
  subst hk
  refine item_litK (cell_isList hl) (Int.natCast_nonneg _) ?_ (by simpa using hx) h hs
  have : sizeLine = 2 ^ 24 := rfl
  omega

theorem cmpZ {a b : Z} {Q : Value → Shared → Prop} (F : Fr g L s.heap m) (ha : Chip g a) (hb : Chip g b) (hu : A.units < cLine) (h : Q (.bool (ltC a.2 b.2)) s) :
    wpAny (model prog w) A (compareOp .Lt a.1 b.1) Q E s := by
  obtain ⟨x, t, u, n, e1, e2⟩ := ha
  obtain ⟨y, t', u', n', e3, e4⟩ := hb
  rw [e1, e3]
  exact cmp_ltC (F.keep _ _ e2) (F.keep _ _ e4) hu h

theorem news_head {h h' : Heap} {o o' : Obj} {rest : List (Addr × Obj)} (N : News g L h ((D, o) :: rest)) (hr : ∀ p ∈ rest, p.1 ≠ D) (hs : Heap.SameBut D h h') (ho : h'.get? D = some o') : News g L h' ((D, o') :: rest) :=
  news_set (pre := []) N (fun _ h => nomatch h) hr hs ho

theorem set_at {vs : List Value} {n i : Nat} {k : Int} {u : Tok} {v : Value} {rest : List (Addr × Obj)} {Q : Unit → Shared → Prop} (F : Fr g L s.heap m) (N : News g L s.heap ((D, listOf vs.toArray n) :: rest)) (hr : ∀ p ∈ rest, p.1 ≠ D) (hk : k = (i : Int)) (hi : i < vs.length) (hlen : vs.length ≤ sizeLine)
    (h : ∀ h', Fr g L h' m → News g L h' ((D, listOf (vs.set i v).toArray n) :: rest) → Q () { s with heap := h' }) :
    wpAny (model prog w) A (setItem (.ref D) (.int k u) v) Q E s := by
  subst hk
  have z := N (D, listOf vs.toArray n) (.head _)
  have e : sizeLine = 2 ^ 24 := rfl
  refine ki_setAt z.1 (Int.natCast_nonneg _) (by omega) (by simpa using hi) (h _ (F.change (Heap.SameBut.update ..) z.2.1 z.2.2) (news_head N hr (Heap.SameBut.update ..) ?_))
  have q := PySem.IsL.update z.1 (fun xs => xs.setIfInBounds i v)
  have e1 : vs.toArray.setIfInBounds i v = (vs.set i v).toArray := by simp
  rw [e1] at q
  have e2 : ((vs.set i v).toArray.size == vs.toArray.size) = true := by simp
  rw [if_pos e2] at q
  simpa using q

theorem fits {k : Nat} (h : k ≤ sizeLine) : (k : Int) < 2 ^ 63 := by
  have e : sizeLine = 2 ^ 24 := rfl
  omega
theorem len_at {vs : List Value} {n : Nat} {Q : Value → Shared → Prop} (hl : s.heap.get? D = some (listOf vs.toArray n)) (hlen : vs.length ≤ sizeLine)
    (h : Q (.int (vs.length : Nat) (s.toks + 1)) { s with toks := s.toks + 1 + 1 }) : wpAny (model prog w) A (call (.builtin "len") [.ref D]) Q E s := by
  refine PyProof.Rows.len_list (cell_isList hl) (by simpa using fits hlen) ?_
  simpa using h
theorem truthy_at {vs : List Value} {n : Nat} {Q : Bool → Shared → Prop} (hl : s.heap.get? D = some (listOf vs.toArray n)) (hlen : vs.length ≤ sizeLine)
    (h : ∀ tk, Q (!vs.isEmpty) { s with toks := tk }) : wpAny (model prog w) A (truthy (.ref D)) Q E s := by
  refine wpAny_truthy_list (cell_isList hl) (by simpa using fits hlen) ?_
  have e : (!vs.toArray.isEmpty) = !vs.isEmpty := by simp
  rw [e]; exact h _

theorem Chip.fr {h : Heap} {z : Z} (c : Chip g z) (F : Fr g L h m) : Chip h z := by
  obtain ⟨a, t, u, n, e1, e2⟩ := c
  exact ⟨a, t, u, n, e1, F.keep _ _ e2⟩
theorem vint {a b : Int} {t : Tok} (h : a = b) : some (Value.int a t) = some (Value.int b t) := by rw [h]
theorem chips_set {P : Z → Prop} {zs : List Z} {p : Nat} {y : Z} (h : ∀ z ∈ zs, P z) (hy : P y) : ∀ z ∈ zs.set p y, P z := by
  intro z hz
  rcases List.mem_or_eq_of_mem_set hz with h9 | h9
  · exact h z h9
  · rw [h9]; exact hy
/-- behind a contract's call: the frame stands, and the one list has turned -/
theorem fr_ext {h h' : Heap} {own : List Addr} (F : Fr g L h m) (e : Ext own h h') (hL : L ∉ own) (hg : ∀ a ∈ own, g.get? a = none) : Fr g L h' m := by
  obtain ⟨oL, a1, a2, hoL, a3⟩ := F.ns
  exact ⟨⟨oL, a1, a2, e L oL hL hoL, a3⟩, fun b o q => e b o (fun hm => by rw [hg b hm] at q; cases q) (F.keep b o q), F.above⟩

theorem append_at {vs : List Value} {n : Nat} {x : Value} {rest : List (Addr × Obj)} {Q : Value → Shared → Prop} (F : Fr g L s.heap m) (N : News g L s.heap ((D, listOf vs.toArray n) :: rest)) (hr : ∀ p ∈ rest, p.1 ≠ D) (hlen : vs.length ≤ sizeLine)
    (h : ∀ h', Fr g L h' m → News g L h' ((D, listOf (vs ++ [x]).toArray (n + 1)) :: rest) → Q .none { s with heap := h' }) :
    wpAny (model prog w) A (call (.builtin "list.append") [.ref D, x]) Q E s := by
  refine append_K F N (Upd.head hr) (fun h' F' N' => h h' F' ?_) (by simpa using hlen)
  simpa using N'
theorem pop_at {vs : List Value} {n : Nat} {y : Value} {rest : List (Addr × Obj)} {Q : Value → Shared → Prop} (F : Fr g L s.heap m) (N : News g L s.heap ((D, listOf (vs ++ [y]).toArray n) :: rest)) (hr : ∀ p ∈ rest, p.1 ≠ D) (hlen : (vs ++ [y]).length ≤ sizeLine)
    (h : ∀ h', Fr g L h' m → News g L h' ((D, listOf vs.toArray (n + 1)) :: rest) → Q y { s with heap := h' }) :
    wpAny (model prog w) A (call (.builtin "list.pop") [.ref D]) Q E s := by
  refine kl_pop (its := (vs ++ [y]).toArray) (p := vs) F N ?_ (Upd.head hr) hlen h
  show kl_last (vs ++ [y]) = some (vs, y)
  clear N h hlen
  induction vs with
  | nil => rfl
  | cons a r ih => show (match kl_last (r ++ [y]) with | some (p, y) => some (a :: p, y) | none => some ([], a)) = _; rw [ih]
end
end
local macro_rules | `(tactic| walk_at "tree") => `(tactic| first | (with_reducible show PySem.wpAny _ _ _ _ _ _) | (with_reducible show (ite _ _ _ : Prop)))
local macro_rules | `(tactic| walk_at "stop") => `(tactic| first
  | (with_reducible show PySem.wpAny _ _ (PySem.exec (PySem.Stmt.While _ _ _ _) _) _ _ _)
  | (with_reducible show PySem.wpAny _ _ (PySem.exec (PySem.Stmt.For _ _ _ _ _) _) _ _ _)
  | (with_reducible show PySem.wpAny _ _ (PySem.call _ _) _ _ _)
  | (with_reducible show PySem.wpAny _ _ (PyProof.Rows.subscriptTail _ _ _ _) _ _ _)
  | (with_reducible show PySem.wpAny _ _ (PySem.setItem _ _ _) _ _ _)
  | (with_reducible show PySem.wpAny _ _ (PySem.truthy (PySem.Value.ref _)) _ _ _)
  | (with_reducible show PySem.wpAny _ _ (PySem.compareOp _ (Prod.fst _) _) _ _ _)
  | (with_reducible show PySem.wpAny _ _ (PySem.compareOp _ (PySem.Value.ref _) _) _ _ _))
local macro_rules | `(tactic| walk_at "go") => `(tactic| repeat' (first
  | (k_unfold; (try dsimp only))
  | ((with_reducible show PySem.W.Frag.In _ _ ∧ _); refine ⟨by k_in, ?_⟩)
  | ((first | walk_at "tree" | (dsimp only; walk_at "tree")); (fail_if_success walk_at "stop"); walk1; (try dsimp only))))
theorem off_W1 : True := by
  w_top off
  trivial
section
open PySem PySem.W PyProof.Rows PySem.Calls
set_option Elab.async false
set_option maxRecDepth 100000
set_option maxHeartbeats 4000000

theorem set_has {m : Str → Option Value} {a : Str} {v : Value} (h : m a = some v) : m = fun y => if y = a then some v else m y := by
  funext y
  by_cases e : y = a
  · rw [if_pos e, e, h]
  · rw [if_neg e]

theorem half_is {p : Nat} (h : 1 ≤ p) : ((p : Int) - 1).fdiv (2 ^ Int.toNat 1) = (((p - 1) / 2 : Nat) : Int) := by
  have e : ((2 : Int) ^ Int.toNat 1) = 2 := rfl
  rw [e, Int.fdiv_eq_ediv_of_nonneg _ (by omega)]
  omega

noncomputable def ltZ (a b : Z) : Bool := ltC a.2 b.2
noncomputable def gtZ (a b : Z) : Bool := ltC b.2 a.2

inductive DownTurn (s : Shared) (g : Heap) (L : Addr) (hp : Addr) (start : Nat) (t1 : Tok) (pos : Nat) (x : Z) (zs : List Z) (k : Nat) (s' : Shared) : Prop
  | mk (h : Heap) (tk : Nat) (m : Str → Option Value) (p : Nat) (t : Tok) (zs' : List Z) (n' : Nat) (f1 : s' = { s with heap := h, toks := tk }) (f2 : k = p) (f3 : Fr g L h m) (f4 : News g L h [(hp, listOf (zs'.map (·.1)).toArray n')]) (f5 : m (Str.ofString "heap") = some (.ref hp)) (f6 : m (Str.ofString "startpos") = some (.int start t1)) (f7 : m (Str.ofString "pos") = some (.int (p : Nat) t)) (f8 : m (Str.ofString "newitem") = some x.1) (f9 : zs'.length = zs.length) (f10 : p < zs'.length) (f11 : (∀ z ∈ zs', Chip g z)) (f12 : sd ltZ x start p zs' = sd ltZ x start pos zs) : DownTurn s g L hp start t1 pos x zs k s'
theorem siftdown_call {w : World} {h₀ : Heap} {A : Around} {s : Shared} {Q E : Value → Shared → Prop} {hp : Addr} {zs : List Z} {n : Nat} {start pos : Nat} {x : Z} {t1 t2 : Tok}
    (G : Gd w h₀ s.heap) (R : Rm A 2) (hn : h₀.get? hp = none) (hl : s.heap.get? hp = some (listOf (zs.map (·.1)).toArray n))
    (hz : ∀ z ∈ zs, Chip s.heap z) (hx : zs[pos]? = some x) (hlen : zs.length ≤ 100)
    (h : ∀ h' tk' n', Ext [hp] s.heap h' → h'.get? hp = some (listOf ((sd ltZ x start pos zs).map (·.1)).toArray n') → Q .none { s with heap := h', toks := tk' }) :
    wpAny (model Challenge.rw_pg0109_01.row.prog w) A (call (.ref 49) [.ref hp, .int start t1, .int pos t2]) Q E s := by
  have hn' : ∀ a ∈ [hp], h₀.get? a = none := fun a ha => by cases List.mem_singleton.mp ha; exact hn
  have X := (G.hide hn').in
  obtain ⟨loose, mean, mg, mb, T⟩ := (G.hide hn').top
  have X0 := G.in
  refine wpAny_call ?_
  revert X; k_fill; intro X
  refine' callF (binds := [(Str.ofString "heap", Value.ref hp), (Str.ofString "startpos", Value.int start t1), (Str.ofString "pos", Value.int pos t2)]) [hp] X0 (T.nolimit.keeps fun b o e => of_hideAll _ e) ?ho ?hcd R.room ?hbind ?hloc ?_ ?hcell ?c2 ?c3 ?c4
  (case ho => k_is)
  (case hcd => k_is)
  (case hbind => exact BindsTo.of_eq rfl)
  (case hcell => decide)
  (case hloc => exact locs rfl)
  (case c2 => exact rfl)
  (case c3 => exact rfl)
  (case c4 => exact rfl)
  intro L h' hL F' hk'
  have N' : News (hideAll s.heap [hp]) L h' [(hp, listOf (zs.map (·.1)).toArray n)] := by
    intro p hp'
    cases List.mem_singleton.mp hp'
    exact ⟨hk' _ _ hl, hL ▸ Nat.ne_of_lt (Heap.lt_size hl), hideAll_none _ (.head _)⟩
  have hext : ∀ b o, b ∉ [hp] → s.heap.get? b = some o → (hideAll s.heap [hp]).get? b = some o := fun b o n e => hideAll_get _ e n
  have hzg : ∀ z ∈ zs, Chip (hideAll s.heap [hp]) z := fun z hz1 => (hz z hz1).ext hext fun a ha o e => by cases List.mem_singleton.mp ha; rw [hl] at e; cases e; simp
  clear G X0
  generalize hideAll s.heap [hp] = g at *
  walk_at "go"
  refine item_at (hk' _ _ hl) rfl (v := x.1) (by simp [hx]) (by rw [List.length_map]; show _ ≤ 2 ^ 24; omega) ?_ (by with_unfolding_all rfl)
  walk_at "go"
  rename Fr _ _ _ _ => F0
  rename News _ _ _ _ => N0
  refine wpAny_While (codeAny_whileLoop (DownTurn s g L hp start t1 pos x zs) ?_ pos ?_)
  · rintro p s' ⟨h1, tk, m, _, t, zs', n', rfl, rfl, F, N, m1, m2, m3, m4, hl', hp', hz', hsd⟩
    rw [set_has m1, set_has m2, set_has m3, set_has m4] at F
    have hg1 : h1.get? hp = some (listOf (zs'.map (·.1)).toArray n') := N.get (.head _)
    walk_at "go"
    · -- the way in
      rename Fr _ _ _ _ => F1
      rename News _ _ _ _ => N1
      rename (_ : Int) < _ => hlt
      have hlt' : start < p := by omega
      have hpar : ((p : Int) - 1).fdiv (2 ^ Int.toNat 1) = (((p - 1) / 2 : Nat) : Int) := half_is (by omega)
      have hpi : (p - 1) / 2 < zs'.length := by omega
      obtain ⟨y, hy⟩ : ∃ y, zs'[(p - 1) / 2]? = some y := ⟨_, List.getElem?_eq_getElem hpi⟩
      refine item_at (i := (p - 1) / 2) (v := y.1) (N1.get (.head _)) hpar (by simp [hy]) (by rw [List.length_map]; show _ ≤ 2 ^ 24; omega) ?_ (by with_unfolding_all rfl)
      walk_at "go"
      rename Fr _ _ _ _ => F2
      rename News _ _ _ _ => N2
      refine cmpZ F2 (hzg x (List.mem_of_getElem? hx)) (hz' y (List.mem_of_getElem? hy)) (R.deeper.line) ?_
      walk_at "go"
      · rename ltC _ _ = true => hlt1
        refine set_at F2 N2 (fun _ h => nomatch h) rfl (by simpa using hp') (by rw [List.length_map]; show _ ≤ 2 ^ 24; omega) ?_
        intro h3 F3 N3
        walk_at "go"
        rename Fr _ _ _ _ => F4
        rename News _ _ _ _ => N4
        refine ⟨(p - 1) / 2, by omega, _, _, _, (p - 1) / 2, _, zs'.set p y, n', rfl, rfl, F4, by rw [List.map_set]; exact N4, rfl, rfl, by rw [← hpar]; rfl, rfl, by simpa using hl', by simpa using hpi, ?_, ?_⟩
        · intro z hz1
          rcases List.mem_or_eq_of_mem_set hz1 with h9 | h9
          · exact hz' z h9
          · rw [h9]; exact hz' y (List.mem_of_getElem? hy)
        · rw [← hsd, sd_in hlt' hy hlt1]
      · rename ltC _ _ = false => hlt1
        refine set_at F2 N2 (fun _ h => nomatch h) rfl (by simpa using hp') (by rw [List.length_map]; show _ ≤ 2 ^ 24; omega) ?_
        intro h3 F3 N3
        walk_at "go"
        exact h _ _ n' (fun b o nb e => F3.keep b o (hext b o nb e)) (by rw [← hsd, sd_brk hlt' hy hlt1, List.map_set]; exact N3.get (.head _))
    · refine set_at F N (fun _ h => nomatch h) rfl (by simpa using hp') (by rw [List.length_map]; show _ ≤ 2 ^ 24; omega) ?_
      intro h3 F3 N3
      walk_at "go"
      exact h _ _ n' (fun b o nb e => F3.keep b o (hext b o nb e)) (by rw [← hsd, sd_out (by omega), List.map_set]; exact N3.get (.head _))
  · refine ⟨_, _, _, pos, t2, zs, n, rfl, rfl, F0, N0, rfl, rfl, rfl, rfl, rfl, (List.getElem?_eq_some_iff.mp hx).1, hzg, rfl⟩
inductive DownTurnMax (s : Shared) (g : Heap) (L : Addr) (hp : Addr) (start : Nat) (t1 : Tok) (pos : Nat) (x : Z) (zs : List Z) (k : Nat) (s' : Shared) : Prop
  | mk (h : Heap) (tk : Nat) (m : Str → Option Value) (p : Nat) (t : Tok) (zs' : List Z) (n' : Nat) (f1 : s' = { s with heap := h, toks := tk }) (f2 : k = p) (f3 : Fr g L h m) (f4 : News g L h [(hp, listOf (zs'.map (·.1)).toArray n')]) (f5 : m (Str.ofString "heap") = some (.ref hp)) (f6 : m (Str.ofString "startpos") = some (.int start t1)) (f7 : m (Str.ofString "pos") = some (.int (p : Nat) t)) (f8 : m (Str.ofString "newitem") = some x.1) (f9 : zs'.length = zs.length) (f10 : p < zs'.length) (f11 : (∀ z ∈ zs', Chip g z)) (f12 : sd gtZ x start p zs' = sd gtZ x start pos zs) : DownTurnMax s g L hp start t1 pos x zs k s'
theorem siftdown_max_call {w : World} {h₀ : Heap} {A : Around} {s : Shared} {Q E : Value → Shared → Prop} {hp : Addr} {zs : List Z} {n : Nat} {start pos : Nat} {x : Z} {t1 t2 : Tok}
    (G : Gd w h₀ s.heap) (R : Rm A 2) (hn : h₀.get? hp = none) (hl : s.heap.get? hp = some (listOf (zs.map (·.1)).toArray n))
    (hz : ∀ z ∈ zs, Chip s.heap z) (hx : zs[pos]? = some x) (hlen : zs.length ≤ 100)
    (h : ∀ h' tk' n', Ext [hp] s.heap h' → h'.get? hp = some (listOf ((sd gtZ x start pos zs).map (·.1)).toArray n') → Q .none { s with heap := h', toks := tk' }) :
    wpAny (model Challenge.rw_pg0109_01.row.prog w) A (call (.ref 63) [.ref hp, .int start t1, .int pos t2]) Q E s := by
  have hn' : ∀ a ∈ [hp], h₀.get? a = none := fun a ha => by cases List.mem_singleton.mp ha; exact hn
  have X := (G.hide hn').in
  obtain ⟨loose, mean, mg, mb, T⟩ := (G.hide hn').top
  have X0 := G.in
  refine wpAny_call ?_
  revert X; k_fill; intro X
  refine' callF (binds := [(Str.ofString "heap", Value.ref hp), (Str.ofString "startpos", Value.int start t1), (Str.ofString "pos", Value.int pos t2)]) [hp] X0 (T.nolimit.keeps fun b o e => of_hideAll _ e) ?ho ?hcd R.room ?hbind ?hloc ?_ ?hcell ?c2 ?c3 ?c4
  (case ho => k_is)
  (case hcd => k_is)
  (case hbind => exact BindsTo.of_eq rfl)
  (case hcell => decide)
  (case hloc => exact locs rfl)
  (case c2 => exact rfl)
  (case c3 => exact rfl)
  (case c4 => exact rfl)
  intro L h' hL F' hk'
  have N' : News (hideAll s.heap [hp]) L h' [(hp, listOf (zs.map (·.1)).toArray n)] := by
    intro p hp'
    cases List.mem_singleton.mp hp'
    exact ⟨hk' _ _ hl, hL ▸ Nat.ne_of_lt (Heap.lt_size hl), hideAll_none _ (.head _)⟩
  have hext : ∀ b o, b ∉ [hp] → s.heap.get? b = some o → (hideAll s.heap [hp]).get? b = some o := fun b o n e => hideAll_get _ e n
  have hzg : ∀ z ∈ zs, Chip (hideAll s.heap [hp]) z := fun z hz1 => (hz z hz1).ext hext fun a ha o e => by cases List.mem_singleton.mp ha; rw [hl] at e; cases e; simp
  clear G X0
  generalize hideAll s.heap [hp] = g at *
  walk_at "go"
  refine item_at (hk' _ _ hl) rfl (v := x.1) (by simp [hx]) (by rw [List.length_map]; show _ ≤ 2 ^ 24; omega) ?_ (by with_unfolding_all rfl)
  walk_at "go"
  rename Fr _ _ _ _ => F0
  rename News _ _ _ _ => N0
  refine wpAny_While (codeAny_whileLoop (DownTurnMax s g L hp start t1 pos x zs) ?_ pos ?_)
  · rintro p s' ⟨h1, tk, m, _, t, zs', n', rfl, rfl, F, N, m1, m2, m3, m4, hl', hp', hz', hsd⟩
    rw [set_has m1, set_has m2, set_has m3, set_has m4] at F
    have hg1 : h1.get? hp = some (listOf (zs'.map (·.1)).toArray n') := N.get (.head _)
    walk_at "go"
    · -- the way in
      rename Fr _ _ _ _ => F1
      rename News _ _ _ _ => N1
      rename (_ : Int) < _ => hlt
      have hlt' : start < p := by omega
      have hpar : ((p : Int) - 1).fdiv (2 ^ Int.toNat 1) = (((p - 1) / 2 : Nat) : Int) := half_is (by omega)
      have hpi : (p - 1) / 2 < zs'.length := by omega
      obtain ⟨y, hy⟩ : ∃ y, zs'[(p - 1) / 2]? = some y := ⟨_, List.getElem?_eq_getElem hpi⟩
      refine item_at (i := (p - 1) / 2) (v := y.1) (N1.get (.head _)) hpar (by simp [hy]) (by rw [List.length_map]; show _ ≤ 2 ^ 24; omega) ?_ (by with_unfolding_all rfl)
      walk_at "go"
      rename Fr _ _ _ _ => F2
      rename News _ _ _ _ => N2
      refine cmpZ F2 (hz' y (List.mem_of_getElem? hy)) (hzg x (List.mem_of_getElem? hx)) (R.deeper.line) ?_
      walk_at "go"
      · rename ltC _ _ = true => hlt1
        refine set_at F2 N2 (fun _ h => nomatch h) rfl (by simpa using hp') (by rw [List.length_map]; show _ ≤ 2 ^ 24; omega) ?_
        intro h3 F3 N3
        walk_at "go"
        rename Fr _ _ _ _ => F4
        rename News _ _ _ _ => N4
        refine ⟨(p - 1) / 2, by omega, _, _, _, (p - 1) / 2, _, zs'.set p y, n', rfl, rfl, F4, by rw [List.map_set]; exact N4, rfl, rfl, by rw [← hpar]; rfl, rfl, by simpa using hl', by simpa using hpi, ?_, ?_⟩
        · intro z hz1
          rcases List.mem_or_eq_of_mem_set hz1 with h9 | h9
          · exact hz' z h9
          · rw [h9]; exact hz' y (List.mem_of_getElem? hy)
        · rw [← hsd, sd_in hlt' hy hlt1]
      · rename ltC _ _ = false => hlt1
        refine set_at F2 N2 (fun _ h => nomatch h) rfl (by simpa using hp') (by rw [List.length_map]; show _ ≤ 2 ^ 24; omega) ?_
        intro h3 F3 N3
        walk_at "go"
        exact h _ _ n' (fun b o nb e => F3.keep b o (hext b o nb e)) (by rw [← hsd, sd_brk hlt' hy hlt1, List.map_set]; exact N3.get (.head _))
    · refine set_at F N (fun _ h => nomatch h) rfl (by simpa using hp') (by rw [List.length_map]; show _ ≤ 2 ^ 24; omega) ?_
      intro h3 F3 N3
      walk_at "go"
      exact h _ _ n' (fun b o nb e => F3.keep b o (hext b o nb e)) (by rw [← hsd, sd_out (by omega), List.map_set]; exact N3.get (.head _))
  · refine ⟨_, _, _, pos, t2, zs, n, rfl, rfl, F0, N0, rfl, rfl, rfl, rfl, rfl, (List.getElem?_eq_some_iff.mp hx).1, hzg, rfl⟩
end
theorem off_W2 : True := by
  w_top off
  trivial
section
open PySem PySem.W PyProof.Rows PySem.Calls
set_option Elab.async false
set_option maxRecDepth 100000
set_option maxHeartbeats 4000000

inductive UpTurn (s : Shared) (zs : List Z) (g : Heap) (L : Addr) (hp : Addr) (pos : Nat) (t1 : Tok) (x : Z) (k : Nat) (s' : Shared) : Prop
  | mk (h : Heap) (tk : Nat) (m : Str → Option Value) (p : Nat) (te : Tok) (t : Tok) (tc : Tok) (zs' : List Z) (n' : Nat) (f1 : s' = { s with heap := h, toks := tk }) (f2 : k = zs.length - p) (f3 : Fr g L h m) (f4 : News g L h [(hp, listOf (zs'.map (·.1)).toArray n')]) (f5 : m (Str.ofString "heap") = some (.ref hp)) (f6 : m (Str.ofString "endpos") = some (.int (zs.length : Nat) te)) (f7 : m (Str.ofString "startpos") = some (.int (pos : Nat) t1)) (f8 : m (Str.ofString "newitem") = some x.1) (f9 : m (Str.ofString "pos") = some (.int (p : Nat) t)) (f10 : m (Str.ofString "childpos") = some (.int ((2 * p + 1 : Nat) : Int) tc)) (f11 : zs'.length = zs.length) (f12 : p < zs.length) (f13 : (∀ z ∈ zs', Chip g z)) (f14 : su ltZ x pos p zs' = su ltZ x pos pos zs) : UpTurn s zs g L hp pos t1 x k s'
theorem siftup_call {w : World} {h₀ : Heap} {A : Around} {s : Shared} {Q E : Value → Shared → Prop} {hp : Addr} {zs : List Z} {n : Nat} {pos : Nat} {x : Z} {t1 : Tok}
    (G : Gd w h₀ s.heap) (R : Rm A 4) (hn : h₀.get? hp = none) (hl : s.heap.get? hp = some (listOf (zs.map (·.1)).toArray n))
    (hz : ∀ z ∈ zs, Chip s.heap z) (hx : zs[pos]? = some x) (hlen : zs.length ≤ 100)
    (h : ∀ h' tk' n', Ext [hp] s.heap h' → h'.get? hp = some (listOf ((su ltZ x pos pos zs).map (·.1)).toArray n') → Q .none { s with heap := h', toks := tk' }) :
    wpAny (model Challenge.rw_pg0109_01.row.prog w) A (call (.ref 56) [.ref hp, .int pos t1]) Q E s := by
  have hn' : ∀ a ∈ [hp], h₀.get? a = none := fun a ha => by cases List.mem_singleton.mp ha; exact hn
  have Gg := G.hide hn'
  have X := (G.hide hn').in
  obtain ⟨loose, mean, mg, mb, T⟩ := (G.hide hn').top
  have X0 := G.in
  refine wpAny_call ?_
  revert X; k_fill; intro X
  refine' callF (binds := [(Str.ofString "heap", Value.ref hp), (Str.ofString "pos", Value.int pos t1)]) [hp] X0 (T.nolimit.keeps fun b o e => of_hideAll _ e) ?ho ?hcd R.room ?hbind ?hloc ?_ ?hcell ?c2 ?c3 ?c4
  (case ho => k_is)
  (case hcd => k_is)
  (case hbind => exact BindsTo.of_eq rfl)
  (case hcell => decide)
  (case hloc => exact locs rfl)
  (case c2 => exact rfl)
  (case c3 => exact rfl)
  (case c4 => exact rfl)
  intro L h' hL F' hk'
  have N' : News (hideAll s.heap [hp]) L h' [(hp, listOf (zs.map (·.1)).toArray n)] := by
    intro p hp'
    cases List.mem_singleton.mp hp'
    exact ⟨hk' _ _ hl, hL ▸ Nat.ne_of_lt (Heap.lt_size hl), hideAll_none _ (.head _)⟩
  have hext : ∀ b o, b ∉ [hp] → s.heap.get? b = some o → (hideAll s.heap [hp]).get? b = some o := fun b o n e => hideAll_get _ e n
  have hzg : ∀ z ∈ zs, Chip (hideAll s.heap [hp]) z := fun z hz1 => (hz z hz1).ext hext fun a ha o e => by cases List.mem_singleton.mp ha; rw [hl] at e; cases e; simp
  have hgn : (hideAll s.heap [hp]).get? hp = none := hideAll_none _ (.head _)
  clear G X0
  generalize hideAll s.heap [hp] = g at *
  have hpl : pos < zs.length := (List.getElem?_eq_some_iff.mp hx).1
  have hsz : ∀ ys : List Z, ys.length ≤ 100 → (ys.map (·.1)).length ≤ sizeLine := fun ys hy => by rw [List.length_map]; show _ ≤ 2 ^ 24; omega
  walk_at "go"
  refine len_at (N'.get (.head _)) (hsz _ hlen) ?_
  walk_at "go"
  refine item_at (i := pos) (v := x.1) (News.get (by assumption) (.head _)) rfl (by simp [hx]) (hsz _ hlen) ?_ (by with_unfolding_all rfl)
  walk_at "go"
  rename Fr _ _ _ _ => F0
  rename News _ _ _ _ => N0
  refine wpAny_While (codeAny_whileLoop (UpTurn s zs g L hp pos t1 x) ?_ (zs.length - pos) ?_)
  · rintro k s' ⟨h1, tk, m, p, te, t, tc, zs', n', rfl, rfl, F, N, m1, m2, m3, m4, m5, m6, hl', hp', hz', hsd⟩
    rw [set_has m1, set_has m2, set_has m3, set_has m4, set_has m5, set_has m6] at F
    have hlen' : zs'.length ≤ 100 := by omega
    have hpz : p < zs'.length := by omega
    walk_at "go"
    · rename ((2 * p + 1 : Nat) : Int) < _ => hc1
      rename (_ + 1 : Int) < _ => hc2
      obtain ⟨l, hl⟩ : ∃ y, zs'[2 * p + 1]? = some y := ⟨_, List.getElem?_eq_getElem (by omega)⟩
      obtain ⟨r, hr⟩ : ∃ y, zs'[2 * p + 2]? = some y := ⟨_, List.getElem?_eq_getElem (by omega)⟩
      refine item_at (i := 2 * p + 1) (v := l.1) (News.get (by assumption) (.head _)) rfl (by simp [hl]) (hsz _ hlen') ?_ (by with_unfolding_all rfl)
      walk_at "go"
      refine item_at (i := 2 * p + 2) (v := r.1) (News.get (by assumption) (.head _)) (by omega) (by simp [hr]) (hsz _ hlen') ?_ (by with_unfolding_all rfl)
      refine cmpZ (by assumption) (hz' l (List.mem_of_getElem? hl)) (hz' r (List.mem_of_getElem? hr)) (R.deeper.line) ?_
      walk_at "go"
      · rename ltC _ _ = true => hlt1
        refine item_at (i := 2 * p + 1) (v := l.1) (News.get (by assumption) (.head _)) (by omega) (by simp [hl]) (hsz _ hlen') ?_ (by with_unfolding_all rfl)
        walk_at "go"
        rename Fr _ _ _ _ => F5
        rename News _ _ _ _ => N5
        refine set_at F5 N5 (fun _ h => nomatch h) rfl (by simpa using hpz) (hsz _ hlen') ?_
        intro h6 F6 N6
        walk_at "go"
        rename Fr _ _ _ _ => F7
        rename News _ _ _ _ => N7
        refine ⟨zs.length - (2 * p + 1), by omega, _, _, _, 2 * p + 1, _, _, _, zs'.set p l, n', rfl, rfl, F7, by rw [List.map_set]; exact N7, rfl, rfl, rfl, rfl, vint (by omega), vint (by omega), by simpa using hl', by omega, chips_set hz' (hz' l (List.mem_of_getElem? hl)), by rw [← hsd]; exact (su_left hl hr hlt1).symm⟩
      · rename ltC _ _ = false => hlt1
        refine item_at (i := 2 * p + 2) (v := r.1) (News.get (by assumption) (.head _)) (by omega) (by simp [hr]) (hsz _ hlen') ?_ (by with_unfolding_all rfl)
        walk_at "go"
        rename Fr _ _ _ _ => F5
        rename News _ _ _ _ => N5
        refine set_at F5 N5 (fun _ h => nomatch h) rfl (by simpa using hpz) (hsz _ hlen') ?_
        intro h6 F6 N6
        walk_at "go"
        rename Fr _ _ _ _ => F7
        rename News _ _ _ _ => N7
        refine ⟨zs.length - (2 * p + 2), by omega, _, _, _, 2 * p + 2, _, _, _, zs'.set p r, n', rfl, rfl, F7, by rw [List.map_set]; exact N7, rfl, rfl, rfl, rfl, vint (by omega), vint (by omega), by simpa using hl', by omega, chips_set hz' (hz' r (List.mem_of_getElem? hr)), by rw [← hsd]; exact (su_right hl hr hlt1).symm⟩
    · rename ((2 * p + 1 : Nat) : Int) < _ => hc1
      rename ¬ (_ + 1 : Int) < _ => hc2
      obtain ⟨l, hl⟩ : ∃ y, zs'[2 * p + 1]? = some y := ⟨_, List.getElem?_eq_getElem (by omega)⟩
      refine item_at (i := 2 * p + 1) (v := l.1) (News.get (by assumption) (.head _)) (by omega) (by simp [hl]) (hsz _ hlen') ?_ (by with_unfolding_all rfl)
      walk_at "go"
      rename Fr _ _ _ _ => F5
      rename News _ _ _ _ => N5
      refine set_at F5 N5 (fun _ h => nomatch h) rfl (by simpa using hpz) (hsz _ hlen') ?_
      intro h6 F6 N6
      walk_at "go"
      rename Fr _ _ _ _ => F7
      rename News _ _ _ _ => N7
      refine ⟨zs.length - (2 * p + 1), by omega, _, _, _, 2 * p + 1, _, _, _, zs'.set p l, n', rfl, rfl, F7, by rw [List.map_set]; exact N7, rfl, rfl, rfl, rfl, vint (by omega), vint (by omega), by simpa using hl', by omega, chips_set hz' (hz' l (List.mem_of_getElem? hl)), by rw [← hsd]; exact (su_one hl (List.getElem?_eq_none (by omega))).symm⟩
    · rename ¬ _ < _ => hc1
      refine set_at F N (fun _ h => nomatch h) rfl (by simpa using hpz) (hsz _ hlen') ?_
      intro h6 F6 N6
      walk_at "go"
      refine siftdown_call (Gg.fr F6) (R.deeper.le (by omega)) hn (zs := zs'.set p x) (x := x) (by rw [List.map_set]; exact N6.get (.head _)) (fun z hz1 => (chips_set hz' (hzg x (List.mem_of_getElem? hx)) z hz1).fr F6) (by simp [hpz]) (by simpa using hlen') ?_
      intro h8 tk8 n8 e8 g8
      walk_at "go"
      exact h _ _ n8 (fun b o nb e => e8 b o nb (F6.keep b o (hext b o nb e))) (by rw [← hsd, su_out (by omega)]; exact g8)
  · refine ⟨_, _, _, pos, _, _, _, zs, n, rfl, rfl, F0, N0, rfl, by rw [← List.length_map (f := fun z : Z => z.1)]; rfl, rfl, rfl, rfl, rfl, rfl, hpl, hzg, rfl⟩
inductive UpTurnMax (s : Shared) (zs : List Z) (g : Heap) (L : Addr) (hp : Addr) (pos : Nat) (t1 : Tok) (x : Z) (k : Nat) (s' : Shared) : Prop
  | mk (h : Heap) (tk : Nat) (m : Str → Option Value) (p : Nat) (te : Tok) (t : Tok) (tc : Tok) (zs' : List Z) (n' : Nat) (f1 : s' = { s with heap := h, toks := tk }) (f2 : k = zs.length - p) (f3 : Fr g L h m) (f4 : News g L h [(hp, listOf (zs'.map (·.1)).toArray n')]) (f5 : m (Str.ofString "heap") = some (.ref hp)) (f6 : m (Str.ofString "endpos") = some (.int (zs.length : Nat) te)) (f7 : m (Str.ofString "startpos") = some (.int (pos : Nat) t1)) (f8 : m (Str.ofString "newitem") = some x.1) (f9 : m (Str.ofString "pos") = some (.int (p : Nat) t)) (f10 : m (Str.ofString "childpos") = some (.int ((2 * p + 1 : Nat) : Int) tc)) (f11 : zs'.length = zs.length) (f12 : p < zs.length) (f13 : (∀ z ∈ zs', Chip g z)) (f14 : su gtZ x pos p zs' = su gtZ x pos pos zs) : UpTurnMax s zs g L hp pos t1 x k s'
theorem siftup_max_call {w : World} {h₀ : Heap} {A : Around} {s : Shared} {Q E : Value → Shared → Prop} {hp : Addr} {zs : List Z} {n : Nat} {pos : Nat} {x : Z} {t1 : Tok}
    (G : Gd w h₀ s.heap) (R : Rm A 4) (hn : h₀.get? hp = none) (hl : s.heap.get? hp = some (listOf (zs.map (·.1)).toArray n))
    (hz : ∀ z ∈ zs, Chip s.heap z) (hx : zs[pos]? = some x) (hlen : zs.length ≤ 100)
    (h : ∀ h' tk' n', Ext [hp] s.heap h' → h'.get? hp = some (listOf ((su gtZ x pos pos zs).map (·.1)).toArray n') → Q .none { s with heap := h', toks := tk' }) :
    wpAny (model Challenge.rw_pg0109_01.row.prog w) A (call (.ref 70) [.ref hp, .int pos t1]) Q E s := by
  have hn' : ∀ a ∈ [hp], h₀.get? a = none := fun a ha => by cases List.mem_singleton.mp ha; exact hn
  have Gg := G.hide hn'
  have X := (G.hide hn').in
  obtain ⟨loose, mean, mg, mb, T⟩ := (G.hide hn').top
  have X0 := G.in
  refine wpAny_call ?_
  revert X; k_fill; intro X
  refine' callF (binds := [(Str.ofString "heap", Value.ref hp), (Str.ofString "pos", Value.int pos t1)]) [hp] X0 (T.nolimit.keeps fun b o e => of_hideAll _ e) ?ho ?hcd R.room ?hbind ?hloc ?_ ?hcell ?c2 ?c3 ?c4
  (case ho => k_is)
  (case hcd => k_is)
  (case hbind => exact BindsTo.of_eq rfl)
  (case hcell => decide)
  (case hloc => exact locs rfl)
  (case c2 => exact rfl)
  (case c3 => exact rfl)
  (case c4 => exact rfl)
  intro L h' hL F' hk'
  have N' : News (hideAll s.heap [hp]) L h' [(hp, listOf (zs.map (·.1)).toArray n)] := by
    intro p hp'
    cases List.mem_singleton.mp hp'
    exact ⟨hk' _ _ hl, hL ▸ Nat.ne_of_lt (Heap.lt_size hl), hideAll_none _ (.head _)⟩
  have hext : ∀ b o, b ∉ [hp] → s.heap.get? b = some o → (hideAll s.heap [hp]).get? b = some o := fun b o n e => hideAll_get _ e n
  have hzg : ∀ z ∈ zs, Chip (hideAll s.heap [hp]) z := fun z hz1 => (hz z hz1).ext hext fun a ha o e => by cases List.mem_singleton.mp ha; rw [hl] at e; cases e; simp
  have hgn : (hideAll s.heap [hp]).get? hp = none := hideAll_none _ (.head _)
  clear G X0
  generalize hideAll s.heap [hp] = g at *
  have hpl : pos < zs.length := (List.getElem?_eq_some_iff.mp hx).1
  have hsz : ∀ ys : List Z, ys.length ≤ 100 → (ys.map (·.1)).length ≤ sizeLine := fun ys hy => by rw [List.length_map]; show _ ≤ 2 ^ 24; omega
  walk_at "go"
  refine len_at (N'.get (.head _)) (hsz _ hlen) ?_
  walk_at "go"
  refine item_at (i := pos) (v := x.1) (News.get (by assumption) (.head _)) rfl (by simp [hx]) (hsz _ hlen) ?_ (by with_unfolding_all rfl)
  walk_at "go"
  rename Fr _ _ _ _ => F0
  rename News _ _ _ _ => N0
  refine wpAny_While (codeAny_whileLoop (UpTurnMax s zs g L hp pos t1 x) ?_ (zs.length - pos) ?_)
  · rintro k s' ⟨h1, tk, m, p, te, t, tc, zs', n', rfl, rfl, F, N, m1, m2, m3, m4, m5, m6, hl', hp', hz', hsd⟩
    rw [set_has m1, set_has m2, set_has m3, set_has m4, set_has m5, set_has m6] at F
    have hlen' : zs'.length ≤ 100 := by omega
    have hpz : p < zs'.length := by omega
    walk_at "go"
    · rename ((2 * p + 1 : Nat) : Int) < _ => hc1
      rename (_ + 1 : Int) < _ => hc2
      obtain ⟨l, hl⟩ : ∃ y, zs'[2 * p + 1]? = some y := ⟨_, List.getElem?_eq_getElem (by omega)⟩
      obtain ⟨r, hr⟩ : ∃ y, zs'[2 * p + 2]? = some y := ⟨_, List.getElem?_eq_getElem (by omega)⟩
      refine item_at (i := 2 * p + 2) (v := r.1) (News.get (by assumption) (.head _)) (by omega) (by simp [hr]) (hsz _ hlen') ?_ (by with_unfolding_all rfl)
      walk_at "go"
      refine item_at (i := 2 * p + 1) (v := l.1) (News.get (by assumption) (.head _)) rfl (by simp [hl]) (hsz _ hlen') ?_ (by with_unfolding_all rfl)
      refine cmpZ (by assumption) (hz' r (List.mem_of_getElem? hr)) (hz' l (List.mem_of_getElem? hl)) (R.deeper.line) ?_
      walk_at "go"
      · rename ltC _ _ = true => hlt1
        refine item_at (i := 2 * p + 1) (v := l.1) (News.get (by assumption) (.head _)) (by omega) (by simp [hl]) (hsz _ hlen') ?_ (by with_unfolding_all rfl)
        walk_at "go"
        rename Fr _ _ _ _ => F5
        rename News _ _ _ _ => N5
        refine set_at F5 N5 (fun _ h => nomatch h) rfl (by simpa using hpz) (hsz _ hlen') ?_
        intro h6 F6 N6
        walk_at "go"
        rename Fr _ _ _ _ => F7
        rename News _ _ _ _ => N7
        refine ⟨zs.length - (2 * p + 1), by omega, _, _, _, 2 * p + 1, _, _, _, zs'.set p l, n', rfl, rfl, F7, by rw [List.map_set]; exact N7, rfl, rfl, rfl, rfl, vint (by omega), vint (by omega), by simpa using hl', by omega, chips_set hz' (hz' l (List.mem_of_getElem? hl)), by rw [← hsd]; exact (su_left hl hr hlt1).symm⟩
      · rename ltC _ _ = false => hlt1
        refine item_at (i := 2 * p + 2) (v := r.1) (News.get (by assumption) (.head _)) (by omega) (by simp [hr]) (hsz _ hlen') ?_ (by with_unfolding_all rfl)
        walk_at "go"
        rename Fr _ _ _ _ => F5
        rename News _ _ _ _ => N5
        refine set_at F5 N5 (fun _ h => nomatch h) rfl (by simpa using hpz) (hsz _ hlen') ?_
        intro h6 F6 N6
        walk_at "go"
        rename Fr _ _ _ _ => F7
        rename News _ _ _ _ => N7
        refine ⟨zs.length - (2 * p + 2), by omega, _, _, _, 2 * p + 2, _, _, _, zs'.set p r, n', rfl, rfl, F7, by rw [List.map_set]; exact N7, rfl, rfl, rfl, rfl, vint (by omega), vint (by omega), by simpa using hl', by omega, chips_set hz' (hz' r (List.mem_of_getElem? hr)), by rw [← hsd]; exact (su_right hl hr hlt1).symm⟩
    · rename ((2 * p + 1 : Nat) : Int) < _ => hc1
      rename ¬ (_ + 1 : Int) < _ => hc2
      obtain ⟨l, hl⟩ : ∃ y, zs'[2 * p + 1]? = some y := ⟨_, List.getElem?_eq_getElem (by omega)⟩
      refine item_at (i := 2 * p + 1) (v := l.1) (News.get (by assumption) (.head _)) (by omega) (by simp [hl]) (hsz _ hlen') ?_ (by with_unfolding_all rfl)
      walk_at "go"
      rename Fr _ _ _ _ => F5
      rename News _ _ _ _ => N5
      refine set_at F5 N5 (fun _ h => nomatch h) rfl (by simpa using hpz) (hsz _ hlen') ?_
      intro h6 F6 N6
      walk_at "go"
      rename Fr _ _ _ _ => F7
      rename News _ _ _ _ => N7
      refine ⟨zs.length - (2 * p + 1), by omega, _, _, _, 2 * p + 1, _, _, _, zs'.set p l, n', rfl, rfl, F7, by rw [List.map_set]; exact N7, rfl, rfl, rfl, rfl, vint (by omega), vint (by omega), by simpa using hl', by omega, chips_set hz' (hz' l (List.mem_of_getElem? hl)), by rw [← hsd]; exact (su_one hl (List.getElem?_eq_none (by omega))).symm⟩
    · rename ¬ _ < _ => hc1
      refine set_at F N (fun _ h => nomatch h) rfl (by simpa using hpz) (hsz _ hlen') ?_
      intro h6 F6 N6
      walk_at "go"
      refine siftdown_max_call (Gg.fr F6) (R.deeper.le (by omega)) hn (zs := zs'.set p x) (x := x) (by rw [List.map_set]; exact N6.get (.head _)) (fun z hz1 => (chips_set hz' (hzg x (List.mem_of_getElem? hx)) z hz1).fr F6) (by simp [hpz]) (by simpa using hlen') ?_
      intro h8 tk8 n8 e8 g8
      walk_at "go"
      exact h _ _ n8 (fun b o nb e => e8 b o nb (F6.keep b o (hext b o nb e))) (by rw [← hsd, su_out (by omega)]; exact g8)
  · refine ⟨_, _, _, pos, _, _, _, zs, n, rfl, rfl, F0, N0, rfl, by rw [← List.length_map (f := fun z : Z => z.1)]; rfl, rfl, rfl, rfl, rfl, rfl, hpl, hzg, rfl⟩
end
theorem off_W3 : True := by
  w_top off
  trivial
section
open PySem PySem.W PyProof.Rows PySem.Calls
set_option Elab.async false
set_option maxRecDepth 100000
set_option maxHeartbeats 4000000

theorem heappush_call {w : World} {h₀ : Heap} {A : Around} {s : Shared} {Q E : Value → Shared → Prop} {hp : Addr} {zs : List Z} {n : Nat} {x : Z}
    (G : Gd w h₀ s.heap) (R : Rm A 4) (hn : h₀.get? hp = none) (hl : s.heap.get? hp = some (listOf (zs.map (·.1)).toArray n))
    (hz : ∀ z ∈ zs, Chip s.heap z) (hx : Chip s.heap x) (hlen : zs.length ≤ 90)
    (h : ∀ h' tk' n', Ext [hp] s.heap h' → h'.get? hp = some (listOf ((sd ltZ x 0 zs.length (zs ++ [x])).map (·.1)).toArray n') → Q .none { s with heap := h', toks := tk' }) :
    wpAny (model Challenge.rw_pg0109_01.row.prog w) A (call (.ref 21) [.ref hp, x.1]) Q E s := by
  have hn' : ∀ a ∈ [hp], h₀.get? a = none := fun a ha => by cases List.mem_singleton.mp ha; exact hn
  have Gg := G.hide hn'
  have X := (G.hide hn').in
  obtain ⟨loose, mean, mg, mb, T⟩ := (G.hide hn').top
  have X0 := G.in
  refine wpAny_call ?_
  revert X; k_fill; intro X
  refine' callF (binds := [(Str.ofString "heap", Value.ref hp), (Str.ofString "item", x.1)]) [hp] X0 (T.nolimit.keeps fun b o e => of_hideAll _ e) ?ho ?hcd R.room ?hbind ?hloc ?_ ?hcell ?c2 ?c3 ?c4
  (case ho => k_is)
  (case hcd => k_is)
  (case hbind => exact BindsTo.of_eq rfl)
  (case hcell => decide)
  (case hloc => exact locs rfl)
  (case c2 => exact rfl)
  (case c3 => exact rfl)
  (case c4 => exact rfl)
  intro L h' hL F' hk'
  have N' : News (hideAll s.heap [hp]) L h' [(hp, listOf (zs.map (·.1)).toArray n)] := by
    intro p hp'
    cases List.mem_singleton.mp hp'
    exact ⟨hk' _ _ hl, hL ▸ Nat.ne_of_lt (Heap.lt_size hl), hideAll_none _ (.head _)⟩
  have hext : ∀ b o, b ∉ [hp] → s.heap.get? b = some o → (hideAll s.heap [hp]).get? b = some o := fun b o n e => hideAll_get _ e n
  have hzg : ∀ z ∈ zs, Chip (hideAll s.heap [hp]) z := fun z hz1 => (hz z hz1).ext hext fun a ha o e => by cases List.mem_singleton.mp ha; rw [hl] at e; cases e; simp
  have hgn : (hideAll s.heap [hp]).get? hp = none := hideAll_none _ (.head _)
  have hsz : ∀ ys : List Z, ys.length ≤ 100 → (ys.map (·.1)).length ≤ sizeLine := fun ys hy => by rw [List.length_map]; show _ ≤ 2 ^ 24; omega
  have hxg : Chip (hideAll s.heap [hp]) x := hx.ext hext fun a ha o e => by cases List.mem_singleton.mp ha; rw [hl] at e; cases e; simp
  clear G X0
  generalize hideAll s.heap [hp] = g at *
  walk_at "go"
  refine append_at F' N' (fun _ h => nomatch h) (hsz _ (by omega)) ?_
  intro h1 F1 N1
  have e1 : zs.map (·.1) ++ [x.1] = (zs ++ [x]).map (·.1) := by simp
  rw [e1] at N1
  walk_at "go"
  refine len_at (News.get (by assumption) (.head _)) (hsz _ (by simp; omega)) ?_
  walk_at "go"
  rename Fr _ _ _ _ => F2
  rename News _ _ _ _ => N2
  have e2 : (((zs ++ [x]).map (·.1)).length : Int) - 1 = (zs.length : Nat) := by simp
  rw [e2]
  refine siftdown_call (start := 0) (pos := zs.length) (zs := zs ++ [x]) (x := x) (Gg.fr F2) (R.deeper.le (by omega)) hn (N2.get (.head _)) ?_ (by simp) (by simp; omega) ?_
  · intro z hz1
    rcases List.mem_append.mp hz1 with h9 | h9
    · exact (hzg z h9).fr F2
    · cases List.mem_singleton.mp h9; exact hxg.fr F2
  intro h8 tk8 n8 e8 g8
  walk_at "go"
  exact h _ _ n8 (fun b o nb e => e8 b o nb (F2.keep b o (hext b o nb e))) g8

theorem heappop_call {w : World} {h₀ : Heap} {A : Around} {s : Shared} {Q E : Value → Shared → Prop} {hp : Addr} {zs : List Z} {n : Nat} {r : Z}
    (G : Gd w h₀ s.heap) (R : Rm A 6) (hn : h₀.get? hp = none) (hl : s.heap.get? hp = some (listOf (zs.map (·.1)).toArray n))
    (hz : ∀ z ∈ zs, Chip s.heap z) (hr : zs[0]? = some r) (hlen : zs.length ≤ 90)
    (h : ∀ h' tk' n', Ext [hp] s.heap h' → h'.get? hp = some (listOf ((hpop ltZ zs).map (·.1)).toArray n') → Q r.1 { s with heap := h', toks := tk' }) :
    wpAny (model Challenge.rw_pg0109_01.row.prog w) A (call (.ref 28) [.ref hp]) Q E s := by
  have hn' : ∀ a ∈ [hp], h₀.get? a = none := fun a ha => by cases List.mem_singleton.mp ha; exact hn
  have Gg := G.hide hn'
  have X := (G.hide hn').in
  obtain ⟨loose, mean, mg, mb, T⟩ := (G.hide hn').top
  have X0 := G.in
  refine wpAny_call ?_
  revert X; k_fill; intro X
  refine' callF (binds := [(Str.ofString "heap", Value.ref hp)]) [hp] X0 (T.nolimit.keeps fun b o e => of_hideAll _ e) ?ho ?hcd R.room ?hbind ?hloc ?_ ?hcell ?c2 ?c3 ?c4
  (case ho => k_is)
  (case hcd => k_is)
  (case hbind => exact BindsTo.of_eq rfl)
  (case hcell => decide)
  (case hloc => exact locs rfl)
  (case c2 => exact rfl)
  (case c3 => exact rfl)
  (case c4 => exact rfl)
  intro L h' hL F' hk'
  have N' : News (hideAll s.heap [hp]) L h' [(hp, listOf (zs.map (·.1)).toArray n)] := by
    intro p hp'
    cases List.mem_singleton.mp hp'
    exact ⟨hk' _ _ hl, hL ▸ Nat.ne_of_lt (Heap.lt_size hl), hideAll_none _ (.head _)⟩
  have hext : ∀ b o, b ∉ [hp] → s.heap.get? b = some o → (hideAll s.heap [hp]).get? b = some o := fun b o n e => hideAll_get _ e n
  have hzg : ∀ z ∈ zs, Chip (hideAll s.heap [hp]) z := fun z hz1 => (hz z hz1).ext hext fun a ha o e => by cases List.mem_singleton.mp ha; rw [hl] at e; cases e; simp
  have hgn : (hideAll s.heap [hp]).get? hp = none := hideAll_none _ (.head _)
  have hsz : ∀ ys : List Z, ys.length ≤ 100 → (ys.map (·.1)).length ≤ sizeLine := fun ys hy => by rw [List.length_map]; show _ ≤ 2 ^ 24; omega
  clear G X0
  generalize hideAll s.heap [hp] = g at *
  obtain ⟨ys, y, rfl⟩ : ∃ ys y, zs = ys ++ [y] := ⟨zs.dropLast, zs.getLast (by rintro rfl; cases hr), (List.dropLast_concat_getLast _).symm⟩
  rw [List.map_append] at N'
  have hlen2 : ys.length + 1 ≤ 90 := by simpa using hlen
  have hyg := hzg y (by simp)
  have hysg : ∀ z ∈ ys, Chip g z := fun z hz1 => hzg z (by simp [hz1])
  walk_at "go"
  refine pop_at F' N' (fun _ h => nomatch h) (by simpa using hsz (ys ++ [y]) (by omega)) ?_
  intro h1 F1 N1
  walk_at "go"
  refine truthy_at (News.get (by assumption) (.head _)) (hsz _ (by omega)) ?_
  intro tk2
  cases ys with
  | nil =>
    cases (Option.some.inj hr : y = r)
    walk_at "go"
    rename Fr _ _ _ _ => F3
    rename News _ _ _ _ => N3
    exact h _ _ _ (fun b o nb e => F3.keep b o (hext b o nb e)) (N3.get (.head _))
  | cons z0 ys =>
    cases (Option.some.inj hr : z0 = r)
    rw [show (!(List.map (fun x : Z => x.1) (r :: ys)).isEmpty) = true from rfl]
    walk_at "go"
    refine item_at (i := 0) (v := r.1) (News.get (by assumption) (.head _)) rfl rfl (hsz _ (by omega)) ?_ (by with_unfolding_all rfl)
    walk_at "go"
    rename Fr _ _ _ _ => F3
    rename News _ _ _ _ => N3
    refine set_at (i := 0) F3 N3 (fun _ h => nomatch h) rfl (by simp) (hsz _ (by omega)) ?_
    intro h4 F4 N4
    walk_at "go"
    refine siftup_call (pos := 0) (zs := (r :: ys).set 0 y) (x := y) (Gg.fr F4) (R.deeper.le (by omega)) hn (by rw [List.map_set]; exact N4.get (.head _)) (fun z hz1 => (chips_set hysg hyg z hz1).fr F4) rfl (by simp at hlen2 ⊢; omega) ?_
    intro h5 tk5 n5 e5 g5
    have F5 := fr_ext F4 e5 (fun hm => by cases List.mem_singleton.mp hm; exact (N4 _ (.head _)).2.1 rfl) (fun a ha => by cases List.mem_singleton.mp ha; exact hgn)
    walk_at "go"
    exact h _ _ n5 (fun b o nb e => e5 b o nb (F4.keep b o (hext b o nb e))) (by rw [hpop_snoc]; exact g5)

theorem heappop_max_call {w : World} {h₀ : Heap} {A : Around} {s : Shared} {Q E : Value → Shared → Prop} {hp : Addr} {zs : List Z} {n : Nat} {r : Z}
    (G : Gd w h₀ s.heap) (R : Rm A 6) (hn : h₀.get? hp = none) (hl : s.heap.get? hp = some (listOf (zs.map (·.1)).toArray n))
    (hz : ∀ z ∈ zs, Chip s.heap z) (hr : zs[0]? = some r) (hlen : zs.length ≤ 90)
    (h : ∀ h' tk' n', Ext [hp] s.heap h' → h'.get? hp = some (listOf ((hpop gtZ zs).map (·.1)).toArray n') → Q r.1 { s with heap := h', toks := tk' }) :
    wpAny (model Challenge.rw_pg0109_01.row.prog w) A (call (.ref 35) [.ref hp]) Q E s := by
  have hn' : ∀ a ∈ [hp], h₀.get? a = none := fun a ha => by cases List.mem_singleton.mp ha; exact hn
  have Gg := G.hide hn'
  have X := (G.hide hn').in
  obtain ⟨loose, mean, mg, mb, T⟩ := (G.hide hn').top
  have X0 := G.in
  refine wpAny_call ?_
  revert X; k_fill; intro X
  refine' callF (binds := [(Str.ofString "heap", Value.ref hp)]) [hp] X0 (T.nolimit.keeps fun b o e => of_hideAll _ e) ?ho ?hcd R.room ?hbind ?hloc ?_ ?hcell ?c2 ?c3 ?c4
  (case ho => k_is)
  (case hcd => k_is)
  (case hbind => exact BindsTo.of_eq rfl)
  (case hcell => decide)
  (case hloc => exact locs rfl)
  (case c2 => exact rfl)
  (case c3 => exact rfl)
  (case c4 => exact rfl)
  intro L h' hL F' hk'
  have N' : News (hideAll s.heap [hp]) L h' [(hp, listOf (zs.map (·.1)).toArray n)] := by
    intro p hp'
    cases List.mem_singleton.mp hp'
    exact ⟨hk' _ _ hl, hL ▸ Nat.ne_of_lt (Heap.lt_size hl), hideAll_none _ (.head _)⟩
  have hext : ∀ b o, b ∉ [hp] → s.heap.get? b = some o → (hideAll s.heap [hp]).get? b = some o := fun b o n e => hideAll_get _ e n
  have hzg : ∀ z ∈ zs, Chip (hideAll s.heap [hp]) z := fun z hz1 => (hz z hz1).ext hext fun a ha o e => by cases List.mem_singleton.mp ha; rw [hl] at e; cases e; simp
  have hgn : (hideAll s.heap [hp]).get? hp = none := hideAll_none _ (.head _)
  have hsz : ∀ ys : List Z, ys.length ≤ 100 → (ys.map (·.1)).length ≤ sizeLine := fun ys hy => by rw [List.length_map]; show _ ≤ 2 ^ 24; omega
  clear G X0
  generalize hideAll s.heap [hp] = g at *
  obtain ⟨ys, y, rfl⟩ : ∃ ys y, zs = ys ++ [y] := ⟨zs.dropLast, zs.getLast (by rintro rfl; cases hr), (List.dropLast_concat_getLast _).symm⟩
  rw [List.map_append] at N'
  have hlen2 : ys.length + 1 ≤ 90 := by simpa using hlen
  have hyg := hzg y (by simp)
  have hysg : ∀ z ∈ ys, Chip g z := fun z hz1 => hzg z (by simp [hz1])
  walk_at "go"
  refine pop_at F' N' (fun _ h => nomatch h) (by simpa using hsz (ys ++ [y]) (by omega)) ?_
  intro h1 F1 N1
  walk_at "go"
  refine truthy_at (News.get (by assumption) (.head _)) (hsz _ (by omega)) ?_
  intro tk2
  cases ys with
  | nil =>
    cases (Option.some.inj hr : y = r)
    walk_at "go"
    rename Fr _ _ _ _ => F3
    rename News _ _ _ _ => N3
    exact h _ _ _ (fun b o nb e => F3.keep b o (hext b o nb e)) (N3.get (.head _))
  | cons z0 ys =>
    cases (Option.some.inj hr : z0 = r)
    rw [show (!(List.map (fun x : Z => x.1) (r :: ys)).isEmpty) = true from rfl]
    walk_at "go"
    refine item_at (i := 0) (v := r.1) (News.get (by assumption) (.head _)) rfl rfl (hsz _ (by omega)) ?_ (by with_unfolding_all rfl)
    walk_at "go"
    rename Fr _ _ _ _ => F3
    rename News _ _ _ _ => N3
    refine set_at (i := 0) F3 N3 (fun _ h => nomatch h) rfl (by simp) (hsz _ (by omega)) ?_
    intro h4 F4 N4
    walk_at "go"
    refine siftup_max_call (pos := 0) (zs := (r :: ys).set 0 y) (x := y) (Gg.fr F4) (R.deeper.le (by omega)) hn (by rw [List.map_set]; exact N4.get (.head _)) (fun z hz1 => (chips_set hysg hyg z hz1).fr F4) rfl (by simp at hlen2 ⊢; omega) ?_
    intro h5 tk5 n5 e5 g5
    have F5 := fr_ext F4 e5 (fun hm => by cases List.mem_singleton.mp hm; exact (N4 _ (.head _)).2.1 rfl) (fun a ha => by cases List.mem_singleton.mp ha; exact hgn)
    walk_at "go"
    exact h _ _ n5 (fun b o nb e => e5 b o nb (F4.keep b o (hext b o nb e))) (by rw [hpop_snoc]; exact g5)
end
section
open PySem PySem.W PyProof.Rows PySem.Calls
set_option Elab.async false
set_option maxRecDepth 100000
set_option maxHeartbeats 4000000
open AutoSeq1 (wpAny_loadPart')

abbrev rangeIt (x left step : Int) : Obj := { cls := .type "range_iterator", data := .fields #[rawInt x, rawInt left, rawInt step] }

theorem range_rev (r : Addr) (k : Int) (t u v : Tok) (h0 : 0 ≤ k) (h1 : k < 2 ^ 60) :
    Meets (Builtin.«range.__reversed__» ⟨[.ref r], []⟩)
      (fun _ R s => IsRange s.heap r 0 k 1 t u v ∧ R (.ok (.ret (.ref s.heap.objs.size))) { s with heap := s.heap.push (rangeIt (k - 1) k (-1)) }) :=
  .of_wp fun prog w A R s h => by
    obtain ⟨hp, g, d, tk, os⟩ := s; obtain ⟨hl, h⟩ := h
    have hsz : Builtin.Range.rangeSize 0 k 1 = k := by rw [rangeSize_one]; split <;> omega
    have hf : Builtin.Range.rangeFitsLong k = true := by simp only [Builtin.Range.rangeFitsLong, Bool.and_eq_true, decide_eq_true_eq]; omega
    have hfit : (Builtin.Range.rangeFitsLong 0 && Builtin.Range.rangeFitsLong k && Builtin.Range.rangeFitsLong 1 && Builtin.Range.rangeFitsLong (-1) && Builtin.Range.rangeFitsLong (0 - 1) && Builtin.Range.rangeFitsLong (Builtin.Range.rangeSize 0 k 1)) = true := by
      rw [hsz, hf]; decide
    wp_walk
    rw [hfit, hsz]
    wp_walk
    refine ⟨_, rfl, ?_⟩
    have e : (0 + (k - 1) * 1 : Int) = k - 1 := by omega
    rw [e]
    exact h

section
variable {prog : Program} {w : World} {A : Around} {E : Value → Shared → Prop} {s : Shared} {env : Env} {g : Heap} {x : Str} {body : List Stmt} {Q : Flow → Shared → Prop}

theorem sub_range_it_reversed : isSubtype (.type "range_iterator") (.type "reversed") = pure false := by rw [isSubtype_type]; kernel_rfl

theorem code_reversed_range {r : Addr} {k : Int} {t u v : Tok} {Q₁ : Value → Shared → Prop} (hl : IsRange s.heap r 0 k 1 t u v) (h0 : 0 ≤ k) (h1 : k < 2 ^ 60)
    (h : Q₁ (.ref s.heap.objs.size) { s with heap := s.heap.push (rangeIt (k - 1) k (-1)) }) :
    codeAny (model prog w) A (.call (.builtin "reversed.__new__") ⟨[.type "reversed", .ref r], []⟩) (wants Q₁ E) s := by
  have hT : s.TypeIs (.ref r) "range" := ⟨_, hl, rfl⟩
  refine codeAny_of_tree ?_
  show wpAny _ A.in1 (do checkBuiltinCall "reversed.__new__" ⟨[.type "reversed", .ref r], []⟩; again (.builtin "reversed.__new__" ⟨[.type "reversed", .ref r], []⟩)) _ _ s
  refine wpAny_bind (wpAny_of_eq (F.newCall_reversed_1 _) (wpAny_pure ⟨plainId_quiet F.plain_reversed_new _, codeAny_builtin F.entry_reversed_new ?_⟩))
  rw [Around.under_plainId F.plain_reversed_new _]
  unfold Builtin.«reversed.__new__»
  refine wpAny_bind (wpAny_of_eq (newClass_reversed _) ?_)
  try dsimp only
  refine wpAny_bind (wpAny_of_eq (a := ()) (by first | rfl | kernel_rfl) ?_)
  refine wpAny_bind (wpAny_of_eq (a := ()) (by first | rfl | kernel_rfl) ?_)
  try dsimp only
  refine wpAny_bind (wpAny_specialOf hT F.slot_range_reversed.lookup ?_)
  try dsimp only
  refine wpAny_bind (wpAny_of_eq (F.slot_range_reversed.bind _) ?_)
  try dsimp only
  first
  | rw [if_neg (show ¬ ((Value.builtin "range.__reversed__" == Value.none) = true) from Bool.false_ne_true)]
  | (show wpAny _ _ (if (Value.builtin "range.__reversed__" == Value.none) = true then _ else _) _ _ _; rw [if_neg (show ¬ ((Value.builtin "range.__reversed__" == Value.none) = true) from Bool.false_ne_true)])
  refine wpAny_bind (wpAny_rule ?_)
  refine wpAny_bind (m := runValue (.call (.builtin "range.__reversed__") ⟨[.ref r], []⟩)) (show wpAny _ _ (call (.builtin "range.__reversed__") [.ref r]) _ _ _ from call_meets F.slot_range_reversed hT F.entry_range_reversed (F.args_range_reversed_1 _) (range_rev r k t u v h0 h1) ⟨hl, ?_⟩)
  first
  | exact wpAny_pure h
  | exact wpAny_bind (wpAny_pure (wpAny_pure h))

theorem call_reversed_range {r : Addr} {k : Int} {t u v : Tok} {Q : Value → Shared → Prop} (hl : IsRange s.heap r 0 k 1 t u v) (h0 : 0 ≤ k) (h1 : k < 2 ^ 60)
    (h : Q (.ref s.heap.objs.size) { s with heap := s.heap.push (rangeIt (k - 1) k (-1)) }) : wpAny (model prog w) A (call (.type "reversed") [.ref r]) Q E s := by
  refine callType_other (U := "range_iterator") (Q₁ := fun obj s₁ => obj = .ref s.heap.objs.size ∧ s₁ = { s with heap := s.heap.push (rangeIt (k - 1) k (-1)) }) (by decide +kernel) F.create_reversed ⟨_, _, F.mro_reversed⟩ F.made_reversed sub_range_it_reversed (F.typeCall_reversed_1 _) (code_reversed_range hl h0 h1 ⟨rfl, rfl⟩) ?_
  rintro obj s₁ ⟨rfl, rfl⟩
  exact ⟨⟨_, Heap.get?_push_size _ rfl, rfl⟩, h⟩

theorem news_sub {L : Addr} {h : Heap} {l l' : List (Addr × Obj)} (N : News g L h l) (hs : ∀ p ∈ l', p ∈ l) : News g L h l' := fun p hp => N p (hs p hp)

/-- one end of a for's turn -/
theorem turn_next {L : Addr} {wr : List Addr} {own news : List (Addr × Obj)} {Jn : (Str → Option Value) → List (Addr × Obj) → Prop} {s₁ : Shared} {h : Heap} {tk : Nat} {m : Str → Option Value} {Qr : Value → Shared → Prop} {Qb : Shared → Prop}
    (F : Fr g L h m) (N : News g L h (own ++ news)) (hw : ∀ p ∈ news, p.1 ∉ wr) (hj : Jn m news) : LoopStepV g L wr own Jn s₁ Qr Qb .next { s₁ with heap := h, toks := tk } :=
  LoopStepV.next ⟨rfl, h, tk, m, news, rfl, F, N, hw, hj⟩

/-- a for over a range's iterator that lies at I -/
theorem loop_rangeIt {I : Addr} {a c : Int} {k : Nat} {m₀ : Str → Option Value} {news : List (Addr × Obj)} (J : Nat → (Str → Option Value) → List (Addr × Obj) → Prop)
    (hh : A.handled = none) (hI : s.heap.get? I = some (rangeIt a k c)) (hg : g.get? I = none) (hL : env.locals ≠ I) (hw : ∀ p ∈ news, p.1 ≠ I) (F : Fr g env.locals s.heap m₀) (N : News g env.locals s.heap news) (hj : J 0 m₀ news)
    (turn : ∀ i t m₁ news₁ h tk o, i < k → J i m₁ news₁ → (∀ p ∈ news₁, p.1 ≠ I) → Fr g env.locals h (fun y => if y = x then some (.int (a + i * c) t) else m₁ y) → News g env.locals h ((I, o) :: news₁) →
      wpAny (model prog w) A (execs body env) (LoopStepV g env.locals [I] [(I, o)] (J (i + 1)) { s with heap := h, toks := tk } (fun v s' => Q (.ret v) s') fun s' => Q .next s') E { s with heap := h, toks := tk })
    (done : ∀ m₁ news₁ h tk, J k m₁ news₁ → Fr g env.locals h m₁ → News g env.locals h news₁ → Q .next { s with heap := h, toks := tk }) :
    LoopAtV prog w A g env x body Q E (.ref I) s := by
  refine ⟨I, [I], [I], k, _, _, m₀, news, J, rfl, Walks.range hh I a c k, ?_, ?_, ?_, ?_, F, N, hj, ?_, ?_⟩
  · simpa using hL
  · intro b hb; rw [List.mem_singleton.mp hb]; exact hg
  · intro p hp; simpa using hw p hp
  · simpa using hI
  · rintro i v m₁ news₁ s₁ own ⟨h, tk, rfl⟩ hi ⟨t, rfl⟩ hJ hoff h1 h2 h3 hst F₁ N₁
    have hst' : h.get? I = some _ := hst
    have hmem := h3 I (List.mem_singleton.mpr rfl) hg _ hst'
    have turn' := turn i t m₁ news₁ h tk (rangeIt (a + ((i + 1 : Nat) : Int) * c) ((k : Int) - ((i + 1 : Nat) : Int)) c) hi hJ (fun p hp => by simpa using hoff p hp) F₁
    refine wpAny_mono (turn' (fun p hp => ?_)) (fun f s₂ q => ?_) fun _ _ e => e
    · rcases List.mem_cons.mp hp with rfl | hp
      · exact N₁ _ (List.mem_append_left _ hmem)
      · exact N₁ _ (List.mem_append_right _ hp)
    · have conv : ∀ s₂, LoopStepU g env.locals [I] [(I, rangeIt (a + ((i + 1 : Nat) : Int) * c) ((k : Int) - ((i + 1 : Nat) : Int)) c)] (J (i + 1)) { s with heap := h, toks := tk } .next s₂ → LoopStepU g env.locals [I] own (J (i + 1)) { s with heap := h, toks := tk } .next s₂ := by
        rintro s₂ ⟨_, h', tk', m', news', rfl, F', N', hw', hj'⟩
        refine ⟨rfl, h', tk', m', news', rfl, F', fun p hp => ?_, hw', hj'⟩
        rcases List.mem_append.mp hp with hp | hp
        · have e1 : p.1 = I := by simpa using h1 p hp
          have e2 := h2 p hp
          have e3 : h.get? p.1 = some p.2 := e2
          rw [e1, hst'] at e3
          have : p = (I, rangeIt (a + ((i + 1 : Nat) : Int) * c) ((k : Int) - ((i + 1 : Nat) : Int)) c) := Prod.ext e1 (Option.some.inj e3).symm
          rw [this]
          exact N' _ (List.mem_append_left _ (.head _))
        · exact N' _ (List.mem_append_right _ hp)
      cases f with
      | ret v => exact q
      | brk => exact q
      | next => exact conv _ q
      | cont => exact conv _ q
  · rintro h' tk m' news' F' N' _ hJ
    exact done m' news' h' tk hJ F' N'

/-- a for over a list that lies at l and stays as it is -/
theorem loop_list {l : Addr} {vs : List Value} {nl : Nat} {m₀ : Str → Option Value} {news : List (Addr × Obj)} (J : Nat → (Str → Option Value) → List (Addr × Obj) → Prop)
    (hh : A.handled = none) (hl : s.heap.get? l = some (listOf vs.toArray nl)) (hlL : l ≠ env.locals) (F : Fr g env.locals s.heap m₀) (N : News g env.locals s.heap news) (hj : J 0 m₀ news)
    (turn : ∀ i v m₁ news₁ h tk own I, vs[i]? = some v → J i m₁ news₁ → (∀ p ∈ news₁, p.1 ≠ I) → (∀ p ∈ own, p.1 = I ∨ p.1 = l) → Fr g env.locals h (fun y => if y = x then some v else m₁ y) → News g env.locals h (own ++ news₁) →
      wpAny (model prog w) A (execs body env) (LoopStepV g env.locals [I] own (J (i + 1)) { s with heap := h, toks := tk } (fun v s' => Q (.ret v) s') fun s' => Q .next s') E { s with heap := h, toks := tk })
    (done : ∀ m₁ news₁ h tk, J vs.length m₁ news₁ → Fr g env.locals h m₁ → News g env.locals h news₁ → Q .next { s with heap := h, toks := tk }) :
    wpAny (model prog w) A (pyIter (.ref l)) (fun it s₂ => LoopAtV prog w A g env x body Q E it s₂) E s := by
  have hls : s.heap.IsList l vs.toArray := cell_isList hl
  have hne : l ≠ s.heap.objs.size := Nat.ne_of_lt (Heap.lt_size hl)
  refine wpAny_pyIter_list hls ?_
  have W := Walks.list (prog := prog) (w := w) hh s.heap.objs.size l hne vs.toArray
  refine ⟨_, _, _, _, _, _, m₀, news, J, rfl, W, ?_, ?_, ?_, ⟨⟨_, Heap.get?_push_size _ rfl, rfl, rfl⟩, hls.at fun o e => Heap.get?_push_of_some _ e⟩, F.push _, (fun p hp => ⟨Heap.get?_push_of_some _ (N p hp).1, (N p hp).2⟩), hj, ?_, ?_⟩
  · intro hm
    rcases List.mem_cons.mp hm with e | hm
    · exact absurd F.ns.lt (e ▸ Nat.lt_irrefl _)
    · exact hlL (List.mem_singleton.mp hm).symm
  · intro b hb
    rw [List.mem_singleton.mp hb]
    exact next_is_new F
  · intro p hp hI
    exact absurd (Heap.lt_size (N p hp).1) ((List.mem_singleton.mp hI) ▸ Nat.lt_irrefl _)
  · rintro i v m₁ news₁ s₁ own ⟨h, tk, rfl⟩ hin hP hJ hoff h1 _ _ _ F₁ N₁
    exact turn i v m₁ news₁ h tk own _ (by simpa using hP) hJ (fun p hp => by simpa using hoff p hp) (fun p hp => by simpa using h1 p hp) F₁ N₁
  · rintro h' tk m' news' F' N' _ hJ
    exact done m' news' h' tk (by simpa using hJ) F' N'

variable {L : Addr} {m : Str → Option Value} {news : List (Addr × Obj)}
abbrev rangeO (a b c : Int) (t u v : Tok) : Obj := { cls := .type "range", data := .fields #[.int a t, .int b u, .int c v] }
theorem range1 {n : Int} {t : Tok} {Q : Value → Shared → Prop} (F : Fr g L s.heap m) (N : News g L s.heap news)
    (h : ∀ r h' tk t1 t2, Fr g L h' m → News g L h' ((r, rangeO 0 n 1 t1 t t2) :: news) → (∀ p ∈ news, p.1 < r) → L < r → Q (.ref r) { s with heap := h', toks := tk }) :
    wpAny (model prog w) A (call (.type "range") [.int n t]) Q E s :=
  call_range_1 (h _ _ _ _ _ (F.push _) (N.push F _) (fun p hp => Heap.lt_size (N p hp).1) F.ns.lt)
theorem reversed1 {r : Addr} {k : Int} {t u v : Tok} {Q : Value → Shared → Prop} (F : Fr g L s.heap m) (N : News g L s.heap news) (hr : (r, rangeO 0 k 1 t u v) ∈ news) (h0 : 0 ≤ k) (h1 : k < 2 ^ 60)
    (h : ∀ I h', Fr g L h' m → News g L h' ((I, rangeIt (k - 1) k (-1)) :: news) → (∀ p ∈ news, p.1 < I) → L < I → Q (.ref I) { s with heap := h' }) :
    wpAny (model prog w) A (call (.type "reversed") [.ref r]) Q E s :=
  call_reversed_range (N.get hr) h0 h1 (h _ _ (F.push _) (N.push F _) (fun p hp => Heap.lt_size (N p hp).1) F.ns.lt)

theorem iter_range {r : Addr} {n : Int} {t u v : Tok} {k : Nat} {Q : Value → Shared → Prop} (F : Fr g L s.heap m) (N : News g L s.heap news) (hr : (r, rangeO 0 n 1 t u v) ∈ news) (hk : n = (k : Int)) (h1 : k < 2 ^ 60)
    (h : ∀ I h', Fr g L h' m → News g L h' ((I, rangeIt 0 k 1) :: news) → (∀ p ∈ news, p.1 < I) → L < I → Q (.ref I) { s with heap := h' }) :
    wpAny (model prog w) A (pyIter (.ref r)) Q E s := by
  subst hk
  have hsz : Builtin.Range.rangeSize 0 (k : Int) 1 = (k : Int) := by rw [rangeSize_one]; split <;> omega
  refine wpAny_pyIter_range (N.get hr) (small_one (by decide) (by decide) (by omega) (by omega)) ?_
  rw [hsz]
  exact h _ _ (F.push _) (N.push F _) (fun p hp => Heap.lt_size (N p hp).1) F.ns.lt
end
end
section
open PySem PySem.W PyProof.Rows PySem.Calls
set_option Elab.async false
set_option maxRecDepth 100000
set_option maxHeartbeats 4000000

/-- a pair of ints, as a tuple or as a list -/
noncomputable def Pair (h : Heap) (z : Z) : Prop := ∃ a t u n, z.1 = .ref a ∧ (h.get? a = some (chipO z.2.1 z.2.2 t u n) ∨ h.get? a = some (listOf #[.int z.2.1 t, .int z.2.2 u] n))
theorem Chip.pair {h : Heap} {z : Z} (c : Chip h z) : Pair h z := by
  obtain ⟨a, t, u, n, e1, e2⟩ := c
  exact ⟨a, t, u, n, e1, .inl e2⟩

section
variable {prog : Program} {w : World} {A : Around} {E : Value → Shared → Prop} {s : Shared} {g : Heap} {L D : Addr} {m : Str → Option Value} {news : List (Addr × Obj)}

theorem item_pair {value slice : PySem.Expr} {z : Z} {k : Int} {u : Tok} {Q : Value → Shared → Prop} (F : Fr g L s.heap m) (hz : Pair g z) (hk : k = 0 ∨ k = 1) (h : ∀ t, Q (.int (if k = 0 then z.2.1 else z.2.2) t) s)
    (hs : ∀ a, subscripted slice false (.ref a) (.int k u) = operate [.ref a, .int k u] (getItem (.ref a) (.int k u))) :
    wpAny (model prog w) A (subscriptTail value slice z.1 (.int k u)) Q E s := by
  obtain ⟨a, t, t', n, e1, e2⟩ := hz
  rw [e1]
  rcases e2 with e2 | e2
  · have e3 := F.keep _ _ e2
    rcases hk with rfl | rfl
    · exact item_tupleT (l := [.int z.2.1 t, .int z.2.2 t']) (j := 0) ⟨_, e3, rfl, n, rfl⟩ (by decide) (by decide) rfl rfl (h t) (hs a)
    · exact item_tupleT (l := [.int z.2.1 t, .int z.2.2 t']) (j := 1) ⟨_, e3, rfl, n, rfl⟩ (by decide) (by decide) rfl rfl (h t') (hs a)
  · have e3 := F.keep _ _ e2
    rcases hk with rfl | rfl
    · exact item_litK (vs := [.int z.2.1 t, .int z.2.2 t']) (cell_isList e3) (by decide) (by decide) rfl (h t) (hs a)
    · exact item_litK (vs := [.int z.2.1 t, .int z.2.2 t']) (cell_isList e3) (by decide) (by decide) rfl (h t') (hs a)

theorem item_pair0 {value slice : PySem.Expr} {z : Z} {u : Tok} {Q : Value → Shared → Prop} (F : Fr g L s.heap m) (hz : Pair g z) (h : ∀ t, Q (.int z.2.1 t) s)
    (hs : ∀ a, subscripted slice false (.ref a) (.int 0 u) = operate [.ref a, .int 0 u] (getItem (.ref a) (.int 0 u))) :
    wpAny (model prog w) A (subscriptTail value slice z.1 (.int 0 u)) Q E s := item_pair F hz (.inl rfl) h hs
theorem item_pair1 {value slice : PySem.Expr} {z : Z} {u : Tok} {Q : Value → Shared → Prop} (F : Fr g L s.heap m) (hz : Pair g z) (h : ∀ t, Q (.int z.2.2 t) s)
    (hs : ∀ a, subscripted slice false (.ref a) (.int 1 u) = operate [.ref a, .int 1 u] (getItem (.ref a) (.int 1 u))) :
    wpAny (model prog w) A (subscriptTail value slice z.1 (.int 1 u)) Q E s := item_pair F hz (.inr rfl) h hs

theorem fr_keeps {h h' : Heap} (F : Fr g L h m) (e : ∀ c o, h.get? c = some o → h'.get? c = some o) : Fr g L h' m := fr_ext (own := []) F (fun b o _ q => e b o q) (fun hm => nomatch hm) (fun _ hm => nomatch hm)
theorem news_keeps {h h' : Heap} (N : News g L h news) (e : ∀ c o, h.get? c = some o → h'.get? c = some o) : News g L h' news := fun p hp => ⟨e _ _ (N p hp).1, (N p hp).2⟩

theorem min_two' {a b : Int} {t u : Tok} {Q : Value → Shared → Prop} (hh : A.handled = none) (F : Fr g L s.heap m) (N : News g L s.heap news)
    (h : ∀ h' tk t', Fr g L h' m → News g L h' news → Q (.int (min a b) t') { s with heap := h', toks := tk }) : wpAny (model prog w) A (call (.builtin "min") [.int a t, .int b u]) Q E s := by
  refine min_two_ints hh fun h' tk hk => ?_
  by_cases hc : b < a
  · rw [if_pos hc]
    have e : b = min a b := by omega
    rw [e]
    exact h _ _ _ (fr_keeps F hk) (news_keeps N hk)
  · rw [if_neg hc]
    have e : a = min a b := by omega
    have := h h' tk t (fr_keeps F hk) (news_keeps N hk)
    rwa [← e] at this
theorem max_two' {a b : Int} {t u : Tok} {Q : Value → Shared → Prop} (hh : A.handled = none) (F : Fr g L s.heap m) (N : News g L s.heap news)
    (h : ∀ h' tk t', Fr g L h' m → News g L h' news → Q (.int (max a b) t') { s with heap := h', toks := tk }) : wpAny (model prog w) A (call (.builtin "max") [.int a t, .int b u]) Q E s := by
  refine max_two_ints hh fun h' tk hk => ?_
  by_cases hc : b > a
  · rw [if_pos hc]
    have e : b = max a b := by omega
    rw [e]
    exact h _ _ _ (fr_keeps F hk) (news_keeps N hk)
  · rw [if_neg hc]
    have e : a = max a b := by omega
    have := h h' tk t (fr_keeps F hk) (news_keeps N hk)
    rwa [← e] at this

theorem item_h0 {value slice : PySem.Expr} {z : Z} {u : Tok} {Q : Value → Shared → Prop} (F : Fr g L s.heap m) (hz : Pair s.heap z) (h : ∀ t, Q (.int z.2.1 t) s)
    (hs : ∀ a, subscripted slice false (.ref a) (.int 0 u) = operate [.ref a, .int 0 u] (getItem (.ref a) (.int 0 u))) :
    wpAny (model prog w) A (subscriptTail value slice z.1 (.int 0 u)) Q E s := by
  obtain ⟨oL, a1, a2, hoL, a3⟩ := F.ns
  obtain ⟨a, t, t', n, e1, e2⟩ := hz
  rw [e1]
  rcases e2 with e3 | e3
  · exact item_tupleT (l := [.int z.2.1 t, .int z.2.2 t']) (j := 0) ⟨_, e3, rfl, n, rfl⟩ (by decide) (by decide) rfl rfl (h t) (hs a)
  · exact item_litK (vs := [.int z.2.1 t, .int z.2.2 t']) (cell_isList e3) (by decide) (by decide) rfl (h t) (hs a)
theorem item_last {value slice : PySem.Expr} {vs : List Value} {n : Nat} {u : Tok} {y : Value} {Q : Value → Shared → Prop} (hl : s.heap.get? D = some (listOf (vs ++ [y]).toArray n)) (hlen : (vs ++ [y]).length ≤ sizeLine) (h : Q y s)
    (hs : subscripted slice false (.ref D) (.int (-1) u) = operate [.ref D, .int (-1) u] (getItem (.ref D) (.int (-1) u))) :
    wpAny (model prog w) A (subscriptTail value slice (.ref D) (.int (-1) u)) Q E s := by
  have e : sizeLine = 2 ^ 24 := rfl
  have hl2 : (vs ++ [y]).length = vs.length + 1 := by simp
  refine tail_any (cell_isList hl).typeIs slot_list_getitem.lookup (wpAny_getItem_list_neg (cell_isList hl) (by decide) (by simp; omega) (by decide) ?_ h) hs
  have e2 : ((-1 : Int) + (vs ++ [y]).toArray.size).toNat = vs.length := by simp; omega
  rw [e2]
  simp
theorem eq_nil {vs : List Value} {n n' : Nat} {b : Addr} {Q : Value → Shared → Prop} (hl : s.heap.get? D = some (listOf vs.toArray n)) (hb : s.heap.get? b = some (listOf #[] n')) (hu : A.units < cLine) (h : Q (.bool vs.isEmpty) s) :
    wpAny (model prog w) A (compareOp .Eq (.ref D) (.ref b)) Q E s := by
  cases vs with
  | nil => exact PySem.SeqAt.eq_listAt (e := fun _ => true) (cell_isList hl) (cell_isList hb) rfl hu (fun j h1 => absurd h1 (Nat.not_lt_zero _)) h
  | cons v vs => exact PySem.SeqAt.eq_list_lengthsAt (cell_isList hl) (cell_isList hb) (by simp) hu h
end
end
theorem off_W4 : True := by
  w_top off
  trivial
section
open PySem PySem.W PyProof.Rows PySem.Calls
set_option Elab.async false
set_option maxRecDepth 100000
set_option maxHeartbeats 4000000

inductive HeapifyTurn (hp : Addr) (zs : List Z) (g : Heap) (i : Nat) (m : Str → Option Value) (news : List (Addr × Obj)) : Prop
  | mk (zs' : List Z) (n' : Nat) (f1 : news = [(hp, listOf (zs'.map (·.1)).toArray n')]) (f2 : m (Str.ofString "x") = some (.ref hp)) (f3 : zs'.length = zs.length) (f4 : (∀ z ∈ zs', Chip g z)) (f5 : hfy gtZ (zs.length / 2 - i) zs' = hfy gtZ (zs.length / 2) zs) : HeapifyTurn hp zs g i m news
theorem heapify_call {w : World} {h₀ : Heap} {A : Around} {s : Shared} {Q E : Value → Shared → Prop} {hp : Addr} {zs : List Z} {n : Nat}
    (G : Gd w h₀ s.heap) (R : Rm A 6) (hn : h₀.get? hp = none) (hl : s.heap.get? hp = some (listOf (zs.map (·.1)).toArray n))
    (hz : ∀ z ∈ zs, Chip s.heap z) (hlen : zs.length ≤ 90)
    (h : ∀ h' tk' n', Ext [hp] s.heap h' → h'.get? hp = some (listOf ((hfy gtZ (zs.length / 2) zs).map (·.1)).toArray n') → Q .none { s with heap := h', toks := tk' }) :
    wpAny (model Challenge.rw_pg0109_01.row.prog w) A (call (.ref 42) [.ref hp]) Q E s := by
  have hn' : ∀ a ∈ [hp], h₀.get? a = none := fun a ha => by cases List.mem_singleton.mp ha; exact hn
  have Gg := G.hide hn'
  have X := (G.hide hn').in
  obtain ⟨loose, mean, mg, mb, T⟩ := (G.hide hn').top
  have X0 := G.in
  refine wpAny_call ?_
  revert X; k_fill; intro X
  refine' callF (binds := [(Str.ofString "x", Value.ref hp)]) [hp] X0 (T.nolimit.keeps fun b o e => of_hideAll _ e) ?ho ?hcd R.room ?hbind ?hloc ?_ ?hcell ?c2 ?c3 ?c4
  (case ho => k_is)
  (case hcd => k_is)
  (case hbind => exact BindsTo.of_eq rfl)
  (case hcell => decide)
  (case hloc => exact locs rfl)
  (case c2 => exact rfl)
  (case c3 => exact rfl)
  (case c4 => exact rfl)
  intro L h' hL F' hk'
  have N' : News (hideAll s.heap [hp]) L h' [(hp, listOf (zs.map (·.1)).toArray n)] := by
    intro p hp'
    cases List.mem_singleton.mp hp'
    exact ⟨hk' _ _ hl, hL ▸ Nat.ne_of_lt (Heap.lt_size hl), hideAll_none _ (.head _)⟩
  have hext : ∀ b o, b ∉ [hp] → s.heap.get? b = some o → (hideAll s.heap [hp]).get? b = some o := fun b o n e => hideAll_get _ e n
  have hzg : ∀ z ∈ zs, Chip (hideAll s.heap [hp]) z := fun z hz1 => (hz z hz1).ext hext fun a ha o e => by cases List.mem_singleton.mp ha; rw [hl] at e; cases e; simp
  have hgn : (hideAll s.heap [hp]).get? hp = none := hideAll_none _ (.head _)
  have hsz : ∀ ys : List Z, ys.length ≤ 100 → (ys.map (·.1)).length ≤ sizeLine := fun ys hy => by rw [List.length_map]; show _ ≤ 2 ^ 24; omega
  clear G X0
  generalize hideAll s.heap [hp] = g at *
  walk_at "go"
  refine len_at (News.get (by assumption) (.head _)) (hsz _ (by omega)) ?_
  walk_at "go"
  refine For_invV g rfl rfl ?_
  walk_at "go"
  rename Fr _ _ _ _ => F1
  rename News _ _ _ _ => N1
  have ek : (((zs.map (fun z : Z => z.1)).length : Int)).fdiv 2 = ((zs.length / 2 : Nat) : Int) := by
    rw [List.length_map, Int.fdiv_eq_ediv_of_nonneg _ (by omega)]; omega
  refine range1 F1 N1 ?_
  intro r h2 tk2 t2 t3 F2 N2 l2 lL2
  walk_at "go"
  rw [ek] at N2
  refine reversed1 F2 N2 (.head _) (by omega) (by omega) ?_
  intro I h3 F3 N3 l3 lL3
  walk_at "go"
  refine wpAny_pyIter_rangeiter (N3.get (.head _)) ?_
  have hrI := l3 _ (.head _)
  have hpI := l3 _ (.tail _ (.head _))
  refine loop_rangeIt (k := zs.length / 2) (news := [(hp, listOf (zs.map (·.1)).toArray n)]) (HeapifyTurn hp zs g) R.deeper.handled (N3.get (.head _)) (N3.fresh (.head _)) ?_ ?_ F3 (news_sub N3 (fun p hp1 => .tail _ (.tail _ hp1))) ⟨zs, n, rfl, rfl, rfl, hzg, rfl⟩ ?_ ?_
  · exact Nat.ne_of_lt lL3
  · intro p hp1
    cases List.mem_singleton.mp hp1
    exact Nat.ne_of_lt hpI
  · rintro i t m news₁ h4 tk4 o hi ⟨zs', n', rfl, m1, hl', hz', hs'⟩ hne F4 N4
    rw [set_has m1] at F4
    obtain ⟨y, hy⟩ : ∃ y, zs'[zs.length / 2 - 1 - i]? = some y := ⟨_, List.getElem?_eq_getElem (by omega)⟩
    walk_at "go"
    rename Fr _ _ _ _ => F5
    rename News _ _ _ _ => N5
    have ev : (((zs.length / 2 : Nat) : Int) - 1 + (i : Int) * -1) = ((zs.length / 2 - 1 - i : Nat) : Int) := by omega
    rw [ev]
    have hnI : hp ≠ I := hne _ (.head _)
    refine siftup_max_call (pos := zs.length / 2 - 1 - i) (zs := zs') (x := y) (Gg.fr F5) (R.deeper.le (by omega)) hn (N5.get (.tail _ (.head _))) (fun z hz1 => (hz' z hz1).fr F5) hy (by omega) ?_
    intro h6 tk6 n6 e6 g6
    walk_at "go"
    refine turn_next (news := [(hp, listOf ((su gtZ y (zs.length / 2 - 1 - i) (zs.length / 2 - 1 - i) zs').map (·.1)).toArray n6)]) (fr_ext F5 e6 (fun hm => by cases List.mem_singleton.mp hm; exact (N5 _ (.tail _ (.head _))).2.1 rfl) (fun a ha => by cases List.mem_singleton.mp ha; exact hgn)) ?_ ?_ ⟨_, n6, rfl, by rfl, ?_, ?_, ?_⟩
    · intro p hp1
      rcases List.mem_cons.mp hp1 with rfl | hp1
      · have z := N5 _ (.head _)
        exact ⟨e6 _ _ (fun hm => hnI (List.mem_singleton.mp hm).symm) z.1, z.2⟩
      · cases List.mem_singleton.mp hp1
        exact ⟨g6, (N5 _ (.tail _ (.head _))).2⟩
    · intro p hp1
      cases List.mem_singleton.mp hp1
      simpa using hnI
    · rw [su_length]; exact hl'
    · intro z hz1
      exact hz' z (su_mem hz1 (List.mem_of_getElem? hy))
    · have e9 : zs.length / 2 - i = (zs.length / 2 - (i + 1)) + 1 := by omega
      have e10 : zs.length / 2 - (i + 1) = zs.length / 2 - 1 - i := by omega
      rw [← hs', e9, hfy, e10, hy]
  · rintro m news₁ h4 tk4 ⟨zs', n', rfl, m1, hl', hz', hs'⟩ F4 N4
    walk_at "go"
    refine h _ _ n' (fun b o nb e => F4.keep b o (hext b o nb e)) ?_
    have e11 : zs.length / 2 - zs.length / 2 = 0 := by omega
    rw [e11] at hs'
    rw [← hs']
    exact N4.get (.head _)
end
theorem off_W5 : True := by
  w_top off
  trivial
section
open PySem PySem.W PyProof.Rows PySem.Calls
set_option Elab.async false
set_option maxRecDepth 100000
set_option maxHeartbeats 4000000

theorem parted_call {w : World} {h₀ : Heap} {A : Around} {s : Shared} {Q E : Value → Shared → Prop} {x y : Z}
    (G : Gd w h₀ s.heap) (R : Rm A 4) (hx : Pair s.heap x) (hy : Pair s.heap y)
    (h : ∀ h' tk' r a1 a2 t1 u1 t2 u2, Ext [] s.heap h' → h'.get? r = some (listOf #[.ref a1, .ref a2] 0) → h'.get? a1 = some (chipO (x.2.1 - 1) (min x.2.2 y.2.2) t1 u1 0) → h'.get? a2 = some (chipO (x.2.1 + 1) (max x.2.2 y.2.2) t2 u2 0) →
      s.heap.get? r = none → s.heap.get? a1 = none → s.heap.get? a2 = none → Q (.ref r) { s with heap := h', toks := tk' }) :
    wpAny (model Challenge.rw_pg0109_01.row.prog w) A (call (.ref 84) [x.1, y.1]) Q E s := by
  have X := G.in
  obtain ⟨loose, mean, mg, mb, T⟩ := G.top
  refine wpAny_call ?_
  revert X; k_fill; intro X
  refine' callF (binds := [(Str.ofString "one", x.1), (Str.ofString "other", y.1)]) [] X T.nolimit ?ho ?hcd R.room ?hbind ?hloc ?_ ?hcell ?c2 ?c3 ?c4
  (case ho => k_is)
  (case hcd => k_is)
  (case hbind => exact BindsTo.of_eq rfl)
  (case hcell => decide)
  (case hloc => exact locs rfl)
  (case c2 => exact rfl)
  (case c3 => exact rfl)
  (case c4 => exact rfl)
  intro L h' hL F' hk'
  replace F' : Fr s.heap L h' _ := F'
  have N' : News s.heap L h' [] := News.nil
  walk_at "go"
  refine item_pair0 (by assumption) hx ?_ (by intro a; with_unfolding_all rfl)
  intro t1
  walk_at "go"
  refine item_pair1 (by assumption) hx ?_ (by intro a; with_unfolding_all rfl)
  intro t2
  walk_at "go"
  refine item_pair1 (by assumption) hy ?_ (by intro a; with_unfolding_all rfl)
  intro t3
  walk_at "go"
  refine min_two' R.deeper.handled (by assumption) (by assumption) ?_
  intro h1 tk1 t4 F1 N1
  walk_at "go"
  refine item_pair0 (by assumption) hx ?_ (by intro a; with_unfolding_all rfl)
  intro t5
  walk_at "go"
  refine item_pair1 (by assumption) hx ?_ (by intro a; with_unfolding_all rfl)
  intro t6
  walk_at "go"
  refine item_pair1 (by assumption) hy ?_ (by intro a; with_unfolding_all rfl)
  intro t7
  walk_at "go"
  refine max_two' R.deeper.handled (by assumption) (by assumption) ?_
  intro h2 tk2 t8 F2 N2
  walk_at "go"
  rename Fr _ _ _ _ => F3
  rename News _ _ _ _ => N3
  exact h _ _ _ _ _ _ _ _ _ (fun b o _ e => F3.keep b o e) (N3.get (.head _)) (N3.get (.tail _ (.tail _ (.head _)))) (N3.get (.tail _ (.head _))) (N3.fresh (.head _)) (N3.fresh (.tail _ (.tail _ (.head _)))) (N3.fresh (.tail _ (.head _)))
end
section
open PySem PySem.W PyProof.Rows PySem.Calls
set_option Elab.async false
set_option maxRecDepth 100000
set_option maxHeartbeats 4000000
set_option linter.unusedVariables false

/-- the frames beneath, as cells -/
noncomputable def Outs : List Env → List (Addr × Obj) → Prop
  | [], [] => True
  | env :: r, p :: fr => env.scope.kind ≠ .module ∧ env.frame = some p.1 ∧ (∃ es n, p.2.data = .dict es n) ∧ Outs r fr
  | _, _ => False
noncomputable def SlotEq : List (Addr × Obj) → List (Addr × Obj) → Prop
  | [], [] => True
  | p :: r, q :: r' => p.1 = q.1 ∧ (∃ sl, q.2 = { p.2 with slots := sl }) ∧ SlotEq r r'
  | _, _ => False
theorem SlotEq.refl : ∀ l, SlotEq l l
  | [] => trivial
  | p :: r => ⟨rfl, ⟨p.2.slots, rfl⟩, SlotEq.refl r⟩
theorem SlotEq.trans : ∀ {a b c}, SlotEq a b → SlotEq b c → SlotEq a c
  | [], [], [], _, _ => trivial
  | p :: a, q :: b, r :: c, ⟨e1, ⟨s1, h1⟩, t1⟩, ⟨e2, ⟨s2, h2⟩, t2⟩ => ⟨e1.trans e2, ⟨s2, by rw [h2, h1]⟩, t1.trans t2⟩
  | [], _ :: _, _, h, _ => h.elim
  | _ :: _, [], _, h, _ => h.elim
  | [], [], _ :: _, _, h => h.elim
  | _ :: _, _ :: _, [], _, h => h.elim
theorem SlotEq.addrs : ∀ {a b}, SlotEq a b → b.map (·.1) = a.map (·.1)
  | [], [], _ => rfl
  | p :: a, q :: b, ⟨e1, _, t1⟩ => by rw [List.map_cons, List.map_cons, t1.addrs, e1]
  | [], _ :: _, h => h.elim
  | _ :: _, [], h => h.elim

theorem outs_frames {h B : Heap} : ∀ {outer : List Env} {frs : List (Addr × Obj)}, Outs outer frs → (∀ p ∈ frs, h.get? p.1 = some p.2) → (∀ p ∈ frs, B.get? p.1 = none) → h.FunFrames B outer
  | [], [], _, _, _ => trivial
  | env :: r, p :: fr, ⟨hk, hf, hd, hr⟩, h1, h2 => ⟨hk, ⟨p.1, p.2, hf, h2 p (.head _), h1 p (.head _), fun vs q => by obtain ⟨es, n, e⟩ := hd; rw [e] at q; cases q⟩, outs_frames hr (fun q hq => h1 q (.tail _ hq)) (fun q hq => h2 q (.tail _ hq))⟩
  | [], _ :: _, h, _, _ => h.elim
  | _ :: _, [], h, _, _ => h.elim
theorem outs_slots {h h' : Heap} (sm : h.UpToSlots h') : ∀ {outer : List Env} {frs : List (Addr × Obj)}, Outs outer frs → (∀ p ∈ frs, h.get? p.1 = some p.2) → ∃ frs', SlotEq frs frs' ∧ (∀ p ∈ frs', h'.get? p.1 = some p.2) ∧ Outs outer frs'
  | [], [], _, _ => ⟨[], trivial, (fun _ hm => nomatch hm), trivial⟩
  | env :: r, p :: fr, ⟨hk, hf, hd, hr⟩, h1 => by
    obtain ⟨fr', a1, a2, a3⟩ := outs_slots sm hr (fun q hq => h1 q (.tail _ hq))
    obtain ⟨sl, e⟩ := sm p.1 p.2 (h1 p (.head _)) (fun vs q => by obtain ⟨es, n, e⟩ := hd; rw [e] at q; cases q)
    refine ⟨(p.1, { p.2 with slots := sl }) :: fr', ⟨rfl, ⟨sl, rfl⟩, a1⟩, ?_, hk, hf, hd, a3⟩
    intro q hq
    rcases List.mem_cons.mp hq with rfl | hq
    · exact e
    · exact a2 q hq
  | [], _ :: _, h, _ => h.elim
  | _ :: _, [], h, _ => h.elim

theorem Outs.dict : ∀ {outer : List Env} {frs : List (Addr × Obj)}, Outs outer frs → ∀ p ∈ frs, ∃ es n, p.2.data = .dict es n
  | [], [], _, _, h => nomatch h
  | _ :: _, q :: fr, ⟨_, _, hd, hr⟩, p, hp => by
    rcases List.mem_cons.mp hp with rfl | hp
    · exact hd
    · exact hr.dict p hp
  | [], _ :: _, h, _, _ => h.elim
  | _ :: _, [], h, _, _ => h.elim

section
variable {prog : Program} {w : World} {A : Around} {E : Value → Shared → Prop} {s : Shared} {g h : Heap} {L f e : Addr} {m : Str → Option Value} {frs cells : List (Addr × Obj)} {outer : List Env}
  {name : Str} {scope : Scope} {cd : Value}

abbrev baseOf (h : Heap) (L : Addr) (frs : List (Addr × Obj)) : Heap := hideAll h (L :: frs.map (·.1))

theorem base_stays : (baseOf h L frs).StaysIn h := fun _ _ q => of_hideAll _ q
theorem base_L : (baseOf h L frs).get? L = none := hideAll_none _ (.head _)
theorem base_fr {p : Addr × Obj} (hp : p ∈ frs) : (baseOf h L frs).get? p.1 = none := hideAll_none _ (.tail _ (List.mem_map_of_mem hp))
theorem base_get {b : Addr} {o : Obj} (hb : h.get? b = some o) (hL : b ≠ L) (hf : ∀ p ∈ frs, p.1 ≠ b) : (baseOf h L frs).get? b = some o := by
  refine hideAll_get _ hb fun hm => ?_
  rcases List.mem_cons.mp hm with q | q
  · exact hL q
  · obtain ⟨p, hp, e⟩ := List.mem_map.mp q
    exact hf p hp e
theorem base_frames (F : Fr g L h m) (N : News g L h (frs ++ cells)) (O : Outs outer frs) (hk : scope.kind = .function) : h.FunFrames (baseOf h L frs) (envOf name scope L f cd :: outer) := by
  obtain ⟨oL, es, ep, hoL, hd, _⟩ := F.ns
  refine ⟨by show scope.kind ≠ .module; rw [hk]; decide, ⟨L, oL, rfl, base_L, hoL, fun vs q => by rw [hd] at q; cases q⟩, outs_frames O (fun p hp => (N p (List.mem_append_left _ hp)).1) fun p hp => base_fr hp⟩

/-- what stands when an exception has been noted or has come to rest -/
theorem after_exc {h' : Heap} (F : Fr g L h m) (N : News g L h (frs ++ cells)) (O : Outs outer frs) (hd : ∀ p ∈ cells, ∀ q ∈ frs, q.1 ≠ p.1) (st : (baseOf h L frs).StaysIn h') (sm : h.UpToSlots h') :
    Fr g L h' m ∧ ∃ frs', News g L h' (frs' ++ cells) ∧ SlotEq frs frs' ∧ Outs outer frs' := by
  obtain ⟨frs', a1, a2, a3⟩ := outs_slots sm O (fun p hp => (N p (List.mem_append_left _ hp)).1)
  have hgL : g.get? L = none := by
    cases q : g.get? L with
    | none => rfl
    | some o => exact absurd (Nat.lt_of_lt_of_le (Heap.lt_size q) F.above) (Nat.lt_irrefl _)
  have hg : ∀ b o, g.get? b = some o → h'.get? b = some o := fun b o q => st b o (base_get (F.keep b o q) (fun z => by rw [z, hgL] at q; cases q) (fun p hp z => by have := (N p (List.mem_append_left _ hp)).2.2; rw [z, q] at this; cases this))
  refine ⟨⟨sm.ns F.ns, hg, F.above⟩, frs', ?_, a1, a3⟩
  intro p hp
  rcases List.mem_append.mp hp with hp | hp
  · have hm : p.1 ∈ frs.map (·.1) := a1.addrs ▸ List.mem_map_of_mem hp
    obtain ⟨q, hq, eq⟩ := List.mem_map.mp hm
    have z := N q (List.mem_append_left _ hq)
    rw [eq] at z
    exact ⟨a2 p hp, z.2⟩
  · have z := N p (List.mem_append_right _ hp)
    exact ⟨st _ _ (base_get z.1 z.2.1 (hd p hp)), z.2⟩

theorem caught_tail {K : Frag} {p : Program} {loose : List Str} {mg mb : Str → Option Value} {X T' : String} {a0 : Value} {x : Str} {np pos : Pos} {b₀ : Stmt} {suite : List Stmt} {rest : List ExceptHandler} {Q : Flow → Shared → Prop}
    (F : Fr g L h m) (N : News g L h (frs ++ cells)) (O : Outs outer frs) (hd : ∀ p ∈ cells, ∀ q ∈ frs, q.1 ≠ p.1) (sm : h.UpToSlots s.heap)
    (hh : Heap.HeldW (baseOf h L frs) (envOf name scope L f cd :: outer) e (.type X) a0 L s.heap) (XI : K.In g) (T : TopRead p loose mg mb g)
    (hx : nsIn K mainGlobals x = some none) (hv : bootBuiltins x = some (.type T')) (hn : x ≠ "__name__")
    (hexc : isSubtype (.type T') (.type "BaseException") = pure true) (hnt : isSubtype (.type ((Manifest.find? T').elim "type" fun y => y.metatype)) (.type "tuple") = pure false) (hsub : isSubtype (.type X) (.type T') = pure true)
    (hk : scope.kind = .function) (hkx : (envOf name scope L f cd).kindOf x = some .globalImplicit) (hdb : (x == ("__debug__" : Str)) = false)
    (k : ∀ h' frs', Fr g L h' m → News g L h' (frs' ++ cells) → SlotEq frs frs' → Outs outer frs' →
      wpAny (model prog w) (A.mark (some (.ref e))) (execs (b₀ :: suite) (envOf name scope L f cd)) Q (fun _ _ => False) { s with heap := h' }) :
    wpAny (model prog w) A (setFlight (.ref e) none) (fun _ s₃ =>
        wpAny (model prog w) A (handleBy (.ref e) (envOf name scope L f cd) (.ExceptHandler (some (.Name x np)) none (b₀ :: suite) pos :: rest)) Q E s₃) E s := by
  refine wpAny_landsW hh fun h₅ hfl sm₅ => ?_
  have sm5 := sm.trans sm₅
  obtain ⟨F5, _⟩ := after_exc F N O hd hfl.1 sm5
  obtain ⟨ob, hob, hobc⟩ := hfl.there
  refine wpAny_handleBy_builtin (X := X) (T := T') (b := true) hexc hnt hsub (name_B F5 XI T hx hv hn ⟨rfl, ⟨ob, hob, hobc⟩, ?_⟩ hk hkx hdb)
  refine lands_againW hfl fun h₆ hfl₆ sm₆ => ?_
  obtain ⟨F6, frs', N6, e6, O6⟩ := after_exc F N O hd hfl₆.1 (sm5.trans sm₆)
  exact wpAny_mono (k h₆ frs' F6 N6 e6 O6) (fun _ _ q => q) (fun _ _ q => q.elim)

/-- an exception that came out of a call -/
theorem caught_call {K : Frag} {p : Program} {loose : List Str} {mg mb : Str → Option Value} {X T' : String} {a0 : Value} {x : Str} {np pos : Pos} {b₀ : Stmt} {suite : List Stmt} {rest : List ExceptHandler} {Q : Flow → Shared → Prop}
    (hA : A.frames = some (envOf name scope L f cd :: outer))
    (F : Fr g L h m) (N : News g L h (frs ++ cells)) (O : Outs outer frs) (hd : ∀ p ∈ cells, ∀ q ∈ frs, q.1 ≠ p.1) (sm : h.UpToSlots s.heap)
    (hh : Heap.FlyingW (baseOf h L frs) (envOf name scope L f cd :: outer) e (.type X) a0 s.heap) (XI : K.In g) (T : TopRead p loose mg mb g)
    (hx : nsIn K mainGlobals x = some none) (hv : bootBuiltins x = some (.type T')) (hn : x ≠ "__name__")
    (hexc : isSubtype (.type T') (.type "BaseException") = pure true) (hnt : isSubtype (.type ((Manifest.find? T').elim "type" fun y => y.metatype)) (.type "tuple") = pure false) (hsub : isSubtype (.type X) (.type T') = pure true)
    (hk : scope.kind = .function) (hkx : (envOf name scope L f cd).kindOf x = some .globalImplicit) (hdb : (x == ("__debug__" : Str)) = false)
    (k : ∀ h' frs', Fr g L h' m → News g L h' (frs' ++ cells) → SlotEq frs frs' → Outs outer frs' →
      wpAny (model prog w) (A.mark (some (.ref e))) (execs (b₀ :: suite) (envOf name scope L f cd)) Q (fun _ _ => False) { s with heap := h' }) :
    wpAny (model prog w) A (noteFrame (.ref e) (envOf name scope L f cd)) (fun _ s₂ => wpAny (model prog w) A (setFlight (.ref e) none) (fun _ s₃ =>
        wpAny (model prog w) A (handleBy (.ref e) (envOf name scope L f cd) (.ExceptHandler (some (.Name x np)) none (b₀ :: suite) pos :: rest)) Q E s₃) E s₂) E s := by
  refine wpAny_looks_onW hA rfl hh fun h₄ hheld sm₄ => ?_
  exact caught_tail F N O hd (sm.trans sm₄) hheld XI T hx hv hn hexc hnt hsub hk hkx hdb k

/-- an exception that a built-in has just raised here -/
theorem caught_new {K : Frag} {p : Program} {loose : List Str} {mg mb : Str → Option Value} {X T' : String} {x : Str} {np pos : Pos} {b₀ : Stmt} {suite : List Stmt} {rest : List ExceptHandler} {Q : Flow → Shared → Prop}
    (hA : A.frames = some (envOf name scope L f cd :: outer))
    (F : Fr g L h m) (N : News g L h (frs ++ cells)) (O : Outs outer frs) (hd : ∀ p ∈ cells, ∀ q ∈ frs, q.1 ≠ p.1)
    (hx' : Heap.NewExc h s.heap e X) (XI : K.In g) (T : TopRead p loose mg mb g)
    (hx : nsIn K mainGlobals x = some none) (hv : bootBuiltins x = some (.type T')) (hn : x ≠ "__name__")
    (hexc : isSubtype (.type T') (.type "BaseException") = pure true) (hnt : isSubtype (.type ((Manifest.find? T').elim "type" fun y => y.metatype)) (.type "tuple") = pure false) (hsub : isSubtype (.type X) (.type T') = pure true)
    (hk : scope.kind = .function) (hkx : (envOf name scope L f cd).kindOf x = some .globalImplicit) (hdb : (x == ("__debug__" : Str)) = false)
    (k : ∀ h' frs', Fr g L h' m → News g L h' (frs' ++ cells) → SlotEq frs frs' → Outs outer frs' →
      wpAny (model prog w) (A.mark (some (.ref e))) (execs (b₀ :: suite) (envOf name scope L f cd)) Q (fun _ _ => False) { s with heap := h' }) :
    wpAny (model prog w) A (noteFrame (.ref e) (envOf name scope L f cd)) (fun _ s₂ => wpAny (model prog w) A (setFlight (.ref e) none) (fun _ s₃ =>
        wpAny (model prog w) A (handleBy (.ref e) (envOf name scope L f cd) (.ExceptHandler (some (.Name x np)) none (b₀ :: suite) pos :: rest)) Q E s₃) E s₂) E s := by
  obtain ⟨ob, tp, he, hcls, hdat⟩ := hx'.there
  have hfr := (base_frames (name := name) (f := f) (cd := cd) F N O hk).of_keeps fun b o hb _ => ⟨o, hx'.keeps b o hb, rfl⟩
  have hst : (baseOf h L frs).StaysIn s.heap := fun b o q => hx'.keeps b o (base_stays b o q)
  have hen : (baseOf h L frs).get? e = none := by
    cases q : (baseOf h L frs).get? e with
    | none => rfl
    | some o => have := base_stays _ _ q; rw [hx'.new] at this; cases this
  have sm0 : h.UpToSlots s.heap := Heap.UpToSlots.of_keeps hx'.keeps
  unfold noteFrame
  show wpAny _ _ (do let head ← field (.ref e) 1; _) _ _ _
  refine wpAny_bind (wpAny_field he hdat (x := Value.none) rfl ?_)
  rw [if_neg (by decide)]
  refine wpAny_entryW hA hfr rfl he hst hen hdat (Nat.le_of_ble_eq_true rfl) (a0 := tp) rfl fun h' ⟨x1, x2, x3, x4⟩ => ?_
  exact caught_tail (s := { s with heap := h' }) (a0 := tp) F N O hd (sm0.trans x4) ⟨x1, hen, x2, by rw [← hcls]; exact x3⟩ XI T hx hv hn hexc hnt hsub hk hkx hdb k
end
end
section
open PySem PySem.W PyProof.Rows PySem.Calls
open PySem.SeqAt PySem.MeetsSeq
set_option Elab.async false
set_option maxRecDepth 100000
set_option maxHeartbeats 4000000
set_option linter.unusedVariables false
open AutoSeq1 (wpAny_loadPart')

/-- what list.remove does, found or not found, where the items' == is known at this state -/
noncomputable def Removed (l : Addr) (items : Array Value) (e : Value → Bool) (i : Nat) (A : Around) (R : Result → Shared → Prop) (s : Shared) : Prop :=
  match (items.toList.drop i).findIdx? e with
  | some j => R (.ok (.ret .none)) { s with heap := s.heap.update l (Obj.mapSeq fun xs => xs.eraseIdxIfInBounds (i + j)) }
  | none => raisesNew "ValueError" A R s

theorem removeLoop_at (l : Addr) (items : Array Value) (n : Nat) (x : Value) (e : Value → Bool) (hs : items.size ≤ sizeLine) (k : Nat) :
    ∀ i : Nat, items.size - i = k → Meets (Builtin.«list.remove.loop» ⟨[.ref l, x, rawInt i], []⟩)
      (fun A R s => s.heap.get? l = some (listOf items n) ∧ (∀ y, y ∈ items → EqAt A.in1 s y x (e y)) ∧ Removed l items e i A R s) := by
  induction k with
  | zero =>
    intro i hk prog w A R s h
    obtain ⟨hp, g, d, tk, os⟩ := s; obtain ⟨hl, he, h⟩ := h
    have hnil : items.toList.drop i = [] := by simp; omega
    have hnone : items[((i : Nat) : Int).toNat]? = none := by simp; omega
    unfold Removed at h
    rw [hnil] at h
    wp_walk using wpAny_loadPart' hl
    rw [hnone]
    wp_walk
    exact_raiseError plainExc_ValueError h.1 h.2
  | succ k ih =>
    intro i hk prog w A R s h
    obtain ⟨hp, g, d, tk, os⟩ := s; obtain ⟨hl, he, h⟩ := h
    have hlt : i < items.size := by omega
    have hsome : items[((i : Nat) : Int).toNat]? = some items[i] := by simp [hlt]
    have hcons : items.toList.drop i = items[i] :: items.toList.drop (i + 1) := by simp [List.drop_eq_getElem_cons, hlt]
    have hcast : ((i : Int) + 1) = ((i + 1 : Nat) : Int) := by push_cast; rfl
    wp_walk using wpAny_loadPart' hl
    rw [hsome]
    refine wpAny_bind (he _ (Array.getElem_mem hlt) prog w _ _ ?_)
    cases hb : e items[i] with
    | true =>
      have hz : (items.eraseIdxIfInBounds i).size ≤ sizeLine + 1 := Nat.le_trans (size_erased items _) (Nat.le_succ_of_le hs)
      have h2 : Removed l items e i A R ⟨hp, g, d, tk, os⟩ = R (.ok (.ret .none)) { (⟨hp, g, d, tk, os⟩ : Shared) with heap := hp.update l (Obj.mapSeq fun xs => xs.eraseIdxIfInBounds (i + 0)) } := by
        unfold Removed
        rw [hcons, List.findIdx?_cons, hb]
        simp
      rw [h2] at h
      wp_walk using (wpAny_updateSeq hl rfl (hz := hs) (_hz' := hz)), wpAny_loadPart' hl
      simpa using h
    | false =>
      have h2 : Removed l items e i A R ⟨hp, g, d, tk, os⟩ = Removed l items e (i + 1) A R ⟨hp, g, d, tk, os⟩ := by
        unfold Removed
        rw [hcons, List.findIdx?_cons, hb]
        cases List.findIdx? e (List.drop (i + 1) items.toList) with
        | none => rfl
        | some j =>
          have : i + (j + 1) = i + 1 + j := by omega
          simp [this]
      rw [h2] at h
      wp_walk
      rw [hcast]
      exact ⟨plainId_quiet plain_remove_loop _, codeAny_builtin entry_remove_loop (by
        rw [Around.under_plainId plain_remove_loop _]
        exact ih (i + 1) (by omega) prog w A R _ ⟨hl, he, h⟩)⟩

theorem remove_meets (l : Addr) (items : Array Value) (n : Nat) (x : Value) (e : Value → Bool) (hs : items.size ≤ sizeLine) :
    Meets (Builtin.«list.remove» ⟨[.ref l, x], []⟩)
      (fun A R s => s.heap.get? l = some (listOf items n) ∧ (∀ y, y ∈ items → EqAt A.in1 s y x (e y)) ∧ Removed l items e 0 A R s) := by
  intro prog w A R s h
  obtain ⟨hp, g, d, tk, os⟩ := s; obtain ⟨hl, he, h⟩ := h
  wp_walk using wpAny_loadPart' hl
  exact ⟨plainId_quiet plain_remove_loop _, codeAny_builtin entry_remove_loop (by
    rw [Around.under_plainId plain_remove_loop _]
    exact removeLoop_at l items n x e hs _ 0 rfl prog w A R _ ⟨hl, he, h⟩)⟩

section
variable {prog : Program} {w : World} {A : Around} {E : Value → Shared → Prop} {s : Shared} {g : Heap} {L D : Addr} {m : Str → Option Value} {rest : List (Addr × Obj)}

theorem remove_at {vs : List Value} {n : Nat} {x : Value} {e : Value → Bool} {Q : Value → Shared → Prop} (hh : A.handled = none) (F : Fr g L s.heap m) (N : News g L s.heap ((D, listOf vs.toArray n) :: rest)) (hr : ∀ p ∈ rest, p.1 ≠ D) (hlen : vs.length ≤ sizeLine)
    (he : ∀ y ∈ vs, EqAt A.in1 s y x (e y))
    (hit : ∀ j h', vs.findIdx? e = some j → Fr g L h' m → News g L h' ((D, listOf (vs.eraseIdx j).toArray (n + 1)) :: rest) → Q .none { s with heap := h' })
    (miss : ∀ h' tk x0, vs.findIdx? e = none → Heap.NewExc s.heap h' x0 "ValueError" → E (.ref x0) { s with heap := h', toks := tk }) :
    wpAny (model prog w) A (call (.builtin "list.remove") [.ref D, x]) Q E s := by
  have z := N (D, listOf vs.toArray n) (.head _)
  refine call_meets PySem.F.slot_list_remove ⟨_, z.1, rfl⟩ PySem.F.entry_list_remove (PySem.F.args_list_remove_2 _ _) (remove_meets D vs.toArray n x e (by simpa using hlen)) ⟨z.1, (fun y hy => he y (by simpa using hy)), ?_⟩
  unfold Removed
  simp only [List.drop_zero]
  cases hj : vs.findIdx? e with
  | none => exact ⟨hh, fun h' tk x0 hx => miss h' tk x0 hj hx⟩
  | some j =>
    have hjl : j < vs.length := (List.findIdx?_eq_some_iff_getElem.mp hj).1
    have q := PySem.IsL.update z.1 (fun xs => xs.eraseIdxIfInBounds (0 + j))
    have e1 : vs.toArray.eraseIdxIfInBounds (0 + j) = (vs.eraseIdx j).toArray := by
      rw [Nat.zero_add]; unfold Array.eraseIdxIfInBounds
      rw [dif_pos (by simpa using hjl)]; simp
    rw [e1] at q
    have e2 : ¬ ((vs.eraseIdx j).toArray.size == vs.toArray.size) = true := by
      simp only [List.size_toArray, beq_iff_eq, List.length_eraseIdx, hjl, if_true]; omega
    rw [if_neg e2] at q
    exact hit j _ hj (F.change (Heap.SameBut.update ..) z.2.1 z.2.2) (news_head N hr (Heap.SameBut.update ..) q)
end
end
section
open PySem PySem.W PyProof.Rows PySem.Calls
set_option Elab.async false
set_option maxRecDepth 100000
set_option maxHeartbeats 4000000
/-- a fact of all members, cell by cell: no binder is crossed, so the cells are not written out anew -/
theorem fa_cons {α : Type} {P : α → Prop} {a : α} {l : List α} (h1 : P a) (h2 : ∀ p ∈ l, P p) : ∀ p ∈ a :: l, P p := fun p hp => by
  cases hp with
  | head => exact h1
  | tail _ h => exact h2 p h
/-- every cell of a is one of b -/
noncomputable def Sub (a b : List (Addr × Obj)) : Prop := ∀ p ∈ a, p ∈ b
theorem Sub.nil {b : List (Addr × Obj)} : Sub [] b := fun _ h => nomatch h
theorem Sub.refl {b : List (Addr × Obj)} : Sub b b := fun _ h => h
theorem Sub.cons {x : Addr × Obj} {a b : List (Addr × Obj)} (h1 : x ∈ b) (h2 : Sub a b) : Sub (x :: a) b := fun p h => by
  rcases List.mem_cons.mp h with rfl | h
  · exact h1
  · exact h2 p h
theorem Sub.app {a a' b : List (Addr × Obj)} (h1 : Sub a b) (h2 : Sub a' b) : Sub (a ++ a') b := fun p h => by
  rcases List.mem_append.mp h with h | h
  · exact h1 p h
  · exact h2 p h
theorem Sub.skip {x : Addr × Obj} {a b : List (Addr × Obj)} (h : Sub a b) : Sub a (x :: b) := fun p hp => .tail _ (h p hp)
theorem Sub.inl {a b : List (Addr × Obj)} : Sub a (a ++ b) := fun _ h => List.mem_append_left _ h
theorem Sub.inr {a b c : List (Addr × Obj)} (h : Sub a c) : Sub a (b ++ c) := fun p hp => List.mem_append_right _ (h p hp)
theorem Sub.head {x : Addr × Obj} {b : List (Addr × Obj)} : x ∈ x :: b := .head _
theorem Sub.tail {x y : Addr × Obj} {b : List (Addr × Obj)} (h : x ∈ b) : x ∈ y :: b := .tail _ h
theorem Sub.right {x : Addr × Obj} {a b : List (Addr × Obj)} (h : x ∈ b) : x ∈ a ++ b := List.mem_append_right _ h
theorem Sub.at {a b : List (Addr × Obj)} (h : Sub a b) (p : Addr × Obj) (hp : p ∈ a) : p ∈ b := h p hp
theorem mem3 {p x y : Addr × Obj} {l : List (Addr × Obj)} (h : p ∈ x :: y :: l) : p = x ∨ p = y ∨ p ∈ l := by
  rcases List.mem_cons.mp h with h | h
  · exact .inl h
  · exact .inr (List.mem_cons.mp h)
end
theorem off_W6 : True := by
  w_top off
  trivial
section
open PySem PySem.W PyProof.Rows PySem.Calls
set_option Elab.async false
set_option maxRecDepth 100000
set_option maxHeartbeats 4000000
set_option linter.unusedVariables false

theorem leave_first {M : Model} {A : Around} {E : Value → Shared → Prop} {s : Shared} {B g h : Heap} {outer : List Env} {L f e : Addr} {m : Str → Option Value} {name : Str} {scope : Scope} {cd : Value} {X : String} {Q : Unit → Shared → Prop}
    (hA : A.frames = some outer) (hB : B.StaysIn g) (hfr : g.FunFrames B outer) (F : Fr g L h m) (hx : Heap.NewExc h s.heap e X) (hk : scope.kind = .function)
    (hQ : ∀ h' a0, Heap.FlyingW B outer e (.type X) a0 h' → g.UpToSlots h' → Q () { s with heap := h' }) :
    wpAny M (A.deeper (envOf name scope L f cd)) (leaving (envOf name scope L f cd) (.ref e)) Q E s := by
  obtain ⟨ob, tp, he, hcls, hdat⟩ := hx.there
  obtain ⟨oL, es, ep, hoL, hd, _⟩ := F.ns
  have hBL : B.get? L = none := by
    cases q : B.get? L with
    | none => rfl
    | some o => exact absurd (Nat.lt_of_lt_of_le (Heap.lt_size (hB _ _ q)) F.above) (Nat.lt_irrefl _)
  have hfr' : s.heap.FunFrames B (envOf name scope L f cd :: outer) := ⟨by show scope.kind ≠ .module; rw [hk]; decide, ⟨L, oL, rfl, hBL, hx.keeps _ _ hoL, fun vs q => by rw [hd] at q; cases q⟩, hfr.of_keeps fun b o hb _ => ⟨o, hx.keeps _ _ (F.keep _ _ hb), rfl⟩⟩
  have hen : B.get? e = none := by
    cases q : B.get? e with
    | none => rfl
    | some o => have := F.keep _ _ (hB _ _ q); rw [hx.new] at this; cases this
  refine wpAny_leaving_firstW (a0 := tp) (Around.frames_deeper hA) hfr' rfl he (fun b o hb => hx.keeps b o (F.keep _ _ (hB _ _ hb))) hen hdat rfl rfl fun h' hL => ?_
  obtain ⟨k1, ⟨_, _, k2⟩, k3, k4⟩ := hL
  exact hQ h' tp ⟨k1, hen, k2, by rw [← hcls]; exact k3⟩ (((Heap.UpToSlots.of_keeps F.keep).trans (Heap.UpToSlots.of_keeps hx.keeps)).trans k4)

theorem heappop_empty {w : World} {h₀ : Heap} {A : Around} {s : Shared} {Q E : Value → Shared → Prop} {hp : Addr} {n : Nat} {B : Heap} {outer : List Env}
    (G : Gd w h₀ s.heap) (R : Rm A 6) (hl : s.heap.get? hp = some (listOf #[] n)) (hA : A.frames = some outer) (hB : B.StaysIn s.heap) (hfr : s.heap.FunFrames B outer)
    (h : ∀ e h' tk' a0, Heap.FlyingW B outer e (.type "IndexError") a0 h' → s.heap.UpToSlots h' → E (.ref e) { s with heap := h', toks := tk' }) :
    wpAny (model Challenge.rw_pg0109_01.row.prog w) A (call (.ref 28) [.ref hp]) Q E s := by
  have X := G.in
  obtain ⟨loose, mean, mg, mb, T⟩ := G.top
  refine wpAny_call ?_
  revert X; k_fill; intro X
  refine' callF (binds := [(Str.ofString "heap", Value.ref hp)]) [] X T.nolimit ?ho ?hcd R.room ?hbind ?hloc ?_ ?hcell ?c2 ?c3 ?c4
  (case ho => k_is)
  (case hcd => k_is)
  (case hbind => exact BindsTo.of_eq rfl)
  (case hcell => decide)
  (case hloc => exact locs rfl)
  (case c2 => exact rfl)
  (case c3 => exact rfl)
  (case c4 => exact rfl)
  intro L h' hL F' hk'
  replace F' : Fr s.heap L h' _ := F'
  have N' : News (hideAll s.heap [hp]) L h' [(hp, listOf #[] n)] := by
    intro p hp'
    cases List.mem_singleton.mp hp'
    exact ⟨hk' _ _ hl, hL ▸ Nat.ne_of_lt (Heap.lt_size hl), hideAll_none _ (.head _)⟩
  refine wpAny_execs_cons (wpAny_Assign_Name ?_)
  walk_at "go"
  refine call_meets PySem.F.slot_list_pop ⟨_, N'.get (.head _), rfl⟩ PySem.F.entry_list_pop (PySem.F.args_list_pop_1 _) (AutoSeq1.list_pop_list_0 hp #[] n rfl) ⟨N'.get (.head _), R.deeper.handled, ?_⟩
  intro h2 tk2 e hx
  exact leave_first hA hB hfr F' hx rfl fun h3 a0 hfl hsm => h e h3 tk2 a0 hfl hsm

theorem heappop_max_empty {w : World} {h₀ : Heap} {A : Around} {s : Shared} {Q E : Value → Shared → Prop} {hp : Addr} {n : Nat} {B : Heap} {outer : List Env}
    (G : Gd w h₀ s.heap) (R : Rm A 6) (hl : s.heap.get? hp = some (listOf #[] n)) (hA : A.frames = some outer) (hB : B.StaysIn s.heap) (hfr : s.heap.FunFrames B outer)
    (h : ∀ e h' tk' a0, Heap.FlyingW B outer e (.type "IndexError") a0 h' → s.heap.UpToSlots h' → E (.ref e) { s with heap := h', toks := tk' }) :
    wpAny (model Challenge.rw_pg0109_01.row.prog w) A (call (.ref 35) [.ref hp]) Q E s := by
  have X := G.in
  obtain ⟨loose, mean, mg, mb, T⟩ := G.top
  refine wpAny_call ?_
  revert X; k_fill; intro X
  refine' callF (binds := [(Str.ofString "heap", Value.ref hp)]) [] X T.nolimit ?ho ?hcd R.room ?hbind ?hloc ?_ ?hcell ?c2 ?c3 ?c4
  (case ho => k_is)
  (case hcd => k_is)
  (case hbind => exact BindsTo.of_eq rfl)
  (case hcell => decide)
  (case hloc => exact locs rfl)
  (case c2 => exact rfl)
  (case c3 => exact rfl)
  (case c4 => exact rfl)
  intro L h' hL F' hk'
  replace F' : Fr s.heap L h' _ := F'
  have N' : News (hideAll s.heap [hp]) L h' [(hp, listOf #[] n)] := by
    intro p hp'
    cases List.mem_singleton.mp hp'
    exact ⟨hk' _ _ hl, hL ▸ Nat.ne_of_lt (Heap.lt_size hl), hideAll_none _ (.head _)⟩
  refine wpAny_execs_cons (wpAny_Assign_Name ?_)
  walk_at "go"
  refine call_meets PySem.F.slot_list_pop ⟨_, N'.get (.head _), rfl⟩ PySem.F.entry_list_pop (PySem.F.args_list_pop_1 _) (AutoSeq1.list_pop_list_0 hp #[] n rfl) ⟨N'.get (.head _), R.deeper.handled, ?_⟩
  intro h2 tk2 e hx
  exact leave_first hA hB hfr F' hx rfl fun h3 a0 hfl hsm => h e h3 tk2 a0 hfl hsm
end
theorem off_W7 : True := by
  w_top off
  trivial
section
open PySem PySem.W PyProof.Rows PySem.Calls
open PySem.SeqAt
set_option Elab.async false
set_option maxRecDepth 100000
set_option maxHeartbeats 4000000
set_option linter.unusedVariables false

/-- the mirror of unorderable_list_difference: what is expected, from its end; what is missing so far; what is left -/
noncomputable def uld {α : Type} (eq : α → α → Bool) : List α → List α → List α → List α × List α
  | [], mi, as => (mi, as)
  | x :: r, mi, as => match as.findIdx? (fun y => eq y x) with
    | some j => uld eq r mi (as.eraseIdx j)
    | none => uld eq r (mi ++ [x]) as

theorem allLt_mem {d : Nat} : ∀ {l : List (Addr × Obj)}, AllLt d l → ∀ p ∈ l, p.1 < d
  | [], _, _, h => nomatch h
  | q :: l, ⟨h1, h2⟩, p, hp => by
    rcases List.mem_cons.mp hp with rfl | hp
    · exact h1
    · exact allLt_mem h2 p hp

theorem fresh_in {h g : Heap} {ea da a : Addr} {frs : List (Addr × Obj)} (hext : ∀ b o, b ∉ (ea :: da :: frs.map (·.1)) → h.get? b = some o → g.get? b = some o) (h1 : ea < a) (h2 : da < a) (h3 : ∀ p ∈ frs, p.1 < a) (hg : g.get? a = none) : h.get? a = none := by
  cases q : h.get? a with
  | none => rfl
  | some o =>
    have hmem : a ∉ (ea :: da :: frs.map (·.1)) := by
      intro hm
      rcases List.mem_cons.mp hm with e | hm
      · exact absurd h1 (e ▸ Nat.lt_irrefl _)
      rcases List.mem_cons.mp hm with e | hm
      · exact absurd h2 (e ▸ Nat.lt_irrefl _)
      obtain ⟨p, hp, e⟩ := List.mem_map.mp hm
      exact absurd (h3 p hp) (e ▸ Nat.lt_irrefl _)
    rw [hext a o hmem q] at hg; cases hg

inductive UldTurn (s : Shared) (g : Heap) (L : Addr) (ea : Addr) (da : Addr) (mi : Addr) (frs : List (Addr × Obj)) (outer : List Env) (as : List Value) (es : List Value) (eq : Value → Value → Bool) (k : Nat) (s' : Shared) : Prop
  | mk (h : Heap) (tk : Nat) (m : Str → Option Value) (es' as' mi' : List Value) (n1 n2 n3 : Nat) (frs' : List (Addr × Obj)) (f1 : s' = { s with heap := h, toks := tk }) (f2 : k = es'.length) (f3 : Fr g L h m) (f4 : News g L h ((ea, listOf es'.toArray n1) :: (da, listOf as'.toArray n2) :: (mi, listOf mi'.toArray n3) :: frs')) (f5 : SlotEq frs frs') (f6 : Outs outer frs') (f7 : m (Str.ofString "expected") = some (.ref ea)) (f8 : m (Str.ofString "actual") = some (.ref da)) (f9 : m (Str.ofString "missing") = some (.ref mi)) (f10 : (∀ y ∈ as', y ∈ as)) (f11 : (∀ x ∈ es', x ∈ es)) (f12 : as'.length ≤ 1000) (f13 : mi'.length + es'.length ≤ 1000) (f14 : uld eq es'.reverse mi' as' = uld eq es.reverse [] as) : UldTurn s g L ea da mi frs outer as es eq k s'
theorem uld_call {w : World} {h₀ : Heap} {A : Around} {s : Shared} {Q E : Value → Shared → Prop} {ea da : Addr} {es as : List Value} {ne na : Nat} {outer : List Env} {frs : List (Addr × Obj)} {eq : Value → Value → Bool}
    (G : Gd w h₀ s.heap) (R : Rm A 6) (hA : A.frames = some outer) (O : Outs outer frs) (hfrs : ∀ p ∈ frs, s.heap.get? p.1 = some p.2) (hfn : ∀ p ∈ frs, h₀.get? p.1 = none)
    (hed : ea ≠ da) (hfe : ∀ p ∈ frs, p.1 ≠ ea) (hfd : ∀ p ∈ frs, p.1 ≠ da) (hne : h₀.get? ea = none) (hnd : h₀.get? da = none)
    (hle : s.heap.get? ea = some (listOf es.toArray ne)) (hld : s.heap.get? da = some (listOf as.toArray na)) (h1 : es.length ≤ 1000) (h2 : as.length ≤ 1000)
    (hE : ∀ A' s', A'.units < cLine → Ext (ea :: da :: frs.map (·.1)) s.heap s'.heap → ∀ y x, y ∈ as → x ∈ es → EqAt A' s' y x (eq y x))
    (h : ∀ h' tk' r mi n1 n2 frs', Ext (ea :: da :: frs.map (·.1)) s.heap h' → SlotEq frs frs' → (∀ p ∈ frs', h'.get? p.1 = some p.2) → h'.get? da = some (listOf (uld eq es.reverse [] as).2.toArray n1) →
      h'.get? r = some { cls := .type "tuple", data := .seq #[.ref mi, .ref da] } → h'.get? mi = some (listOf (uld eq es.reverse [] as).1.toArray n2) → s.heap.get? r = none → s.heap.get? mi = none → Q (.ref r) { s with heap := h', toks := tk' }) :
    wpAny (model Challenge.rw_pg0109_01.row.prog w) A (call (.ref 77) [.ref ea, .ref da]) Q E s := by
  have hn' : ∀ a ∈ (ea :: da :: frs.map (·.1)), h₀.get? a = none := by
    refine fa_cons ?_ ?_
    · exact hne
    refine fa_cons ?_ ?_
    · exact hnd
    intro a ha
    obtain ⟨p, hp, rfl⟩ := List.mem_map.mp ha
    exact hfn p hp
  have Gg := G.hide hn'
  have X := (G.hide hn').in
  obtain ⟨loose, mean, mg, mb, T⟩ := (G.hide hn').top
  have X0 := G.in
  refine wpAny_call ?_
  revert X; k_fill; intro X
  refine' callF (binds := [(Str.ofString "expected", Value.ref ea), (Str.ofString "actual", Value.ref da)]) (ea :: da :: frs.map (·.1)) X0 (T.nolimit.keeps fun b o e => of_hideAll _ e) ?ho ?hcd R.room ?hbind ?hloc ?_ ?hcell ?c2 ?c3 ?c4
  (case ho => k_is)
  (case hcd => k_is)
  (case hbind => exact BindsTo.of_eq rfl)
  (case hcell => decide)
  (case hloc => exact locs rfl)
  (case c2 => exact rfl)
  (case c3 => exact rfl)
  (case c4 => exact rfl)
  intro L h' hL F' hk'
  have N' : News (hideAll s.heap (ea :: da :: frs.map (·.1))) L h' ((ea, listOf es.toArray ne) :: (da, listOf as.toArray na) :: frs) := by
    intro p hp'
    rcases List.mem_cons.mp hp' with rfl | hp'
    · exact ⟨hk' _ _ hle, hL ▸ Nat.ne_of_lt (Heap.lt_size hle), hideAll_none _ (.head _)⟩
    rcases List.mem_cons.mp hp' with rfl | hp'
    · exact ⟨hk' _ _ hld, hL ▸ Nat.ne_of_lt (Heap.lt_size hld), hideAll_none _ (.tail _ (.head _))⟩
    · exact ⟨hk' _ _ (hfrs p hp'), hL ▸ Nat.ne_of_lt (Heap.lt_size (hfrs p hp')), hideAll_none _ (.tail _ (.tail _ (List.mem_map_of_mem hp')))⟩
  have hext : ∀ b o, b ∉ (ea :: da :: frs.map (·.1)) → s.heap.get? b = some o → (hideAll s.heap (ea :: da :: frs.map (·.1))).get? b = some o := fun b o n e => hideAll_get _ e n
  clear G X0
  generalize hideAll s.heap (ea :: da :: frs.map (·.1)) = g at *
  walk_at "go"
  rename Fr _ _ _ _ => F0
  rename News _ _ _ _ => N0
  rename _ ∧ _ ∧ AllLt _ _ => lt0
  rename_i tka mi hb hc
  have hmi : ea < mi ∧ da < mi ∧ ∀ p ∈ frs, p.1 < mi := ⟨lt0.1, lt0.2.1, allLt_mem lt0.2.2⟩
  refine wpAny_While (codeAny_whileLoop (UldTurn s g L ea da mi frs outer as es eq) ?_ es.length ?_)
  · rintro k s' ⟨h3, tk3, m, es', as', mi', n1, n2, n3, frs', rfl, rfl, F, N, hSl, hO, m1, m2, m3, hsa, hse, hla, hlm, hu⟩
    rw [set_has m1, set_has m2, set_has m3] at F
    have hadr := hSl.addrs
    have hfr' : ∀ p ∈ frs', p.1 ≠ ea ∧ p.1 ≠ da ∧ p.1 ≠ mi := by
      intro p hp
      have : p.1 ∈ frs.map (·.1) := hadr ▸ List.mem_map_of_mem hp
      obtain ⟨q, hq, e⟩ := List.mem_map.mp this
      rw [← e]
      exact ⟨hfe q hq, hfd q hq, Nat.ne_of_lt (hmi.2.2 q hq)⟩
    have hsz : ∀ l : List Value, l.length ≤ 1000 → l.length ≤ sizeLine := fun l hl => by show _ ≤ 2 ^ 24; omega
    walk_at "go"
    refine truthy_at (N.get (.head _)) (hsz _ (by omega)) ?_
    intro tk4
    rcases List.eq_nil_or_concat es' with rfl | ⟨ys, x, rfl⟩
    · rw [show (!([] : List Value).isEmpty) = false from rfl]
      walk_at "go"
      rename Fr _ _ _ _ => F6
      rename News _ _ _ _ => N6
      have e0 : uld eq es.reverse [] as = (mi', as') := hu.symm
      rename _ ∧ _ ∧ _ ∧ AllLt _ _ => lt6
      have hgm : s.heap.get? mi = none := fresh_in hext hmi.1 hmi.2.1 (fun p hp => hmi.2.2 p hp) (N6 _ (.tail _ (.tail _ (.tail _ (.head _))))).2.2
      refine h _ _ _ mi n2 n3 frs' (fun b o nb e => F6.keep b o (hext b o nb e)) hSl (fun p hp => N6.get (.tail _ (.tail _ (.tail _ (.tail _ hp))))) ?_ (N6.get (.head _)) ?_ ?_ hgm
      · rw [e0]; exact N6.get (.tail _ (.tail _ (.head _)))
      · rw [e0]; exact N6.get (.tail _ (.tail _ (.tail _ (.head _))))
      · refine fresh_in hext lt6.1 lt6.2.1 (fun p hp => ?_) (N6 _ (.head _)).2.2
        have : p.1 ∈ frs'.map (·.1) := hadr ▸ List.mem_map_of_mem hp
        obtain ⟨q, hq, e⟩ := List.mem_map.mp this
        rw [← e]
        exact allLt_mem lt6.2.2.2 q hq
    · rw [show (!(ys.concat x).isEmpty) = true from by simp]
      walk_at "go"
      rw [List.concat_eq_append] at N hlm hse hu
      rw [List.reverse_append] at hu
      have hlm2 : mi'.length + ys.length + 1 ≤ 1000 := by simp at hlm; omega
      refine pop_at F N ?_ (hsz _ (by omega)) ?_
      · refine fa_cons ?_ ?_
        · exact fun e => hed e.symm
        refine fa_cons ?_ ?_
        · exact Nat.ne_of_gt hmi.1
        intro p hp
        · exact (hfr' p hp).1
      intro h5 F5 N5
      walk_at "go"
      refine wpAny_Try_except ?_
      walk_at "go"
      rename Fr _ _ _ _ => F6
      rename News _ _ _ _ => N6
      refine remove_at (n := n2) (e := fun y => eq y x) (rest := (ea, listOf ys.toArray (n1 + 1)) :: (mi, listOf mi'.toArray n3) :: frs') R.deeper.handled F6 (news_sub N6 ?_) ?_ (hsz _ hla) ?_ ?_ ?_
      · intro p hp
        simp only [List.mem_cons] at hp ⊢
        rcases hp with h | h | h | h <;> simp [h]
      · refine fa_cons ?_ ?_
        · exact hed
        refine fa_cons ?_ ?_
        · exact Nat.ne_of_gt hmi.2.1
        intro p hp
        · exact (hfr' p hp).2.1
      · intro y hy
        exact hE _ _ (by have := R.units; show A.units + 3 + 1 < 9900; omega) (fun b o nb e => F6.keep b o (hext b o nb e)) y x (hsa y hy) (hse x (by simp))
      · intro j h7 hj F7 N7
        have hjl : j < as'.length := (List.findIdx?_eq_some_iff_getElem.mp hj).1
        walk_at "go"
        refine ⟨ys.length, by simp, _, _, _, ys, as'.eraseIdx j, mi', n1 + 1, n2 + 1, n3, frs', rfl, rfl, F7, news_sub N7 ?_, hSl, hO, rfl, rfl, rfl, fun y hy => hsa y (List.mem_of_mem_eraseIdx hy), fun z hz => hse z (by simp [hz]), by rw [List.length_eraseIdx]; split <;> omega, by omega, ?_⟩
        · intro p hp
          simp only [List.mem_cons] at hp ⊢
          rcases hp with h | h | h | h <;> simp [h]
        · rw [← hu]
          show _ = uld eq (x :: ys.reverse) mi' as'
          rw [uld, hj]
      · intro h7 tk7 x0 hj hx
        refine caught_new (frs := frs') (cells := [(ea, listOf ys.toArray (n1 + 1)), (da, listOf as'.toArray n2), (mi, listOf mi'.toArray n3)]) (X := "ValueError") (T' := "ValueError") (Around.frames_deeper hA) F6 (news_sub N6 ?_) hO ?_ hx X (topRead_of T) (by k_is) (by boot_by_name) (by decide) (by rw [isSubtype_type]; kernel_rfl) (by rw [isSubtype_type]; kernel_rfl) (by rw [isSubtype_type]; kernel_rfl) rfl rfl (by decide) ?_
        · intro p hp
          simp only [List.mem_cons, List.mem_append, List.not_mem_nil, or_false] at hp ⊢
          rcases hp with h | h | h | h <;> simp [h]
        · intro p hp q hq
          simp only [List.mem_cons, List.not_mem_nil, or_false] at hp
          rcases hp with rfl | rfl | rfl
          · exact (hfr' q hq).1
          · exact (hfr' q hq).2.1
          · exact (hfr' q hq).2.2
        · intro h8 frs8 F8 N8 e8 O8
          have hadr8 := e8.addrs
          have hfr8 : ∀ p ∈ frs8, p.1 ≠ mi := by
            intro p hp
            have : p.1 ∈ frs'.map (·.1) := hadr8 ▸ List.mem_map_of_mem hp
            obtain ⟨q, hq, e⟩ := List.mem_map.mp this
            rw [← e]
            exact (hfr' q hq).2.2
          have N9 := news_sub (l' := (mi, listOf mi'.toArray n3) :: (ea, listOf ys.toArray (n1 + 1)) :: (da, listOf as'.toArray n2) :: frs8) N8 (fun p hp => by
            simp only [List.mem_cons, List.mem_append, List.not_mem_nil, or_false] at hp ⊢
            rcases hp with h | h | h | h <;> simp [h])
          clear N8
          walk_at "go"
          refine append_at F8 N9 ?_ (hsz _ (by omega)) ?_
          · refine fa_cons ?_ ?_
            · exact Nat.ne_of_lt hmi.1
            refine fa_cons ?_ ?_
            · exact Nat.ne_of_lt hmi.2.1
            intro p hp
            · exact hfr8 p hp
          intro h10 F10 N10
          walk_at "go"
          refine ⟨ys.length, by simp, _, _, _, ys, as', mi' ++ [x], n1 + 1, n2, n3 + 1, frs8, rfl, rfl, F10, news_sub N10 ?_, hSl.trans e8, O8, rfl, rfl, rfl, hsa, fun z hz => hse z (by simp [hz]), hla, by simp; omega, ?_⟩
          · intro p hp
            simp only [List.mem_cons] at hp ⊢
            rcases hp with h | h | h | h <;> simp [h]
          · rw [← hu]
            show _ = uld eq (x :: ys.reverse) mi' as'
            rw [uld, hj]
  · refine ⟨_, _, _, es, as, [], ne, na, 0, frs, rfl, rfl, F0, news_sub N0 (fun p hp => ?_), SlotEq.refl _, O, rfl, rfl, rfl, fun _ h => h, fun _ h => h, h2, by simpa using h1, rfl⟩
    simp only [List.mem_cons] at hp ⊢
    rcases hp with h | h | h | h <;> simp [h]
end
section
/-- what is asked of the chips' states: closed under a parting, and what its ends are -/
structure Law (n tm : Nat) (due : List (Int × Int)) (Rc : Nat → List (Int × Int) → Prop) : Prop where
  perm : ∀ {t b b'}, Rc t b → b.Perm b' → Rc t b'
  fire : ∀ {t p a b r}, Rc t ((p, a) :: (p, b) :: r) → Rc (t + 1) ((p - 1, min a b) :: (p + 1, max a b) :: r)
  len : ∀ {t b}, Rc t b → b.length = n
  lim : ∀ {t b}, Rc t b → t ≤ tm
  fin : ∀ {t b}, Rc t b → b.Pairwise (fun x y => x.1 < y.1) → t = tm ∧ b = due
  small : n ≤ 6 ∧ tm ≤ 14
end
section
/-- a strict order whose «not less» is transitive too -/
structure SWO {α : Type} (lt : α → α → Bool) : Prop where
  irr : ∀ a, lt a a = false
  trans : ∀ a b c, lt a b = true → lt b c = true → lt a c = true
  neg : ∀ a b c, lt a b = false → lt b c = false → lt a c = false
theorem SWO.asym {α : Type} {lt : α → α → Bool} (W : SWO lt) {a b : α} (h : lt a b = true) : lt b a = false := by
  cases q : lt b a with
  | false => rfl
  | true => have := W.trans a b a h q; rw [W.irr] at this; cases this

/-- a heap from k on: an item whose parent lies at k or behind is not less than it -/
noncomputable def HeapFrom {α : Type} (lt : α → α → Bool) (k : Nat) (zs : List α) : Prop := ∀ i a b, 0 < i → k ≤ (i - 1) / 2 → zs[i]? = some a → zs[(i - 1) / 2]? = some b → lt a b = false
noncomputable def IsHeap {α : Type} (lt : α → α → Bool) (zs : List α) : Prop := ∀ i a b, 0 < i → zs[i]? = some a → zs[(i - 1) / 2]? = some b → lt a b = false
theorem heapFrom_0 {α : Type} {lt : α → α → Bool} {zs : List α} (h : HeapFrom lt 0 zs) : IsHeap lt zs := fun i a b hi => h i a b hi (Nat.zero_le _)

/-- p lies in the tree below k -/
inductive Desc (k : Nat) : Nat → Prop
  | here : Desc k k
  | up {p : Nat} : k < p → Desc k ((p - 1) / 2) → Desc k p
theorem Desc.le {k p : Nat} : Desc k p → k ≤ p
  | .here => Nat.le_refl _
  | .up h _ => Nat.le_of_lt h
theorem Desc.par {k p : Nat} : Desc k p → k < p → Desc k ((p - 1) / 2)
  | .here, h => absurd h (Nat.lt_irrefl _)
  | .up _ d, _ => d
theorem desc0 : ∀ p, Desc 0 p := by
  intro p
  induction p using Nat.strongRecOn with
  | ind p ih =>
    rcases Nat.eq_zero_or_pos p with rfl | h
    · exact .here
    · exact .up h (ih _ (by omega))

section
variable {α : Type} {lt : α → α → Bool}
structure Hole (lt : α → α → Bool) (k pos : Nat) (zs : List α) : Prop where
  off : ∀ i a b, 0 < i → k ≤ (i - 1) / 2 → i ≠ pos → (i - 1) / 2 ≠ pos → zs[i]? = some a → zs[(i - 1) / 2]? = some b → lt a b = false
  over : ∀ i a b, 0 < i → (i - 1) / 2 = pos → k < pos → zs[i]? = some a → zs[(pos - 1) / 2]? = some b → lt a b = false

theorem sd_heap (W : SWO lt) {x : α} {k : Nat} : ∀ pos (zs : List α), pos < zs.length → Desc k pos → Hole lt k pos zs → (∀ i a, 0 < i → (i - 1) / 2 = pos → zs[i]? = some a → lt a x = false) → HeapFrom lt k (sd lt x k pos zs) := by
  intro pos
  induction pos using Nat.strongRecOn with
  | ind pos ih =>
    intro zs hl hd H hx
    have hfin : (k < pos → ∀ b, zs[(pos - 1) / 2]? = some b → lt x b = false) → HeapFrom lt k (zs.set pos x) := by
      intro hp i a b hi hk ha hb
      rw [List.getElem?_set] at ha hb
      by_cases e1 : pos = i
      · subst e1
        have e2 : pos ≠ (pos - 1) / 2 := by omega
        rw [if_pos rfl, if_pos hl] at ha
        rw [if_neg e2] at hb
        cases ha
        exact hp (by omega) b hb
      · rw [if_neg e1] at ha
        by_cases e2 : pos = (i - 1) / 2
        · rw [if_pos e2, if_pos hl] at hb
          cases hb
          exact hx i a hi e2.symm ha
        · rw [if_neg e2] at hb
          exact H.off i a b hi hk (fun e => e1 e.symm) (fun e => e2 e.symm) ha hb
    by_cases hs : k < pos
    · obtain ⟨p, hp⟩ : ∃ p, zs[(pos - 1) / 2]? = some p := ⟨_, List.getElem?_eq_getElem (by omega)⟩
      cases hc : lt x p with
      | false => rw [sd_brk hs hp hc]; exact hfin fun _ b hb => by rw [hp] at hb; cases hb; exact hc
      | true =>
        rw [sd_in hs hp hc]
        have hpx := W.asym hc
        have hdp := hd.par hs
        have hkp := hdp.le
        refine ih _ (by omega) _ (by simp; omega) hdp ⟨?_, ?_⟩ ?_
        · intro i a b hi hk h1 h2 ha hb
          rw [List.getElem?_set] at ha hb
          have e1 : pos ≠ i := fun e => h2 (by rw [← e])
          rw [if_neg e1] at ha
          by_cases e2 : pos = (i - 1) / 2
          · rw [if_pos e2, if_pos hl] at hb
            cases hb
            exact H.over i a p hi e2.symm hs ha hp
          · rw [if_neg e2] at hb
            exact H.off i a b hi hk (fun e => e1 e.symm) (fun e => e2 e.symm) ha hb
        · intro i a b hi h1 h2 ha hb
          rw [List.getElem?_set] at ha hb
          have e2 : pos ≠ ((pos - 1) / 2 - 1) / 2 := by omega
          rw [if_neg e2] at hb
          have hkpp := (hdp.par h2).le
          have hpb : lt p b = false := H.off ((pos - 1) / 2) p b (by omega) hkpp (by omega) (by omega) hp hb
          by_cases e1 : pos = i
          · rw [if_pos e1, if_pos hl] at ha
            cases ha
            exact hpb
          · rw [if_neg e1] at ha
            exact W.neg a p b (H.off i a p hi (by omega) (fun e => e1 e.symm) (by omega) ha (by rw [h1]; exact hp)) hpb
        · intro i a hi h1 ha
          rw [List.getElem?_set] at ha
          by_cases e1 : pos = i
          · rw [if_pos e1, if_pos hl] at ha
            cases ha
            exact hpx
          · rw [if_neg e1] at ha
            exact W.neg a p x (H.off i a p hi (by omega) (fun e => e1 e.symm) (by omega) ha (by rw [h1]; exact hp)) hpx
    · rw [sd_out hs]; exact hfin fun h => absurd h hs

theorem hole_down (W : SWO lt) {k pos c : Nat} {zs : List α} {l : α} (hl : pos < zs.length) (H : Hole lt k pos zs) (hc : c = 2 * pos + 1 ∨ c = 2 * pos + 2) (hz : zs[c]? = some l)
    (hsib : ∀ i a, 0 < i → (i - 1) / 2 = pos → i ≠ c → zs[i]? = some a → lt a l = false) (hkp : k ≤ pos) : Hole lt k c (zs.set pos l) := by
  refine ⟨?_, ?_⟩
  · intro i a b hi hk h1 h2 ha hb
    rw [List.getElem?_set] at ha hb
    by_cases e1 : pos = i
    · have e2 : pos ≠ (i - 1) / 2 := by omega
      rw [if_pos e1, if_pos hl] at ha
      rw [if_neg e2] at hb
      cases ha
      exact H.over c l b (by omega) (by omega) (by omega) hz (by rw [e1]; exact hb)
    · rw [if_neg e1] at ha
      by_cases e2 : pos = (i - 1) / 2
      · rw [if_pos e2, if_pos hl] at hb
        cases hb
        exact hsib i a hi e2.symm h1 ha
      · rw [if_neg e2] at hb
        exact H.off i a b hi hk (fun e => e1 e.symm) (fun e => e2 e.symm) ha hb
  · intro i a b hi h1 h2 ha hb
    rw [List.getElem?_set] at ha hb
    have e2 : pos = (c - 1) / 2 := by omega
    rw [if_pos e2, if_pos hl] at hb
    cases hb
    rw [if_neg (by omega)] at ha
    exact H.off i a l hi (by omega) (by omega) (by omega) ha (by rw [h1]; exact hz)

theorem su_heap (W : SWO lt) {x : α} {k : Nat} : ∀ n pos (zs : List α), zs.length - pos = n → pos < zs.length → Desc k pos → Hole lt k pos zs → HeapFrom lt k (su lt x k pos zs) := by
  intro n
  induction n using Nat.strongRecOn with
  | ind n ih =>
    intro pos zs hn hl hd H
    have hk := hd.le
    by_cases h1 : 2 * pos + 1 < zs.length
    · obtain ⟨l, hzl⟩ : ∃ p, zs[2 * pos + 1]? = some p := ⟨_, List.getElem?_eq_getElem h1⟩
      have dl : Desc k (2 * pos + 1) := .up (by omega) (by rw [show (2 * pos + 1 - 1) / 2 = pos by omega]; exact hd)
      have dr : Desc k (2 * pos + 2) := .up (by omega) (by rw [show (2 * pos + 2 - 1) / 2 = pos by omega]; exact hd)
      cases hzr : zs[2 * pos + 2]? with
      | none =>
        rw [su_one hzl hzr]
        refine ih _ ?_ _ _ rfl (by simp; omega) dl (hole_down W hl H (.inl rfl) hzl ?_ hk)
        · simp; omega
        · intro i a hi h2 h3 ha
          have : i = 2 * pos + 2 := by omega
          rw [this, hzr] at ha; cases ha
      | some r =>
        have hrl := (List.getElem?_eq_some_iff.mp hzr).1
        cases hc : lt l r with
        | true =>
          rw [su_left hzl hzr hc]
          refine ih _ ?_ _ _ rfl (by simp; omega) dl (hole_down W hl H (.inl rfl) hzl ?_ hk)
          · simp; omega
          · intro i a hi h2 h3 ha
            have : i = 2 * pos + 2 := by omega
            rw [this, hzr] at ha; cases ha
            exact W.asym hc
        | false =>
          rw [su_right hzl hzr hc]
          refine ih _ ?_ _ _ rfl (by simp; omega) dr (hole_down W hl H (.inr rfl) hzr ?_ hk)
          · simp; omega
          · intro i a hi h2 h3 ha
            have : i = 2 * pos + 1 := by omega
            rw [this, hzl] at ha; cases ha
            exact hc
    · rw [su_out h1]
      have hge : ∀ i a, 0 < i → (i - 1) / 2 = pos → (zs.set pos x)[i]? = some a → False := by
        intro i a hi h2 ha
        have := (List.getElem?_eq_some_iff.mp ha).1
        simp at this; omega
      refine sd_heap W _ _ (by simpa using hl) hd ⟨?_, ?_⟩ ?_
      · intro i a b hi h2 h3 h4 ha hb
        rw [List.getElem?_set_ne (fun e => h3 e.symm)] at ha
        rw [List.getElem?_set_ne (fun e => h4 e.symm)] at hb
        exact H.off i a b hi h2 h3 h4 ha hb
      · intro i a b hi h2 _ ha _; exact (hge i a hi h2 ha).elim
      · intro i a hi h2 ha; exact (hge i a hi h2 ha).elim

theorem set_cons_erase : ∀ {i : Nat} {zs : List α} (x : α), i < zs.length → (zs.set i x).Perm (x :: zs.eraseIdx i)
  | 0, _ :: _, _, _ => List.Perm.refl _
  | i + 1, a :: r, x, h => by
    rw [List.set_cons_succ, List.eraseIdx_cons_succ]
    exact ((set_cons_erase x (Nat.lt_of_succ_lt_succ h)).cons a).trans (List.Perm.swap _ _ _)
  | _, [], _, h => absurd h (Nat.not_lt_zero _)
theorem get_cons_erase {i : Nat} {zs : List α} {p : α} (hp : zs[i]? = some p) : (p :: zs.eraseIdx i).Perm zs := by
  obtain ⟨h, e⟩ := List.getElem?_eq_some_iff.mp hp
  have := set_cons_erase p h
  rw [← e, List.set_getElem_self, e] at this
  exact this.symm

theorem set_set_perm {i j : Nat} {zs : List α} {p x : α} (hij : i ≠ j) (hi : i < zs.length) (hj : zs[j]? = some p) : ((zs.set i p).set j x).Perm (zs.set i x) := by
  have hjl := (List.getElem?_eq_some_iff.mp hj).1
  refine (List.perm_cons p).mp ?_
  have e1 : ((zs.set i p).set j x).Perm (x :: (zs.set i p).eraseIdx j) := set_cons_erase x (by simpa using hjl)
  have e2 : (p :: (zs.set i p).eraseIdx j).Perm (zs.set i p) := get_cons_erase (by rw [List.getElem?_set_ne hij]; exact hj)
  have e3 : (zs.set i p).Perm (p :: zs.eraseIdx i) := set_cons_erase p hi
  have e4 : (zs.set i x).Perm (x :: zs.eraseIdx i) := set_cons_erase x hi
  refine (e1.cons p).trans ((List.Perm.swap _ _ _).trans ((e2.cons x).trans ((e3.cons x).trans ((List.Perm.swap _ _ _).trans (e4.symm.cons p)))))

theorem sd_perm {x : α} {k : Nat} : ∀ pos (zs : List α), pos < zs.length → (sd lt x k pos zs).Perm (zs.set pos x) := by
  intro pos
  induction pos using Nat.strongRecOn with
  | ind pos ih =>
    intro zs hl
    by_cases hs : k < pos
    · obtain ⟨p, hp⟩ : ∃ p, zs[(pos - 1) / 2]? = some p := ⟨_, List.getElem?_eq_getElem (by omega)⟩
      cases hc : lt x p with
      | false => rw [sd_brk hs hp hc]
      | true =>
        rw [sd_in hs hp hc]
        exact (ih _ (by omega) _ (by simp; omega)).trans (set_set_perm (by omega) hl hp)
    · rw [sd_out hs]
theorem su_perm {x : α} {k : Nat} : ∀ n pos (zs : List α), zs.length - pos = n → pos < zs.length → (su lt x k pos zs).Perm (zs.set pos x) := by
  intro n
  induction n using Nat.strongRecOn with
  | ind n ih =>
    intro pos zs hn hl
    by_cases h1 : 2 * pos + 1 < zs.length
    · obtain ⟨l, hzl⟩ : ∃ p, zs[2 * pos + 1]? = some p := ⟨_, List.getElem?_eq_getElem h1⟩
      cases hzr : zs[2 * pos + 2]? with
      | none =>
        rw [su_one hzl hzr]
        exact (ih _ (by simp; omega) _ _ rfl (by simp; omega)).trans (set_set_perm (by omega) hl hzl)
      | some r =>
        have hrl := (List.getElem?_eq_some_iff.mp hzr).1
        cases hc : lt l r with
        | true => rw [su_left hzl hzr hc]; exact (ih _ (by simp; omega) _ _ rfl (by simp; omega)).trans (set_set_perm (by omega) hl hzl)
        | false => rw [su_right hzl hzr hc]; exact (ih _ (by simp; omega) _ _ rfl (by simp; omega)).trans (set_set_perm (by omega) hl hzr)
    · rw [su_out h1]
      have := sd_perm (lt := lt) (x := x) (k := k) pos (zs.set pos x) (by simpa using hl)
      rwa [List.set_set] at this

theorem push_heap (W : SWO lt) {zs : List α} {x : α} (h : IsHeap lt zs) : IsHeap lt (sd lt x 0 zs.length (zs ++ [x])) := by
  refine heapFrom_0 (sd_heap W _ _ (by simp) (desc0 _) ⟨?_, ?_⟩ ?_)
  · intro i a b hi _ h1 h2 ha hb
    have := (List.getElem?_eq_some_iff.mp ha).1
    simp at this
    rw [List.getElem?_append_left (by omega)] at ha hb
    exact h i a b hi ha hb
  · intro i a b hi h1 _ ha
    have := (List.getElem?_eq_some_iff.mp ha).1
    simp at this; omega
  · intro i a hi h1 ha
    have := (List.getElem?_eq_some_iff.mp ha).1
    simp at this; omega
theorem push_perm {zs : List α} {x : α} : (sd lt x 0 zs.length (zs ++ [x])).Perm (x :: zs) := by
  have := sd_perm (lt := lt) (x := x) (k := 0) zs.length (zs ++ [x]) (by simp)
  rw [show (zs ++ [x]).set zs.length x = zs ++ [x] by simp [List.set_append]] at this
  exact this.trans (List.perm_append_singleton _ _)
theorem zs_snoc {zs : List α} {r : α} (hr : zs[0]? = some r) : ∃ y, zs = [y] ∧ r = y ∨ ∃ t, zs = (r :: t) ++ [y] := by
  rcases zs with _ | ⟨a, t⟩
  · cases hr
  · cases (Option.some.inj hr : a = r)
    rcases List.eq_nil_or_concat t with rfl | ⟨u, y, rfl⟩
    · exact ⟨_, .inl ⟨rfl, rfl⟩⟩
    · exact ⟨y, .inr ⟨u, by simp⟩⟩
theorem pop_heap (W : SWO lt) {zs : List α} {r : α} (h : IsHeap lt zs) (hr : zs[0]? = some r) : IsHeap lt (hpop lt zs) := by
  obtain ⟨y, ⟨rfl, rfl⟩ | ⟨t, rfl⟩⟩ := zs_snoc hr
  · intro i a b _ ha; simp [hpop] at ha
  · rw [hpop_snoc]
    refine heapFrom_0 (su_heap W _ _ _ rfl (by simp) .here ⟨?_, ?_⟩)
    · intro i a b hi _ h1 h2 ha hb
      rw [List.getElem?_set_ne (by omega)] at ha hb
      have l1 := (List.getElem?_eq_some_iff.mp ha).1
      exact h i a b hi (by rw [List.getElem?_append_left (by omega)]; exact ha) (by rw [List.getElem?_append_left (by omega)]; exact hb)
    · intro i a b hi h1 h2; omega
theorem pop_perm {zs : List α} {r : α} (hr : zs[0]? = some r) : (r :: hpop lt zs).Perm zs := by
  obtain ⟨y, ⟨rfl, rfl⟩ | ⟨t, rfl⟩⟩ := zs_snoc hr
  · simp [hpop]
  · rw [hpop_snoc]
    have := su_perm (lt := lt) (x := y) (k := 0) _ 0 ((r :: t).set 0 y) rfl (by simp)
    refine (List.Perm.cons r (show (su lt y 0 0 ((r :: t).set 0 y)).Perm (y :: t) from this)).trans ?_
    show (r :: y :: t).Perm (r :: (t ++ [y]))
    exact (List.perm_append_singleton _ _).symm.cons r
theorem heap_root (W : SWO lt) {zs : List α} {r : α} (h : IsHeap lt zs) (hr : zs[0]? = some r) : ∀ z ∈ zs, lt z r = false := by
  have main : ∀ (i : Nat) (z : α), zs[i]? = some z → lt z r = false := by
    intro i
    induction i using Nat.strongRecOn with
    | ind i ih =>
      intro z hz
      rcases Nat.eq_zero_or_pos i with rfl | hi
      · rw [hr] at hz; cases hz; exact W.irr r
      · have hl := (List.getElem?_eq_some_iff.mp hz).1
        obtain ⟨p, hp⟩ : ∃ p, zs[(i - 1) / 2]? = some p := ⟨_, List.getElem?_eq_getElem (by omega)⟩
        exact W.neg z p r (h i z p hi hz hp) (ih _ (by omega) p hp)
  intro z hz
  obtain ⟨i, hi, e⟩ := List.mem_iff_getElem.mp hz
  exact main i z (by rw [List.getElem?_eq_getElem hi, e])
theorem hfy_from (W : SWO lt) : ∀ k (zs : List α), k ≤ zs.length → HeapFrom lt k zs → HeapFrom lt 0 (hfy lt k zs) := by
  intro k
  induction k with
  | zero => intro zs _ h; exact h
  | succ k ih =>
    intro zs hl h
    rw [hfy, List.getElem?_eq_getElem (by omega)]
    dsimp only
    refine ih _ (by rw [su_length]; omega) (su_heap W _ _ _ rfl (by omega) .here ⟨?_, ?_⟩)
    · intro i a b hi h1 h2 h3 ha hb
      exact h i a b hi (by omega) ha hb
    · intro i a b hi h1 h2; omega
theorem hfy_heap (W : SWO lt) {zs : List α} : IsHeap lt (hfy lt (zs.length / 2) zs) := by
  refine heapFrom_0 (hfy_from W _ _ (by omega) ?_)
  intro i a b hi h1 ha
  have := (List.getElem?_eq_some_iff.mp ha).1
  omega
theorem hfy_perm : ∀ {k : Nat} {zs : List α}, (hfy lt k zs).Perm zs
  | 0, _ => List.Perm.refl _
  | k + 1, zs => by
    rw [hfy]
    split
    · rename_i x hx
      have hl := (List.getElem?_eq_some_iff.mp hx).1
      refine (hfy_perm (k := k)).trans ((su_perm _ k zs rfl hl).trans ?_)
      rw [← (List.getElem?_eq_some_iff.mp hx).2, List.set_getElem_self]
    · exact List.Perm.refl _
end
end
local macro_rules | `(tactic| walk_at "memb") => `(tactic| (
  (try simp only [List.map_append, List.map_cons, List.map_nil]);
  (show Sub _ _);
  (repeat' (with_reducible (first | apply Sub.refl | apply Sub.nil | apply Sub.cons | apply Sub.app | apply Sub.inl | apply Sub.skip | apply Sub.inr | apply Sub.head | apply Sub.tail | apply Sub.right)))))
theorem off_W8 : True := by
  w_top off
  trivial
section
open PySem PySem.W PyProof.Rows PySem.Calls
open PySem.SeqAt
set_option Elab.async false
set_option maxRecDepth 100000
set_option maxHeartbeats 4000000
set_option linter.unusedVariables false

/-- a chip that stands in the base or among the cells -/
noncomputable def ChipC (g : Heap) (cs : List (Addr × Obj)) (z : Z) : Prop := ∃ a t u n, z.1 = .ref a ∧ (g.get? a = some (chipO z.2.1 z.2.2 t u n) ∨ (a, chipO z.2.1 z.2.2 t u n) ∈ cs)
theorem ChipC.chip {g h : Heap} {L : Addr} {m : Str → Option Value} {cs news : List (Addr × Obj)} {z : Z} (c : ChipC g cs z) (F : Fr g L h m) (N : News g L h news) (hs : ∀ p ∈ cs, p ∈ news) : Chip h z := by
  obtain ⟨a, t, u, n, e1, e2 | e2⟩ := c
  · exact ⟨a, t, u, n, e1, F.keep _ _ e2⟩
  · exact ⟨a, t, u, n, e1, N.get (hs _ e2)⟩
theorem ChipC.mono {g : Heap} {cs cs' : List (Addr × Obj)} {z : Z} (c : ChipC g cs z) (hs : ∀ p ∈ cs, p ∈ cs') : ChipC g cs' z := by
  obtain ⟨a, t, u, n, e1, e2 | e2⟩ := c
  · exact ⟨a, t, u, n, e1, .inl e2⟩
  · exact ⟨a, t, u, n, e1, .inr (hs _ e2)⟩

theorem news_ext {g h h' : Heap} {L D : Addr} {o o' : Obj} {rest : List (Addr × Obj)} (N : News g L h ((D, o) :: rest)) (hr : ∀ p ∈ rest, p.1 ≠ D) (e : Ext [D] h h') (ho : h'.get? D = some o') : News g L h' ((D, o') :: rest) := by
  refine fa_cons ?_ ?_
  · exact ⟨ho, (N _ (.head _)).2⟩
  intro p hp
  · have z := N p (.tail _ hp)
    exact ⟨e _ _ (fun hm => hr p hp (List.mem_singleton.mp hm)) z.1, z.2⟩
theorem fresh_fr {h g : Heap} {a : Addr} {frs : List (Addr × Obj)} (hext : ∀ b o, b ∉ (frs.map (·.1)) → h.get? b = some o → g.get? b = some o) (h3 : ∀ p ∈ frs, p.1 ≠ a) (hg : g.get? a = none) : h.get? a = none := by
  cases q : h.get? a with
  | none => rfl
  | some o =>
    have hmem : a ∉ (frs.map (·.1)) := by
      intro hm
      obtain ⟨p, hp, e⟩ := List.mem_map.mp hm
      exact h3 p hp e
    rw [hext a o hmem q] at hg; cases hg
theorem place_le {z r : Z} (h : ltZ z r = false) : r.2.1 ≤ z.2.1 := by
  unfold ltZ ltC at h
  split at h
  · rename_i e; omega
  · simp at h; omega
theorem ltC_iff {a b : Int × Int} : ltC a b = true ↔ a.1 < b.1 ∨ (a.1 = b.1 ∧ a.2 < b.2) := by
  unfold ltC
  split
  · rename_i e; simp [e]
  · rename_i e; simp [e]
theorem ltC_not {a b : Int × Int} : ltC a b = false ↔ b.1 < a.1 ∨ (a.1 = b.1 ∧ b.2 ≤ a.2) := by
  rw [← Bool.not_eq_true, ltC_iff]; omega
theorem swo_ltZ : SWO ltZ where
  irr a := ltC_not.mpr (.inr ⟨rfl, Int.le_refl _⟩)
  trans a b c h1 h2 := by have h1 := ltC_iff.mp h1; have h2 := ltC_iff.mp h2; exact ltC_iff.mpr (by omega)
  neg a b c h1 h2 := by have h1 := ltC_not.mp h1; have h2 := ltC_not.mp h2; exact ltC_not.mpr (by omega)
theorem swo_gtZ : SWO gtZ where
  irr a := ltC_not.mpr (.inr ⟨rfl, Int.le_refl _⟩)
  trans a b c h1 h2 := by have h1 := ltC_iff.mp h1; have h2 := ltC_iff.mp h2; exact ltC_iff.mpr (by omega)
  neg a b c h1 h2 := by have h1 := ltC_not.mp h1; have h2 := ltC_not.mp h2; exact ltC_not.mpr (by omega)

inductive LeastPush (hp : Addr) (al : Addr) (frs : List (Addr × Obj)) (zs0 : List Z) (i : Nat) (m : Str → Option Value) (news : List (Addr × Obj)) : Prop
  | mk (zs : List Z) (n1 : Nat) (t : Tok) (f1 : news = (hp, listOf (zs.map (·.1)).toArray n1) :: (al, listOf #[] 0) :: frs) (f2 : m (Str.ofString "heap") = some (.ref hp)) (f3 : m (Str.ofString "alone") = some (.ref al)) (f4 : m (Str.ofString "times") = some (.int 0 t)) (f5 : IsHeap ltZ zs) (f6 : zs.Perm (zs0.take i)) : LeastPush hp al frs zs0 i m news
inductive LeastTurn (hp : Addr) (al : Addr) (frs : List (Addr × Obj)) (Rc : Nat → List (Int × Int) → Prop) (g : Heap) (i : Nat) (m : Str → Option Value) (news : List (Addr × Obj)) : Prop
  | mk (zs az : List Z) (n1 n2 : Nat) (t : Nat) (tt : Tok) (cs : List (Addr × Obj)) (f1 : news = (hp, listOf (zs.map (·.1)).toArray n1) :: (al, listOf (az.map (·.1)).toArray n2) :: (frs ++ cs)) (f2 : m (Str.ofString "heap") = some (.ref hp)) (f3 : m (Str.ofString "alone") = some (.ref al)) (f4 : m (Str.ofString "times") = some (.int (t : Nat) tt)) (f5 : IsHeap ltZ zs) (f6 : az.Pairwise (fun x y => x.2.1 < y.2.1)) (f7 : (∀ a ∈ az, ∀ z ∈ zs, a.2.1 ≤ z.2.1)) (f8 : Rc t ((az ++ zs).map (·.2))) (f9 : i = az.length + 2 * t) (f10 : (∀ z ∈ az ++ zs, ChipC g cs z)) (f11 : ∀ p ∈ cs, ∃ x y t u n, p.2 = chipO x y t u n) : LeastTurn hp al frs Rc g i m news
inductive LeastBack (hp : Addr) (al : Addr) (ys : List Z) (n2 : Nat) (I : Addr) (o : Obj) (frs : List (Addr × Obj)) (cs2 : List (Addr × Obj)) (t : Nat) (a1 : Addr) (y : Z) (r : Z) (a2 : Addr) (zs' : List Z) (i : Nat) (m : Str → Option Value) (news : List (Addr × Obj)) : Prop
  | mk (zq : List Z) (nq : Nat) (tq : Tok) (f1 : news = (hp, listOf (zq.map (·.1)).toArray nq) :: (al, listOf (ys.map (·.1)).toArray (n2 + 1)) :: (I, o) :: (frs ++ cs2)) (f2 : m (Str.ofString "heap") = some (.ref hp)) (f3 : m (Str.ofString "alone") = some (.ref al)) (f4 : m (Str.ofString "times") = some (.int ((t + 1 : Nat) : Int) tq)) (f5 : IsHeap ltZ zq) (f6 : zq.Perm (([(Value.ref a1, y.2.1 - 1, min y.2.2 r.2.2), (Value.ref a2, y.2.1 + 1, max y.2.2 r.2.2)] : List Z).take i ++ zs')) : LeastBack hp al ys n2 I o frs cs2 t a1 y r a2 zs' i m news
theorem least_call {w : World} {h₀ : Heap} {A : Around} {s : Shared} {Q E : Value → Shared → Prop} {ca : Addr} {zs0 : List Z} {nc : Nat} {outer : List Env} {frs : List (Addr × Obj)} {n tm : Nat} {due : List (Int × Int)} {Rc : Nat → List (Int × Int) → Prop}
    (G : Gd w h₀ s.heap) (R : Rm A 10) (hA : A.frames = some outer) (O : Outs outer frs) (hfrs : ∀ p ∈ frs, s.heap.get? p.1 = some p.2) (hfn : ∀ p ∈ frs, h₀.get? p.1 = none)
    (hc : s.heap.get? ca = some (listOf (zs0.map (·.1)).toArray nc)) (hz0 : ∀ z ∈ zs0, Chip s.heap z) (W : Law n tm due Rc) (h0 : Rc 0 (zs0.map (·.2)))
    (h : ∀ (h' : Heap) (tk' : Nat) (r al : Addr) (t1 : Tok) (n1 : Nat) (zs : List Z) (frs' : List (Addr × Obj)), Ext (frs.map (·.1)) s.heap h' → SlotEq frs frs' → (∀ p ∈ frs', h'.get? p.1 = some p.2) →
      h'.get? r = some { cls := .type "tuple", data := .seq #[.int (tm : Nat) t1, .ref al] } → h'.get? al = some (listOf (zs.map (·.1)).toArray n1) → zs.map (·.2) = due → (∀ z ∈ zs, Chip h' z) → s.heap.get? r = none → s.heap.get? al = none → Q (.ref r) { s with heap := h', toks := tk' }) :
    wpAny (model Challenge.rw_pg0109_01.row.prog w) A (call (.ref 91) [.ref ca]) Q E s := by
  have hn' : ∀ a ∈ frs.map (·.1), h₀.get? a = none := by
    intro a ha
    obtain ⟨p, hp, rfl⟩ := List.mem_map.mp ha
    exact hfn p hp
  have Gg := G.hide hn'
  have X := (G.hide hn').in
  obtain ⟨loose, mean, mg, mb, T⟩ := (G.hide hn').top
  have X0 := G.in
  refine wpAny_call ?_
  revert X; k_fill; intro X
  refine' callF (binds := [(Str.ofString "chips", Value.ref ca)]) (frs.map (·.1)) X0 (T.nolimit.keeps fun b o e => of_hideAll _ e) ?ho ?hcd R.room ?hbind ?hloc ?_ ?hcell ?c2 ?c3 ?c4
  (case ho => k_is)
  (case hcd => k_is)
  (case hbind => exact BindsTo.of_eq rfl)
  (case hcell => decide)
  (case hloc => exact locs rfl)
  (case c2 => exact rfl)
  (case c3 => exact rfl)
  (case c4 => exact rfl)
  intro L h' hL F' hk'
  have N' : News (hideAll s.heap (frs.map (·.1))) L h' frs := fun p hp' =>
    ⟨hk' _ _ (hfrs p hp'), hL ▸ Nat.ne_of_lt (Heap.lt_size (hfrs p hp')), hideAll_none _ (List.mem_map_of_mem hp')⟩
  have hext : ∀ b o, b ∉ (frs.map (·.1)) → s.heap.get? b = some o → (hideAll s.heap (frs.map (·.1))).get? b = some o := fun b o n e => hideAll_get _ e n
  have hdict := O.dict
  have hnofr : ∀ b o vs n, s.heap.get? b = some o → o.data = .seq vs n → b ∉ frs.map (·.1) := by
    intro b o vs n hb hd hm
    obtain ⟨p, hp, rfl⟩ := List.mem_map.mp hm
    rw [hfrs p hp] at hb
    cases hb
    obtain ⟨es, k, e⟩ := hdict p hp
    rw [e] at hd; cases hd
  have hcg : (hideAll s.heap (frs.map (·.1))).get? ca = some (listOf (zs0.map (·.1)).toArray nc) := hext _ _ (hnofr _ _ _ _ hc rfl) hc
  have hzg : ∀ z ∈ zs0, ChipC (hideAll s.heap (frs.map (·.1))) [] z := by
    intro z hz
    obtain ⟨a, t, u, n, e1, e2⟩ := hz0 z hz
    exact ⟨a, t, u, n, e1, .inl (hext _ _ (hnofr _ _ _ _ e2 rfl) e2)⟩
  clear G X0
  generalize hideAll s.heap (frs.map (·.1)) = g at *
  walk_at "go"
  rename Fr _ _ _ _ => F1
  rename News _ _ _ _ => N1
  rename _ ∧ _ ∧ AllLt _ _ => lt1
  rename _ ∧ AllLt _ _ => lt2
  rename ∀ p ∈ frs, p.1 < _ => lt3
  rename_i hp ha al hb dd hcc
  refine unpackItemsN_ F1 N1 (News.isTup N1 (.head _)) R.deeper.handled rfl ?_
  intro h2 F2 N2
  walk_at "go"
  rename Fr _ _ _ _ => F3
  rename News _ _ _ _ => N3
  have hhl : hp ≠ al := Nat.ne_of_lt lt2.1
  have hfh : ∀ p ∈ frs, p.1 ≠ hp := fun p hp1 => Nat.ne_of_lt (lt3 p hp1)
  have hfa : ∀ p ∈ frs, p.1 ≠ al := fun p hp1 => Nat.ne_of_lt (allLt_mem lt2.2 p hp1)
  have hgh : g.get? hp = none := (N3 _ (.tail _ (.tail _ (.head _)))).2.2
  have hga : g.get? al = none := (N3 _ (.tail _ (.head _))).2.2
  have hnh : h₀.get? hp = none := by
    cases q : h₀.get? hp with
    | none => rfl
    | some o => rw [Gg.keep _ _ q] at hgh; cases hgh
  refine For_invV g rfl rfl ?_
  walk_at "go"
  refine loop_list (news := (hp, listOf #[] 0) :: (al, listOf #[] 0) :: frs) (LeastPush hp al frs zs0) R.deeper.handled (F3.keep _ _ hcg) ?_ F3 (news_sub N3 ?_) ⟨[], 0, _, rfl, rfl, rfl, rfl, ?_, by simp⟩ ?_ ?_
  · show ca ≠ L
    intro e
    have := Heap.lt_size hcg
    rw [e] at this
    exact absurd (Nat.lt_of_lt_of_le this F3.above) (Nat.lt_irrefl _)
  · walk_at "memb"
  · intro i a b _ q; cases q
  · rintro i v m news₁ h4 tk4 own I hv ⟨zs, n1, t, rfl, m1, m2, m3, hH, hP⟩ hneI hown F4 N4
    rw [set_has m1, set_has m2, set_has m3] at F4
    replace F4 : Fr g L h4 _ := F4
    replace N4 : News g L h4 _ := N4
    obtain ⟨z, hz, rfl⟩ : ∃ z, zs0[i]? = some z ∧ z.1 = v := by simpa using hv
    have hil : i < zs0.length := (List.getElem?_eq_some_iff.mp hz).1
    have hlz : zs.length = i := by rw [hP.length_eq]; simp; omega
    have hl0 := W.len h0
    rw [List.length_map] at hl0
    have hW := W.small
    have hhI : hp ≠ I := hneI _ (.head _)
    have hca : ca ≠ hp := fun e => by rw [e, hgh] at hcg; cases hcg
    have hoh : ∀ p ∈ own, p.1 ≠ hp := fun p hp1 => by
      rcases hown p hp1 with e | e
      · rw [e]; exact fun q => hneI _ (.head _) q.symm
      · rw [e]; exact hca
    have N5 := news_sub (l' := (hp, listOf (zs.map (·.1)).toArray n1) :: (al, listOf #[] 0) :: (frs ++ own)) N4 (by walk_at "memb")
    walk_at "go"
    refine heappush_call (zs := zs) (x := z) (Gg.fr F4) (R.deeper.le (by omega)) hnh (N5.get (.head _)) (fun y hy => ((hzg y (List.mem_of_mem_take (hP.subset hy))).chip F4 News.nil (fun _ h => nomatch h))) ((hzg z (List.mem_of_getElem? hz)).chip F4 News.nil (fun _ h => nomatch h)) (by omega) ?_
    intro h6 tk6 n6 e6 g6
    have F6 := fr_ext F4 e6 (fun hm => by cases List.mem_singleton.mp hm; exact (N5 _ (.head _)).2.1 rfl) (fun a ha => by cases List.mem_singleton.mp ha; exact hgh)
    have N6 := news_ext N5 (fun p hp1 => by
      rcases List.mem_cons.mp hp1 with rfl | hp1
      · exact hhl.symm
      rcases List.mem_append.mp hp1 with hp1 | hp1
      · exact hfh p hp1
      · exact hoh p hp1) e6 g6
    walk_at "go"
    refine turn_next (news := (hp, listOf ((sd ltZ z 0 zs.length (zs ++ [z])).map (·.1)).toArray n6) :: (al, listOf #[] 0) :: frs) F6 (news_sub N6 (by walk_at "memb")) ?_ ⟨_, n6, t, rfl, rfl, rfl, rfl, push_heap swo_ltZ hH, ?_⟩
    · intro p hp1
      have : p.1 ≠ I := by
        rcases List.mem_cons.mp hp1 with rfl | hp1
        · exact hhI
        · exact hneI p (.tail _ hp1)
      simpa using this
    · refine push_perm.trans ?_
      rw [List.take_add_one, hz]
      exact (List.Perm.cons z hP).trans (List.perm_append_singleton z _).symm
  · rintro m news₁ h4 tk4 ⟨zs, n1, t, rfl, m1, m2, m3, hH, hP⟩ F4 N4
    replace F4 : Fr g L h4 _ := F4
    replace N4 : News g L h4 _ := N4
    rw [set_has m1, set_has m2, set_has m3] at F4
    have hzz : zs.Perm zs0 := by simpa using hP
    have hW := W.small
    walk_at "go"
    refine For_invV g rfl rfl ?_
    walk_at "go"
    refine range1 (by assumption) (by assumption) ?_
    intro r h5 tk5 t5 t6 F5 N5 l5 lL5
    walk_at "go"
    refine iter_range F5 N5 (.head _) (k := 40) rfl (by omega) ?_
    intro I h6 F6 N6 l6 lL6
    have hhI : hp ≠ I := Nat.ne_of_lt (l6 _ (.tail _ (.head _)))
    have haI : al ≠ I := Nat.ne_of_lt (l6 _ (.tail _ (.tail _ (.head _))))
    have hfI : ∀ p ∈ frs, p.1 ≠ I := fun p hp1 => Nat.ne_of_lt (l6 p (.tail _ (.tail _ (.tail _ hp1))))
    refine loop_rangeIt (k := 40) (news := (hp, listOf (zs.map (·.1)).toArray n1) :: (al, listOf #[] 0) :: frs) (LeastTurn hp al frs Rc g) R.deeper.handled (N6.get (.head _)) (N6.fresh (.head _)) ?_ ?_ F6 (news_sub N6 (by walk_at "memb")) ⟨zs, [], n1, 0, 0, t, [], by simp, rfl, rfl, rfl, hH, List.Pairwise.nil, (fun _ h => nomatch h), W.perm h0 ((hzz.map _).symm), rfl, (fun z hz => hzg z (hzz.subset (by simpa using hz))), (fun _ h => nomatch h)⟩ ?_ ?_
    · exact Nat.ne_of_lt lL6
    · refine fa_cons ?_ ?_
      · exact hhI
      refine fa_cons ?_ ?_
      · exact haI
      intro p hp1
      · exact hfI p hp1
    · rintro i ti m news₁ h7 tk7 o hi ⟨zs, az, n1, n2, t, tt, cs, rfl, m1, m2, m3, hH, hS, hle, hR, hit, hC, hcs⟩ hneI F7 N7
      replace F7 : Fr g L h7 _ := F7
      replace N7 : News g L h7 _ := N7
      rw [set_has m1, set_has m2, set_has m3] at F7
      have hcn : ∀ p ∈ cs, p.1 ≠ hp ∧ p.1 ≠ al := by
        intro p hp1
        obtain ⟨x, y, t, u, k, e⟩ := hcs p hp1
        have z := (N7 p (.tail _ (.tail _ (.tail _ (List.mem_append_right _ hp1))))).1
        rw [e] at z
        have z1 := N7.get (.tail _ (.head _))
        have z2 := N7.get (.tail _ (.tail _ (.head _)))
        constructor
        · intro q; rw [q, z1] at z; have z3 := congrArg Obj.cls (Option.some.inj z); simp at z3
        · intro q; rw [q, z2] at z; have z3 := congrArg Obj.cls (Option.some.inj z); simp at z3
      have hfc : ∀ p ∈ cs, ∀ q ∈ frs, q.1 ≠ p.1 := by
        intro p hp1 q hq e9
        obtain ⟨x, y, t, u, k, e⟩ := hcs p hp1
        have z := (N7 p (.tail _ (.tail _ (.tail _ (List.mem_append_right _ hp1))))).1
        have z1 := (N7 q (.tail _ (.tail _ (.tail _ (List.mem_append_left _ hq))))).1
        rw [e9, z, e] at z1
        obtain ⟨es, k2, e2⟩ := O.dict q hq
        have e3 := congrArg Obj.data (Option.some.inj z1)
        rw [e2] at e3
        cases e3
      refine wpAny_execs_cons (wpAny_Try_except ?_)
      rcases zs with _ | ⟨r, zr⟩
      · walk_at "go"
        have N8 := news_sub (l' := frs ++ ((hp, listOf #[] n1) :: (al, listOf (az.map (·.1)).toArray n2) :: cs)) N7 (by walk_at "memb")
        refine heappop_empty (B := baseOf h7 L frs) (Gg.fr F7) (R.deeper.le (by omega)) (N7.get (.tail _ (.head _))) (Around.frames_deeper hA) base_stays (base_frames F7 N8 O rfl) ?_
        intro e h8 tk8 a0 hfl hsm
        refine caught_call (frs := frs) (cells := ((hp, listOf #[] n1) :: (al, listOf (az.map (·.1)).toArray n2) :: cs)) (X := "IndexError") (T' := "IndexError") (Around.frames_deeper hA) F7 N8 O ?_ hsm hfl X (topRead_of T) (by k_is) (by boot_by_name) (by decide) (by rw [isSubtype_type]; kernel_rfl) (by rw [isSubtype_type]; kernel_rfl) (by rw [isSubtype_type]; kernel_rfl) rfl rfl (by decide) ?_
        · intro p hp1 q hq
          rcases List.mem_cons.mp hp1 with rfl | hp1
          · exact hfh q hq
          rcases List.mem_cons.mp hp1 with rfl | hp1
          · exact hfa q hq
          · exact hfc p hp1 q hq
        intro h9 frs9 F9 N9 e9 O9
        walk_at "go"
        rename Fr _ _ _ _ => F10
        rename News _ _ _ _ => N10
        rename ∀ p ∈ frs9 ++ _, p.1 < _ => lt10
        obtain ⟨ht, hdue⟩ := W.fin (t := t) (b := az.map (·.2)) (by simpa using hR) (by rw [List.pairwise_map]; exact hS)
        subst ht
        refine LoopStepV.ret (h _ _ _ al tt n2 az frs9 (fun b o nb e => F10.keep b o (hext b o nb e)) e9 (fun p hp1 => N10.get (.tail _ (List.mem_append_left _ hp1))) (N10.get (.head _)) (N10.get (.tail _ (List.mem_append_right _ (.tail _ (.head _))))) hdue ?_ ?_ ?_)
        · intro z hz
          exact (hC z (by simpa using hz)).chip F10 N10 (by walk_at "memb")
        · refine fresh_fr hext (fun p hp1 => ?_) (N10.fresh (.head _))
          have : p.1 ∈ frs9.map (·.1) := e9.addrs ▸ List.mem_map_of_mem hp1
          obtain ⟨q, hq, e⟩ := List.mem_map.mp this
          rw [← e]
          exact Nat.ne_of_lt (lt10 q (List.mem_append_left _ hq))
        · exact fresh_fr hext hfa hga
      · have hlen0 := W.len hR
        simp only [List.length_map, List.length_append, List.length_cons] at hlen0
        have N8 := news_sub (l' := (hp, listOf ((r :: zr).map (·.1)).toArray n1) :: (al, listOf (az.map (·.1)).toArray n2) :: (I, o) :: (frs ++ cs)) N7 (by walk_at "memb")
        have hIo : ∀ p ∈ ((al, listOf (az.map (·.1)).toArray n2) :: (I, o) :: (frs ++ cs) : List (Addr × Obj)), p.1 ≠ hp := by
          refine fa_cons ?_ ?_
          · exact hhl.symm
          refine fa_cons ?_ ?_
          · exact hhI.symm
          intro p hp1
          rcases List.mem_append.mp hp1 with hp1 | hp1
          · exact hfh p hp1
          · exact (hcn p hp1).1
        walk_at "go"
        refine heappop_call (zs := r :: zr) (r := r) (Gg.fr F7) (R.deeper.le (by omega)) hnh (N8.get (.head _)) (fun z hz => (hC z (by simp only [List.mem_append]; exact .inr hz)).chip F7 N8 (by walk_at "memb")) rfl (by simp; omega) ?_
        intro h9 tk9 n9 e9 g9
        have F9 := fr_ext F7 e9 (fun hm => by cases List.mem_singleton.mp hm; exact (N8 _ (.head _)).2.1 rfl) (fun a ha => by cases List.mem_singleton.mp ha; exact hgh)
        have N9 := news_ext N8 hIo e9 g9
        have hpp := pop_perm (lt := ltZ) (zs := r :: zr) (r := r) rfl
        have hph := pop_heap swo_ltZ hH rfl
        have hroot := heap_root swo_ltZ hH rfl
        generalize hpop ltZ (r :: zr) = zs' at *
        clear N7 N8 F7
        have hsz : ∀ ys : List Z, ys.length ≤ 100 → (ys.map (·.1)).length ≤ sizeLine := fun ys hy => by rw [List.length_map]; show _ ≤ 2 ^ 24; omega
        walk_at "go"
        rename Fr _ _ _ _ => F10
        rename News _ _ _ _ => N10
        refine eq_nil (n' := 0) (N10.get (.tail _ (.tail _ (.head _)))) (N10.get (.head _)) (R.deeper.line) ?_
        have hal : ∀ p ∈ ((hp, listOf (zs'.map (·.1)).toArray n9) :: (I, o) :: (frs ++ cs) : List (Addr × Obj)), p.1 ≠ al := by
          refine fa_cons ?_ ?_
          · exact hhl
          refine fa_cons ?_ ?_
          · exact haI.symm
          intro p hp1
          rcases List.mem_append.mp hp1 with hp1 | hp1
          · exact hfa p hp1
          · exact (hcn p hp1).2
        have hneI2 : ∀ o1 o2, ∀ p ∈ ((hp, o1) :: (al, o2) :: (frs ++ cs) : List (Addr × Obj)), p.1 ∉ [I] := by
          intro o1 o2 p hp1
          have : p.1 ≠ I := by
            rcases List.mem_cons.mp hp1 with rfl | hp1
            · exact hhI
            rcases List.mem_cons.mp hp1 with rfl | hp1
            · exact haI
            · exact hneI p (.tail _ (.tail _ hp1))
          simpa using this
        have hlz : az.length ≤ 100 := by omega
        rcases List.eq_nil_or_concat az with rfl | ⟨ys, y, rfl⟩
        · rw [show (([] : List Z).map (·.1)).isEmpty = true from rfl]
          walk_at "go"
          refine append_at (by assumption) (news_sub (l' := (al, listOf (([] : List Z).map (·.1)).toArray n2) :: (hp, listOf (zs'.map (·.1)).toArray n9) :: (I, o) :: (frs ++ cs)) N10 (by walk_at "memb")) hal (hsz _ hlz) ?_
          intro h11 F11 N11
          walk_at "go"
          refine turn_next (news := (hp, listOf (zs'.map (·.1)).toArray n9) :: (al, listOf ((([] : List Z) ++ [r]).map (·.1)).toArray (n2 + 1)) :: (frs ++ cs)) F11 (news_sub N11 (by walk_at "memb")) (hneI2 _ _) ⟨zs', ([] : List Z) ++ [r], n9, n2 + 1, t, tt, cs, rfl, rfl, rfl, rfl, hph, ?_, ?_, ?_, ?_, ?_, hcs⟩
          · simp
          · intro a ha z hz
            cases List.mem_singleton.mp (by simpa using ha)
            exact place_le (hroot z (hpp.subset (.tail _ hz)))
          · refine W.perm hR ?_
            simpa using (hpp.map (·.2)).symm
          · simp at hit ⊢; omega
          · intro z hz
            exact hC z (hpp.subset (by simpa using hz))
        · rw [show ((ys.concat y).map (·.1)).isEmpty = false from by simp]
          rw [List.concat_eq_append] at *
          have hyr : y.2.1 ≤ r.2.1 := hle y (by simp) r (by simp)
          have hsy : ∀ a ∈ ys, a.2.1 < y.2.1 := fun a ha => (List.pairwise_append.mp hS).2.2 a ha y (by simp)
          walk_at "go"
          refine item_last (vs := ys.map (·.1)) (y := y.1) (by have := N10.get (.tail _ (.tail _ (.head _))); rw [List.map_append] at this; exact this) (by simpa using hsz (ys ++ [y]) hlz) ?_ (by with_unfolding_all rfl)
          walk_at "go"
          refine item_h0 F10 ((hC y (by simp)).chip F10 N10 (by walk_at "memb")).pair ?_ (by intro a; with_unfolding_all rfl)
          intro t1
          walk_at "go"
          refine item_h0 (by assumption) ((hC r (by simp)).chip F10 N10 (by walk_at "memb")).pair ?_ (by intro a; with_unfolding_all rfl)
          intro t2
          walk_at "go"
          · rename y.2.1 ≠ r.2.1 => hne
            refine append_at (by assumption) (news_sub (l' := (al, listOf ((ys ++ [y]).map (·.1)).toArray n2) :: (hp, listOf (zs'.map (·.1)).toArray n9) :: (I, o) :: (frs ++ cs)) N10 (by walk_at "memb")) hal (hsz _ hlz) ?_
            intro h11 F11 N11
            walk_at "go"
            refine turn_next (news := (hp, listOf (zs'.map (·.1)).toArray n9) :: (al, listOf (((ys ++ [y]) ++ [r]).map (·.1)).toArray (n2 + 1)) :: (frs ++ cs)) F11 (news_sub N11 (by walk_at "memb")) (hneI2 _ _) ⟨zs', (ys ++ [y]) ++ [r], n9, n2 + 1, t, tt, cs, rfl, rfl, rfl, rfl, hph, ?_, ?_, ?_, ?_, ?_, hcs⟩
            · rw [List.pairwise_append]
              refine ⟨hS, by simp, fun a ha b hb => ?_⟩
              cases List.mem_singleton.mp hb
              rcases List.mem_append.mp ha with ha | ha
              · have := hsy a ha; omega
              · cases List.mem_singleton.mp ha; omega
            · intro a ha z hz
              have hrz := place_le (hroot z (hpp.subset (.tail _ hz)))
              rcases List.mem_append.mp ha with ha | ha
              · have := hle a ha r (by simp); omega
              · cases List.mem_singleton.mp ha; exact hrz
            · refine W.perm hR ?_
              have e1 : ys ++ [y] ++ [r] ++ zs' = ys ++ [y] ++ (r :: zs') := by simp
              rw [e1]
              exact (List.Perm.append_left _ hpp.symm).map _
            · simp at hit ⊢; omega
            · intro z hz
              refine hC z ?_
              rw [List.append_assoc] at hz
              rcases List.mem_append.mp hz with hz | hz
              · exact List.mem_append_left _ hz
              · exact List.mem_append_right _ (hpp.subset (by simpa using hz))
          · rename Fr _ _ _ _ => F11
            rename News _ _ _ _ => N11
            refine For_invV g rfl rfl ?_
            walk_at "go"
            refine pop_at F11 (vs := ys.map (·.1)) (y := y.1) (news_sub (l' := (al, listOf (ys.map (·.1) ++ [y.1]).toArray n2) :: (hp, listOf (zs'.map (·.1)).toArray n9) :: (I, o) :: (frs ++ cs)) N11 (by walk_at "memb")) hal (by simpa using hsz (ys ++ [y]) hlz) ?_
            intro h12 F12 N12
            have hye : y.2.1 = r.2.1 := by first | assumption | omega
            walk_at "go"
            refine parted_call (x := y) (y := r) (Gg.fr F12) (R.deeper.le (by omega)) ((hC y (by simp)).chip F12 N12 (by walk_at "memb")).pair ((hC r (by simp)).chip F12 N12 (by walk_at "memb")).pair ?_
            intro h13 tk13 r0 a1 a2 u1 u2 u3 u4 e13 gr ga1 ga2 nr na1 na2
            have k13 : ∀ c o, h12.get? c = some o → h13.get? c = some o := fun c o q => e13 c o (fun hm => nomatch hm) q
            have F13 := fr_keeps F12 k13
            have hnew : ∀ a ob, h12.get? a = none → h13.get? a = some ob → h13.get? a = some ob ∧ a ≠ L ∧ g.get? a = none := by
              intro a ob h1 h2
              obtain ⟨oL, _, _, hoL, _⟩ := F12.ns
              refine ⟨h2, (fun e => by rw [e, hoL] at h1; cases h1), ?_⟩
              cases q : g.get? a with
              | none => rfl
              | some o' => rw [F12.keep _ _ q] at h1; cases h1
            have N13 : News g L h13 ((hp, listOf (zs'.map (·.1)).toArray n9) :: (al, listOf (ys.map (·.1)).toArray (n2 + 1)) :: (I, o) :: (frs ++ ((a1, chipO (y.2.1 - 1) (min y.2.2 r.2.2) u1 u2 0) :: (a2, chipO (y.2.1 + 1) (max y.2.2 r.2.2) u3 u4 0) :: cs))) := by
              intro p hp1
              have : p = (a1, chipO (y.2.1 - 1) (min y.2.2 r.2.2) u1 u2 0) ∨ p = (a2, chipO (y.2.1 + 1) (max y.2.2 r.2.2) u3 u4 0) ∨ p ∈ ((al, listOf (ys.map (·.1)).toArray (n2 + 1)) :: (hp, listOf (zs'.map (·.1)).toArray n9) :: (I, o) :: (frs ++ cs) : List (Addr × Obj)) := mem3 (Sub.at (by walk_at "memb") p hp1)
              rcases this with rfl | rfl | hm
              · exact hnew _ _ na1 ga1
              · exact hnew _ _ na2 ga2
              · exact news_keeps N12 k13 p hm
            walk_at "go"
            have hrh : r0 ≠ hp := fun e => by rw [e, N12.get (.tail _ (.head _))] at nr; cases nr
            have hrL : r0 ≠ L := (hnew _ _ nr gr).2.1
            have hcn2 : ∀ p ∈ ((al, listOf (ys.map (·.1)).toArray (n2 + 1)) :: (I, o) :: (frs ++ ((a1, chipO (y.2.1 - 1) (min y.2.2 r.2.2) u1 u2 0) :: (a2, chipO (y.2.1 + 1) (max y.2.2 r.2.2) u3 u4 0) :: cs)) : List (Addr × Obj)), p.1 ≠ hp := by
              intro p hp1
              have : p = (a1, chipO (y.2.1 - 1) (min y.2.2 r.2.2) u1 u2 0) ∨ p = (a2, chipO (y.2.1 + 1) (max y.2.2 r.2.2) u3 u4 0) ∨ p ∈ ((al, listOf (ys.map (·.1)).toArray (n2 + 1)) :: (I, o) :: (frs ++ cs) : List (Addr × Obj)) := mem3 (Sub.at (by walk_at "memb") p hp1)
              intro e
              rcases this with rfl | rfl | hm
              · rw [show a1 = hp from e, N12.get (.tail _ (.head _))] at na1; cases na1
              · rw [show a2 = hp from e, N12.get (.tail _ (.head _))] at na2; cases na2
              · rcases List.mem_cons.mp hm with rfl | hm
                · exact hhl e.symm
                rcases List.mem_cons.mp hm with rfl | hm
                · exact hhI e.symm
                rcases List.mem_append.mp hm with hm | hm
                · exact hfh p hm e
                · exact (hcn p hm).1 e
            have hlp : zs'.length + 1 = zr.length + 1 := by simpa using hpp.length_eq
            have hCz : ∀ z ∈ zs', ChipC g cs z := fun z hz => hC z (List.mem_append_right _ (hpp.subset (.tail _ hz)))
            generalize hcs2 : ((a1, chipO (y.2.1 - 1) (min y.2.2 r.2.2) u1 u2 0) :: (a2, chipO (y.2.1 + 1) (max y.2.2 r.2.2) u3 u4 0) :: cs : List (Addr × Obj)) = cs2 at *
            have hc1 : ChipC g cs2 (Value.ref a1, y.2.1 - 1, min y.2.2 r.2.2) := ⟨a1, u1, u2, 0, rfl, .inr (by rw [← hcs2]; exact .head _)⟩
            have hc2 : ChipC g cs2 (Value.ref a2, y.2.1 + 1, max y.2.2 r.2.2) := ⟨a2, u3, u4, 0, rfl, .inr (by rw [← hcs2]; exact .tail _ (.head _))⟩
            have hsub : ∀ p ∈ cs, p ∈ cs2 := fun p hp1 => by rw [← hcs2]; exact .tail _ (.tail _ hp1)
            refine loop_list (l := r0) (vs := [Value.ref a1, Value.ref a2]) (nl := 0) (LeastBack hp al ys n2 I o frs cs2 t a1 y r a2 zs') R.deeper.handled gr hrL F13 N13 ⟨zs', n9, _, rfl, rfl, rfl, rfl, hph, by simp⟩ ?_ ?_
            · rintro i2 v m news₁ h14 tk14 own I2 hv ⟨zq, nq, tq, rfl, m1, m2, m3, hHq, hPq⟩ hneI3 hown F14 N14
              replace F14 : Fr g L h14 _ := F14
              replace N14 : News g L h14 _ := N14
              rw [set_has m1, set_has m2, set_has m3] at F14
              have hhI2 : hp ≠ I2 := hneI3 _ (.head _)
              have hoh : ∀ p ∈ own, p.1 ≠ hp := fun p hp1 => by
                rcases hown p hp1 with e | e
                · rw [e]; exact hhI2.symm
                · rw [e]; exact hrh
              obtain ⟨z, hz, rfl⟩ : ∃ z : Z, ([(Value.ref a1, y.2.1 - 1, min y.2.2 r.2.2), (Value.ref a2, y.2.1 + 1, max y.2.2 r.2.2)] : List Z)[i2]? = some z ∧ z.1 = v := by
                rcases i2 with _ | _ | i2
                · exact ⟨_, rfl, Option.some.inj hv⟩
                · exact ⟨_, rfl, Option.some.inj hv⟩
                · simp at hv
              have hzc : ChipC g cs2 z := by
                have := List.mem_of_getElem? hz
                rcases List.mem_cons.mp this with rfl | this
                · exact hc1
                · cases List.mem_singleton.mp this; exact hc2
              have hqc : ∀ q ∈ zq, ChipC g cs2 q := by
                intro q hq
                rcases List.mem_append.mp (hPq.subset hq) with h9 | h9
                · rcases List.mem_cons.mp (List.mem_of_mem_take h9) with rfl | h9
                  · exact hc1
                  · cases List.mem_singleton.mp h9; exact hc2
                · exact (hCz q h9).mono hsub
              have hlq : zq.length ≤ 90 := by
                rw [hPq.length_eq, List.length_append, List.length_take]
                simp only [List.length_cons, List.length_nil] at hlen0 ⊢
                omega
              have N15 := news_sub (l' := (hp, listOf (zq.map (·.1)).toArray nq) :: (al, listOf (ys.map (·.1)).toArray (n2 + 1)) :: (I, o) :: (frs ++ (cs2 ++ own))) N14 (by walk_at "memb")
              walk_at "go"
              refine heappush_call (zs := zq) (x := z) (Gg.fr F14) (R.deeper.le (by omega)) hnh (N15.get (.head _)) (fun q hq => (hqc q hq).chip F14 N15 (by walk_at "memb")) (hzc.chip F14 N15 (by walk_at "memb")) hlq ?_
              intro h16 tk16 n16 e16 g16
              have F16 := fr_ext F14 e16 (fun hm => by cases List.mem_singleton.mp hm; exact (N15 _ (.head _)).2.1 rfl) (fun a ha => by cases List.mem_singleton.mp ha; exact hgh)
              have N16 := news_ext N15 (fun p hp1 => by
                rcases List.mem_append.mp ((show Sub _ (own ++ ((al, listOf (ys.map (·.1)).toArray (n2 + 1)) :: (I, o) :: (frs ++ cs2))) from by walk_at "memb") p hp1) with hp1 | hp1
                · exact hoh p hp1
                · exact hcn2 p hp1) e16 g16
              walk_at "go"
              refine turn_next (news := (hp, listOf ((sd ltZ z 0 zq.length (zq ++ [z])).map (·.1)).toArray n16) :: (al, listOf (ys.map (·.1)).toArray (n2 + 1)) :: (I, o) :: (frs ++ cs2)) F16 (news_sub N16 (by walk_at "memb")) ?_ ⟨_, n16, tq, rfl, rfl, rfl, rfl, push_heap swo_ltZ hHq, ?_⟩
              · intro p hp1
                have : p.1 ≠ I2 := by
                  rcases List.mem_cons.mp hp1 with rfl | hp1
                  · exact hhI2
                  · exact hneI3 p (.tail _ hp1)
                simpa using this
              · refine push_perm.trans ?_
                rw [List.take_add_one, hz]
                refine (List.Perm.cons z hPq).trans ?_
                show (z :: (_ ++ zs')).Perm ((_ ++ [z]) ++ zs')
                rw [List.append_assoc]
                exact List.perm_middle.symm
            · rintro m news₁ h14 tk14 ⟨zq, nq, tq, rfl, m1, m2, m3, hHq, hPq⟩ F14 N14
              replace F14 : Fr g L h14 _ := F14
              replace N14 : News g L h14 _ := N14
              replace hPq : zq.Perm ((Value.ref a1, y.2.1 - 1, min y.2.2 r.2.2) :: (Value.ref a2, y.2.1 + 1, max y.2.2 r.2.2) :: zs') := hPq
              walk_at "go"
              refine turn_next (news := (hp, listOf (zq.map (·.1)).toArray nq) :: (al, listOf (ys.map (·.1)).toArray (n2 + 1)) :: (frs ++ cs2)) F14 (news_sub N14 (by walk_at "memb")) ?_ ⟨zq, ys, nq, n2 + 1, t + 1, tq, cs2, rfl, m1, m2, m3, hHq, (List.pairwise_append.mp hS).1, ?_, ?_, ?_, ?_, ?_⟩
              · intro p hp1
                rw [← hcs2] at hp1
                have : p = (a1, chipO (y.2.1 - 1) (min y.2.2 r.2.2) u1 u2 0) ∨ p = (a2, chipO (y.2.1 + 1) (max y.2.2 r.2.2) u3 u4 0) ∨ p ∈ ((hp, listOf (zq.map (·.1)).toArray nq) :: (al, listOf (ys.map (·.1)).toArray (n2 + 1)) :: (frs ++ cs) : List (Addr × Obj)) := mem3 (Sub.at (by walk_at "memb") p hp1)
                have hI12 := N12.get (.tail _ (.tail _ (.head _)))
                rcases this with rfl | rfl | hm
                · intro e; rw [show a1 = I from List.mem_singleton.mp e, hI12] at na1; cases na1
                · intro e; rw [show a2 = I from List.mem_singleton.mp e, hI12] at na2; cases na2
                · exact hneI2 _ _ p hm
              · intro a ha z hz
                have h1 := hsy a ha
                rcases List.mem_cons.mp (hPq.subset hz) with rfl | h9
                · show a.2.1 ≤ y.2.1 - 1; omega
                rcases List.mem_cons.mp h9 with rfl | h9
                · show a.2.1 ≤ y.2.1 + 1; omega
                · have := place_le (hroot z (hpp.subset (.tail _ h9))); omega
              · have q1 : ((ys ++ [y]) ++ (r :: zr)).Perm (y :: r :: (ys ++ zs')) := by
                  rw [List.append_assoc]
                  refine List.perm_middle.trans (List.Perm.cons y ?_)
                  refine (List.Perm.append_left ys hpp.symm).trans List.perm_middle
                have q2 := W.perm hR (q1.map (·.2))
                have q3 : Rc t ((y.2.1, y.2.2) :: (y.2.1, r.2.2) :: (ys ++ zs').map (·.2)) := by
                  have e1 : (y.2.1, y.2.2) = y.2 := rfl
                  have e2 : (y.2.1, r.2.2) = r.2 := by rw [hye]
                  rw [e1, e2]; exact q2
                have q4 : (ys ++ zq).Perm ((Value.ref a1, y.2.1 - 1, min y.2.2 r.2.2) :: (Value.ref a2, y.2.1 + 1, max y.2.2 r.2.2) :: (ys ++ zs')) :=
                  (List.Perm.append_left ys hPq).trans (List.perm_middle.trans (List.Perm.cons _ List.perm_middle))
                exact W.perm (W.fire q3) (q4.symm.map (fun z : Z => z.2))
              · simp at hit ⊢; omega
              · intro z hz
                rcases List.mem_append.mp hz with hz | hz
                · exact (hC z (by simp [hz])).mono hsub
                rcases List.mem_cons.mp (hPq.subset hz) with rfl | h9
                · exact hc1
                rcases List.mem_cons.mp h9 with rfl | h9
                · exact hc2
                · exact (hCz z h9).mono hsub
              · intro p hp1
                rw [← hcs2] at hp1
                rcases List.mem_cons.mp hp1 with rfl | hp1
                · exact ⟨_, _, _, _, _, rfl⟩
                rcases List.mem_cons.mp hp1 with rfl | hp1
                · exact ⟨_, _, _, _, _, rfl⟩
                · exact hcs p hp1
    · rintro m news₁ h7 tk7 ⟨zs, az, n1, n2, t, tt, cs, rfl, m1, m2, m3, hH, hS, hle, hR, hit, hC, hcs⟩ F7 N7
      have q1 := W.lim hR
      have q2 := W.len hR
      simp only [List.length_map, List.length_append] at q2
      omega
end
section
open PySem PySem.W PyProof.Rows PySem.Calls
set_option Elab.async false
set_option maxRecDepth 100000
set_option maxHeartbeats 4000000
section
variable {prog : Program} {w : World} {A : Around} {E : Value → Shared → Prop} {s : Shared} {g : Heap} {L D : Addr} {m : Str → Option Value} {news rest : List (Addr × Obj)}

theorem copy_at {l : Addr} {vs : List Value} {n : Nat} {Q : Value → Shared → Prop} (F : Fr g L s.heap m) (N : News g L s.heap news) (hl : s.heap.get? l = some (listOf vs.toArray n)) (hlen : vs.length ≤ sizeLine)
    (h : ∀ D c h', Fr g L h' m → News g L h' ((D, listOf vs.toArray c) :: news) → (∀ q ∈ news, q.1 < D) → Q (.ref D) { s with heap := h' }) :
    wpAny (model prog w) A (call (.type "list") [.ref l]) Q E s := list_copyK F N (cell_isList hl) h (by simpa using hlen)
theorem extend_at {vs us : List Value} {n n2 : Nat} {b : Addr} {Q : Value → Shared → Prop} (F : Fr g L s.heap m) (N : News g L s.heap ((D, listOf vs.toArray n) :: rest)) (hr : ∀ p ∈ rest, p.1 ≠ D) (hb : s.heap.get? b = some (listOf us.toArray n2)) (hne : us ≠ []) (hlen : vs.length + us.length ≤ 1000)
    (h : ∀ h', Fr g L h' m → News g L h' ((D, listOf (vs ++ us).toArray (n + 1)) :: rest) → Q .none { s with heap := h' }) :
    wpAny (model prog w) A (call (.builtin "list.extend") [.ref D, .ref b]) Q E s := by
  have z := N (D, listOf vs.toArray n) (.head _)
  have e : sizeLine = 2 ^ 24 := rfl
  have hsz : vs.toArray.size + us.toArray.size ≤ sizeLine := by simp; omega
  refine call_meets PySem.F.slot_list_extend ⟨_, z.1, rfl⟩ PySem.F.entry_list_extend (PySem.F.args_list_extend_2 _ _) (PySem.AutoSeq1.list_extend_list_list_0 D vs.toArray n b us.toArray n2 ?_ (by simp; omega) (by omega)) ⟨z.1, hb, h _ (F.change (Heap.SameBut.update ..) z.2.1 z.2.2) (kl_turn (pre := []) (fun x => x ++ us.toArray) N (fun _ h => nomatch h) hr (by simp) ?_)⟩
  · have : Builtin.List.listTooLong (vs.toArray.size + us.toArray.size) = false := by
      unfold Builtin.List.listTooLong; simp only [gt_iff_lt, decide_eq_false_iff_not]; omega
    rw [this]; simp
  · have : us.length ≠ 0 := fun q => hne (List.length_eq_zero_iff.mp q)
    simp; exact hne
theorem rev_at {l : Addr} {vs : List Value} {n : Nat} {value slice : PySem.Expr} {u : Tok} {ops : List Value} {Q : Value → Shared → Prop} (F : Fr g L s.heap m) (N : News g L s.heap news) (hl : s.heap.get? l = some (listOf vs.toArray n)) (hlen : vs.length ≤ sizeLine)
    (h : ∀ D h', Fr g L h' m → News g L h' ((D, listOf vs.reverse.toArray 0) :: news) → (∀ p ∈ news, p.1 < D) → Q (.ref D) { s with heap := h' })
    (hs : subscripted slice false (.ref l) (.ref s.heap.objs.size) = operate ops (getItem (.ref l) (.ref s.heap.objs.size))) (ht : ∀ r, letTemporaryGo value (.ref l) r = pure ()) :
    wpAny (model prog w) A (subscriptTail value slice (.ref l) (.ref s.heap.objs.size)) Q E { s with heap := s.heap.push { cls := .type "slice", data := .fields #[.none, .none, .int (-1) u] } } :=
  krv_lit (its := vs.toArray) (zs := vs.reverse) F N (cell_isList hl) (.int _ _) rfl h hs ht (by simpa using hlen)
end
end
theorem off_W9 : True := by
  w_top off
  trivial
section
open PySem PySem.W PyProof.Rows PySem.Calls
open PySem.SeqAt
set_option Elab.async false
set_option maxRecDepth 100000
set_option maxHeartbeats 4000000
set_option linter.unusedVariables false

theorem place_ge {z r : Z} (h : gtZ z r = false) : z.2.1 ≤ r.2.1 := place_le (z := r) (r := z) h

inductive GreatTurn (hp : Addr) (al : Addr) (frs : List (Addr × Obj)) (Rc : Nat → List (Int × Int) → Prop) (g : Heap) (i : Nat) (m : Str → Option Value) (news : List (Addr × Obj)) : Prop
  | mk (zs az : List Z) (n1 n2 : Nat) (t : Nat) (tt : Tok) (cs : List (Addr × Obj)) (f1 : news = (hp, listOf (zs.map (·.1)).toArray n1) :: (al, listOf (az.map (·.1)).toArray n2) :: (frs ++ cs)) (f2 : m (Str.ofString "heap") = some (.ref hp)) (f3 : m (Str.ofString "alone") = some (.ref al)) (f4 : m (Str.ofString "times") = some (.int (t : Nat) tt)) (f5 : IsHeap gtZ zs) (f6 : az.Pairwise (fun x y => y.2.1 < x.2.1)) (f7 : (∀ a ∈ az, ∀ z ∈ zs, z.2.1 ≤ a.2.1)) (f8 : Rc t ((az ++ zs).map (·.2))) (f9 : i = az.length + 2 * t) (f10 : (∀ z ∈ az ++ zs, ChipC g cs z)) (f11 : ∀ p ∈ cs, ∃ x y t u n, p.2 = chipO x y t u n) : GreatTurn hp al frs Rc g i m news
theorem greatest_call {w : World} {h₀ : Heap} {A : Around} {s : Shared} {Q E : Value → Shared → Prop} {ca : Addr} {zs0 : List Z} {nc : Nat} {outer : List Env} {frs : List (Addr × Obj)} {n tm : Nat} {due : List (Int × Int)} {Rc : Nat → List (Int × Int) → Prop}
    (G : Gd w h₀ s.heap) (R : Rm A 10) (hA : A.frames = some outer) (O : Outs outer frs) (hfrs : ∀ p ∈ frs, s.heap.get? p.1 = some p.2) (hfn : ∀ p ∈ frs, h₀.get? p.1 = none)
    (hc : s.heap.get? ca = some (listOf (zs0.map (·.1)).toArray nc)) (hz0 : ∀ z ∈ zs0, Chip s.heap z) (W : Law n tm due Rc) (h0 : Rc 0 (zs0.map (·.2)))
    (h : ∀ (h' : Heap) (tk' : Nat) (r al : Addr) (t1 : Tok) (n1 : Nat) (zs : List Z) (frs' : List (Addr × Obj)), Ext (frs.map (·.1)) s.heap h' → SlotEq frs frs' → (∀ p ∈ frs', h'.get? p.1 = some p.2) →
      h'.get? r = some { cls := .type "tuple", data := .seq #[.int (tm : Nat) t1, .ref al] } → h'.get? al = some (listOf (zs.map (·.1)).toArray n1) → zs.map (·.2) = due → (∀ z ∈ zs, Chip h' z) → s.heap.get? r = none → s.heap.get? al = none → Q (.ref r) { s with heap := h', toks := tk' }) :
    wpAny (model Challenge.rw_pg0109_01.row.prog w) A (call (.ref 98) [.ref ca]) Q E s := by
  have hn' : ∀ a ∈ frs.map (·.1), h₀.get? a = none := by
    intro a ha
    obtain ⟨p, hp, rfl⟩ := List.mem_map.mp ha
    exact hfn p hp
  have Gg := G.hide hn'
  have X := (G.hide hn').in
  obtain ⟨loose, mean, mg, mb, T⟩ := (G.hide hn').top
  have X0 := G.in
  refine wpAny_call ?_
  revert X; k_fill; intro X
  refine' callF (binds := [(Str.ofString "chips", Value.ref ca)]) (frs.map (·.1)) X0 (T.nolimit.keeps fun b o e => of_hideAll _ e) ?ho ?hcd R.room ?hbind ?hloc ?_ ?hcell ?c2 ?c3 ?c4
  (case ho => k_is)
  (case hcd => k_is)
  (case hbind => exact BindsTo.of_eq rfl)
  (case hcell => decide)
  (case hloc => exact locs rfl)
  (case c2 => exact rfl)
  (case c3 => exact rfl)
  (case c4 => exact rfl)
  intro L h' hL F' hk'
  have N' : News (hideAll s.heap (frs.map (·.1))) L h' frs := fun p hp' =>
    ⟨hk' _ _ (hfrs p hp'), hL ▸ Nat.ne_of_lt (Heap.lt_size (hfrs p hp')), hideAll_none _ (List.mem_map_of_mem hp')⟩
  have hext : ∀ b o, b ∉ (frs.map (·.1)) → s.heap.get? b = some o → (hideAll s.heap (frs.map (·.1))).get? b = some o := fun b o n e => hideAll_get _ e n
  have hdict := O.dict
  have hnofr : ∀ b o vs n, s.heap.get? b = some o → o.data = .seq vs n → b ∉ frs.map (·.1) := by
    intro b o vs n hb hd hm
    obtain ⟨p, hp, rfl⟩ := List.mem_map.mp hm
    rw [hfrs p hp] at hb
    cases hb
    obtain ⟨es, k, e⟩ := hdict p hp
    rw [e] at hd; cases hd
  have hcg : (hideAll s.heap (frs.map (·.1))).get? ca = some (listOf (zs0.map (·.1)).toArray nc) := hext _ _ (hnofr _ _ _ _ hc rfl) hc
  have hzg : ∀ z ∈ zs0, ChipC (hideAll s.heap (frs.map (·.1))) [] z := by
    intro z hz
    obtain ⟨a, t, u, n, e1, e2⟩ := hz0 z hz
    exact ⟨a, t, u, n, e1, .inl (hext _ _ (hnofr _ _ _ _ e2 rfl) e2)⟩
  clear G X0
  generalize hideAll s.heap (frs.map (·.1)) = g at *
  have hsz : ∀ ys : List Z, ys.length ≤ 100 → (ys.map (·.1)).length ≤ sizeLine := fun ys hy => by rw [List.length_map]; show _ ≤ 2 ^ 24; omega
  have hl0 := W.len h0
  rw [List.length_map] at hl0
  have hW := W.small
  walk_at "go"
  refine copy_at (by assumption) (by assumption) (F'.keep _ _ hcg) (hsz _ (by omega)) ?_
  intro hp c1 h1 F1 N1 l1
  walk_at "go"
  rename Fr _ _ _ _ => F1'
  rename News _ _ _ _ => N1'
  rename _ ∧ _ ∧ AllLt _ _ => lt1
  rename _ ∧ AllLt _ _ => lt2
  rename_i al hb dd hcc
  refine unpackItemsN_ F1' N1' (News.isTup N1' (.head _)) R.deeper.handled rfl ?_
  intro h2 F2 N2
  walk_at "go"
  rename Fr _ _ _ _ => F3
  rename News _ _ _ _ => N3
  have hhl : hp ≠ al := Nat.ne_of_lt lt2.1
  have hfh : ∀ p ∈ frs, p.1 ≠ hp := fun p hp1 => Nat.ne_of_lt (l1 p hp1)
  have hfa : ∀ p ∈ frs, p.1 ≠ al := fun p hp1 => Nat.ne_of_lt (allLt_mem lt2.2 p hp1)
  have hgh : g.get? hp = none := (N3 _ (.tail _ (.tail _ (.head _)))).2.2
  have hga : g.get? al = none := (N3 _ (.tail _ (.head _))).2.2
  have hnh : h₀.get? hp = none := by
    cases q : h₀.get? hp with
    | none => rfl
    | some o => rw [Gg.keep _ _ q] at hgh; cases hgh
  have N4 := news_sub (l' := (hp, listOf (zs0.map (·.1)).toArray c1) :: (al, listOf #[] 0) :: frs) N3 (by walk_at "memb")
  refine heapify_call (zs := zs0) (Gg.fr F3) (R.deeper.le (by omega)) hnh (N4.get (.head _)) (fun z hz => (hzg z hz).chip F3 N4 (fun _ h => nomatch h)) (by omega) ?_
  intro h5 tk5 n5 e5 g5
  have F5 := fr_ext F3 e5 (fun hm => by cases List.mem_singleton.mp hm; exact (N4 _ (.head _)).2.1 rfl) (fun a ha => by cases List.mem_singleton.mp ha; exact hgh)
  have N5 := news_ext N4 (fun p hp1 => by
    rcases List.mem_cons.mp hp1 with rfl | hp1
    · exact hhl.symm
    · exact hfh p hp1) e5 g5
  have hH0 : IsHeap gtZ (hfy gtZ (zs0.length / 2) zs0) := hfy_heap swo_gtZ
  have hP0 : (hfy gtZ (zs0.length / 2) zs0).Perm zs0 := hfy_perm
  generalize hfy gtZ (zs0.length / 2) zs0 = zs at *
  walk_at "go"
  refine For_invV g rfl rfl ?_
  walk_at "go"
  refine range1 (by assumption) (by assumption) ?_
  intro r h5 tk5 t5 t6 F5 N5 l5 lL5
  walk_at "go"
  refine iter_range F5 N5 (.head _) (k := 40) rfl (by omega) ?_
  intro I h6 F6 N6 l6 lL6
  have hhI : hp ≠ I := Nat.ne_of_lt (l6 _ (.tail _ (.head _)))
  have haI : al ≠ I := Nat.ne_of_lt (l6 _ (.tail _ (.tail _ (.head _))))
  have hfI : ∀ p ∈ frs, p.1 ≠ I := fun p hp1 => Nat.ne_of_lt (l6 p (.tail _ (.tail _ (.tail _ hp1))))
  refine loop_rangeIt (k := 40) (news := (hp, listOf (zs.map (·.1)).toArray n5) :: (al, listOf #[] 0) :: frs) (GreatTurn hp al frs Rc g) R.deeper.handled (N6.get (.head _)) (N6.fresh (.head _)) ?_ ?_ F6 (news_sub N6 (by walk_at "memb")) ⟨zs, [], n5, 0, 0, _, [], by simp, rfl, rfl, rfl, hH0, List.Pairwise.nil, (fun _ h => nomatch h), W.perm h0 ((hP0.map _).symm), rfl, (fun z hz => hzg z (hP0.subset (by simpa using hz))), (fun _ h => nomatch h)⟩ ?_ ?_
  · exact Nat.ne_of_lt lL6
  · refine fa_cons ?_ ?_
    · exact hhI
    refine fa_cons ?_ ?_
    · exact haI
    intro p hp1
    · exact hfI p hp1
  · rintro i ti m news₁ h7 tk7 o hi ⟨zs, az, n1, n2, t, tt, cs, rfl, m1, m2, m3, hH, hS, hle, hR, hit, hC, hcs⟩ hneI F7 N7
    replace F7 : Fr g L h7 _ := F7
    replace N7 : News g L h7 _ := N7
    rw [set_has m1, set_has m2, set_has m3] at F7
    have hcn : ∀ p ∈ cs, p.1 ≠ hp ∧ p.1 ≠ al := by
      intro p hp1
      obtain ⟨x, y, t, u, k, e⟩ := hcs p hp1
      have z := (N7 p (.tail _ (.tail _ (.tail _ (List.mem_append_right _ hp1))))).1
      rw [e] at z
      have z1 := N7.get (.tail _ (.head _))
      have z2 := N7.get (.tail _ (.tail _ (.head _)))
      constructor
      · intro q; rw [q, z1] at z; have z3 := congrArg Obj.cls (Option.some.inj z); simp at z3
      · intro q; rw [q, z2] at z; have z3 := congrArg Obj.cls (Option.some.inj z); simp at z3
    have hfc : ∀ p ∈ cs, ∀ q ∈ frs, q.1 ≠ p.1 := by
      intro p hp1 q hq e9
      obtain ⟨x, y, t, u, k, e⟩ := hcs p hp1
      have z := (N7 p (.tail _ (.tail _ (.tail _ (List.mem_append_right _ hp1))))).1
      have z1 := (N7 q (.tail _ (.tail _ (.tail _ (List.mem_append_left _ hq))))).1
      rw [e9, z, e] at z1
      obtain ⟨es, k2, e2⟩ := O.dict q hq
      have e3 := congrArg Obj.data (Option.some.inj z1)
      rw [e2] at e3
      cases e3
    refine wpAny_execs_cons (wpAny_Try_except ?_)
    rcases zs with _ | ⟨r, zr⟩
    · walk_at "go"
      have N8 := news_sub (l' := frs ++ ((hp, listOf #[] n1) :: (al, listOf (az.map (·.1)).toArray n2) :: cs)) N7 (by walk_at "memb")
      refine heappop_max_empty (B := baseOf h7 L frs) (Gg.fr F7) (R.deeper.le (by omega)) (N7.get (.tail _ (.head _))) (Around.frames_deeper hA) base_stays (base_frames F7 N8 O rfl) ?_
      intro e h8 tk8 a0 hfl hsm
      refine caught_call (frs := frs) (cells := ((hp, listOf #[] n1) :: (al, listOf (az.map (·.1)).toArray n2) :: cs)) (X := "IndexError") (T' := "IndexError") (Around.frames_deeper hA) F7 N8 O ?_ hsm hfl X (topRead_of T) (by k_is) (by boot_by_name) (by decide) (by rw [isSubtype_type]; kernel_rfl) (by rw [isSubtype_type]; kernel_rfl) (by rw [isSubtype_type]; kernel_rfl) rfl rfl (by decide) ?_
      · intro p hp1 q hq
        rcases List.mem_cons.mp hp1 with rfl | hp1
        · exact hfh q hq
        rcases List.mem_cons.mp hp1 with rfl | hp1
        · exact hfa q hq
        · exact hfc p hp1 q hq
      intro h9 frs9 F9 N9 e9 O9
      walk_at "go"
      refine' rev_at (s := { heap := h9, gens := s.gens, drawn := s.drawn, toks := _, os := s.os }) (vs := az.map (·.1)) (n := n2) ?F ?N ?l ?z ?_ ?s ?t
      (case F => assumption)
      (case N => assumption)
      (case s => with_unfolding_all rfl)
      (case t => intro r; rfl)
      (case l => exact N9.get (List.mem_append_right _ (.tail _ (.head _))))
      (case z => exact hsz _ (by omega))
      intro D h10 F10' N10' l10
      walk_at "go"
      rename Fr _ _ _ _ => F10
      rename News _ _ _ _ => N10
      rename D < _ ∧ _ => lt10
      obtain ⟨ht, hdue⟩ := W.fin (t := t) (b := az.reverse.map (·.2)) (W.perm (b := az.map (·.2)) (by simpa using hR) ((List.reverse_perm az).symm.map _)) (by rw [List.pairwise_map, List.pairwise_reverse]; exact hS)
      subst ht
      have hff : ∀ D1, (∀ p ∈ frs9, p.1 < D1) → ∀ p ∈ frs, p.1 ≠ D1 := by
        intro D1 h1 p hp1
        have : p.1 ∈ frs9.map (·.1) := e9.addrs ▸ List.mem_map_of_mem hp1
        obtain ⟨q, hq, e⟩ := List.mem_map.mp this
        rw [← e]
        exact Nat.ne_of_lt (h1 q hq)
      refine LoopStepV.ret (h _ _ _ D tt 0 az.reverse frs9 (fun b o nb e => F10.keep b o (hext b o nb e)) e9 (fun p hp1 => N10.get (.tail _ (.tail _ (List.mem_append_left _ hp1)))) (N10.get (.head _)) (by rw [List.map_reverse]; exact N10.get (.tail _ (.head _))) hdue ?_ ?_ ?_)
      · intro z hz
        exact (hC z (by simpa using hz)).chip F10 N10 (by walk_at "memb")
      · exact fresh_fr hext (hff _ fun q hq => allLt_mem lt10.2 q (List.mem_append_left _ hq)) (N10.fresh (.head _))
      · exact fresh_fr hext (hff _ fun q hq => l10 q (List.mem_append_left _ hq)) (N10.fresh (.tail _ (.head _)))
    · have hlen0 := W.len hR
      simp only [List.length_map, List.length_append, List.length_cons] at hlen0
      have N8 := news_sub (l' := (hp, listOf ((r :: zr).map (·.1)).toArray n1) :: (al, listOf (az.map (·.1)).toArray n2) :: (I, o) :: (frs ++ cs)) N7 (by walk_at "memb")
      have hIo : ∀ p ∈ ((al, listOf (az.map (·.1)).toArray n2) :: (I, o) :: (frs ++ cs) : List (Addr × Obj)), p.1 ≠ hp := by
        refine fa_cons ?_ ?_
        · exact hhl.symm
        refine fa_cons ?_ ?_
        · exact hhI.symm
        intro p hp1
        rcases List.mem_append.mp hp1 with hp1 | hp1
        · exact hfh p hp1
        · exact (hcn p hp1).1
      walk_at "go"
      refine heappop_max_call (zs := r :: zr) (r := r) (Gg.fr F7) (R.deeper.le (by omega)) hnh (N8.get (.head _)) (fun z hz => (hC z (by simp only [List.mem_append]; exact .inr hz)).chip F7 N8 (by walk_at "memb")) rfl (by simp; omega) ?_
      intro h9 tk9 n9 e9 g9
      have F9 := fr_ext F7 e9 (fun hm => by cases List.mem_singleton.mp hm; exact (N8 _ (.head _)).2.1 rfl) (fun a ha => by cases List.mem_singleton.mp ha; exact hgh)
      have N9 := news_ext N8 hIo e9 g9
      have hpp := pop_perm (lt := gtZ) (zs := r :: zr) (r := r) rfl
      have hph := pop_heap swo_gtZ hH rfl
      have hroot := heap_root swo_gtZ hH rfl
      generalize hpop gtZ (r :: zr) = zs' at *
      clear N7 N8 F7
      have hsz : ∀ ys : List Z, ys.length ≤ 100 → (ys.map (·.1)).length ≤ sizeLine := fun ys hy => by rw [List.length_map]; show _ ≤ 2 ^ 24; omega
      walk_at "go"
      rename Fr _ _ _ _ => F10
      rename News _ _ _ _ => N10
      refine eq_nil (n' := 0) (N10.get (.tail _ (.tail _ (.head _)))) (N10.get (.head _)) (R.deeper.line) ?_
      have hal : ∀ p ∈ ((hp, listOf (zs'.map (·.1)).toArray n9) :: (I, o) :: (frs ++ cs) : List (Addr × Obj)), p.1 ≠ al := by
        refine fa_cons ?_ ?_
        · exact hhl
        refine fa_cons ?_ ?_
        · exact haI.symm
        intro p hp1
        rcases List.mem_append.mp hp1 with hp1 | hp1
        · exact hfa p hp1
        · exact (hcn p hp1).2
      have hneI2 : ∀ o1 o2, ∀ p ∈ ((hp, o1) :: (al, o2) :: (frs ++ cs) : List (Addr × Obj)), p.1 ∉ [I] := by
        intro o1 o2 p hp1
        have : p.1 ≠ I := by
          rcases List.mem_cons.mp hp1 with rfl | hp1
          · exact hhI
          rcases List.mem_cons.mp hp1 with rfl | hp1
          · exact haI
          · exact hneI p (.tail _ (.tail _ hp1))
        simpa using this
      have hlz : az.length ≤ 100 := by omega
      rcases List.eq_nil_or_concat az with rfl | ⟨ys, y, rfl⟩
      · rw [show (([] : List Z).map (·.1)).isEmpty = true from rfl]
        walk_at "go"
        refine append_at (by assumption) (news_sub (l' := (al, listOf (([] : List Z).map (·.1)).toArray n2) :: (hp, listOf (zs'.map (·.1)).toArray n9) :: (I, o) :: (frs ++ cs)) N10 (by walk_at "memb")) hal (hsz _ hlz) ?_
        intro h11 F11 N11
        walk_at "go"
        refine turn_next (news := (hp, listOf (zs'.map (·.1)).toArray n9) :: (al, listOf ((([] : List Z) ++ [r]).map (·.1)).toArray (n2 + 1)) :: (frs ++ cs)) F11 (news_sub N11 (by walk_at "memb")) (hneI2 _ _) ⟨zs', ([] : List Z) ++ [r], n9, n2 + 1, t, tt, cs, rfl, rfl, rfl, rfl, hph, ?_, ?_, ?_, ?_, ?_, hcs⟩
        · simp
        · intro a ha z hz
          cases List.mem_singleton.mp (by simpa using ha)
          exact place_ge (hroot z (hpp.subset (.tail _ hz)))
        · refine W.perm hR ?_
          simpa using (hpp.map (·.2)).symm
        · simp at hit ⊢; omega
        · intro z hz
          exact hC z (hpp.subset (by simpa using hz))
      · rw [show ((ys.concat y).map (·.1)).isEmpty = false from by simp]
        rw [List.concat_eq_append] at *
        have hyr : r.2.1 ≤ y.2.1 := hle y (by simp) r (by simp)
        have hsy : ∀ a ∈ ys, y.2.1 < a.2.1 := fun a ha => (List.pairwise_append.mp hS).2.2 a ha y (by simp)
        walk_at "go"
        refine item_last (vs := ys.map (·.1)) (y := y.1) (by have := N10.get (.tail _ (.tail _ (.head _))); rw [List.map_append] at this; exact this) (by simpa using hsz (ys ++ [y]) hlz) ?_ (by with_unfolding_all rfl)
        walk_at "go"
        refine item_h0 F10 ((hC y (by simp)).chip F10 N10 (by walk_at "memb")).pair ?_ (by intro a; with_unfolding_all rfl)
        intro t1
        walk_at "go"
        refine item_h0 (by assumption) ((hC r (by simp)).chip F10 N10 (by walk_at "memb")).pair ?_ (by intro a; with_unfolding_all rfl)
        intro t2
        walk_at "go"
        · rename y.2.1 ≠ r.2.1 => hne
          refine append_at (by assumption) (news_sub (l' := (al, listOf ((ys ++ [y]).map (·.1)).toArray n2) :: (hp, listOf (zs'.map (·.1)).toArray n9) :: (I, o) :: (frs ++ cs)) N10 (by walk_at "memb")) hal (hsz _ hlz) ?_
          intro h11 F11 N11
          walk_at "go"
          refine turn_next (news := (hp, listOf (zs'.map (·.1)).toArray n9) :: (al, listOf (((ys ++ [y]) ++ [r]).map (·.1)).toArray (n2 + 1)) :: (frs ++ cs)) F11 (news_sub N11 (by walk_at "memb")) (hneI2 _ _) ⟨zs', (ys ++ [y]) ++ [r], n9, n2 + 1, t, tt, cs, rfl, rfl, rfl, rfl, hph, ?_, ?_, ?_, ?_, ?_, hcs⟩
          · rw [List.pairwise_append]
            refine ⟨hS, by simp, fun a ha b hb => ?_⟩
            cases List.mem_singleton.mp hb
            rcases List.mem_append.mp ha with ha | ha
            · have := hsy a ha; omega
            · cases List.mem_singleton.mp ha; omega
          · intro a ha z hz
            have hrz := place_ge (hroot z (hpp.subset (.tail _ hz)))
            rcases List.mem_append.mp ha with ha | ha
            · have := hle a ha r (by simp); omega
            · cases List.mem_singleton.mp ha; exact hrz
          · refine W.perm hR ?_
            have e1 : ys ++ [y] ++ [r] ++ zs' = ys ++ [y] ++ (r :: zs') := by simp
            rw [e1]
            exact (List.Perm.append_left _ hpp.symm).map _
          · simp at hit ⊢; omega
          · intro z hz
            refine hC z ?_
            rw [List.append_assoc] at hz
            rcases List.mem_append.mp hz with hz | hz
            · exact List.mem_append_left _ hz
            · exact List.mem_append_right _ (hpp.subset (by simpa using hz))
        · rename Fr _ _ _ _ => F11
          rename News _ _ _ _ => N11
          refine pop_at F11 (vs := ys.map (·.1)) (y := y.1) (news_sub (l' := (al, listOf (ys.map (·.1) ++ [y.1]).toArray n2) :: (hp, listOf (zs'.map (·.1)).toArray n9) :: (I, o) :: (frs ++ cs)) N11 (by walk_at "memb")) hal (by simpa using hsz (ys ++ [y]) hlz) ?_
          intro h12 F12 N12
          have hye : y.2.1 = r.2.1 := by first | assumption | omega
          walk_at "go"
          refine parted_call (x := y) (y := r) (Gg.fr F12) (R.deeper.le (by omega)) ((hC y (by simp)).chip F12 N12 (by walk_at "memb")).pair ((hC r (by simp)).chip F12 N12 (by walk_at "memb")).pair ?_
          intro h13 tk13 r0 a1 a2 u1 u2 u3 u4 e13 gr ga1 ga2 nr na1 na2
          have k13 : ∀ c o, h12.get? c = some o → h13.get? c = some o := fun c o q => e13 c o (fun hm => nomatch hm) q
          have F13 := fr_keeps F12 k13
          have hnew : ∀ a ob, h12.get? a = none → h13.get? a = some ob → h13.get? a = some ob ∧ a ≠ L ∧ g.get? a = none := by
            intro a ob h1 h2
            obtain ⟨oL, _, _, hoL, _⟩ := F12.ns
            refine ⟨h2, (fun e => by rw [e, hoL] at h1; cases h1), ?_⟩
            cases q : g.get? a with
            | none => rfl
            | some o' => rw [F12.keep _ _ q] at h1; cases h1
          have N13 : News g L h13 ((hp, listOf (zs'.map (·.1)).toArray n9) :: (al, listOf (ys.map (·.1)).toArray (n2 + 1)) :: (I, o) :: (frs ++ ((a1, chipO (y.2.1 - 1) (min y.2.2 r.2.2) u1 u2 0) :: (a2, chipO (y.2.1 + 1) (max y.2.2 r.2.2) u3 u4 0) :: cs))) := by
            intro p hp1
            have : p = (a1, chipO (y.2.1 - 1) (min y.2.2 r.2.2) u1 u2 0) ∨ p = (a2, chipO (y.2.1 + 1) (max y.2.2 r.2.2) u3 u4 0) ∨ p ∈ ((al, listOf (ys.map (·.1)).toArray (n2 + 1)) :: (hp, listOf (zs'.map (·.1)).toArray n9) :: (I, o) :: (frs ++ cs) : List (Addr × Obj)) := mem3 (Sub.at (by walk_at "memb") p hp1)
            rcases this with rfl | rfl | hm
            · exact hnew _ _ na1 ga1
            · exact hnew _ _ na2 ga2
            · exact news_keeps N12 k13 p hm
          walk_at "go"
          have hrh : r0 ≠ hp := fun e => by rw [e, N12.get (.tail _ (.head _))] at nr; cases nr
          have hrL : r0 ≠ L := (hnew _ _ nr gr).2.1
          have hcn2 : ∀ p ∈ ((al, listOf (ys.map (·.1)).toArray (n2 + 1)) :: (I, o) :: (frs ++ ((a1, chipO (y.2.1 - 1) (min y.2.2 r.2.2) u1 u2 0) :: (a2, chipO (y.2.1 + 1) (max y.2.2 r.2.2) u3 u4 0) :: cs)) : List (Addr × Obj)), p.1 ≠ hp := by
            intro p hp1
            have : p = (a1, chipO (y.2.1 - 1) (min y.2.2 r.2.2) u1 u2 0) ∨ p = (a2, chipO (y.2.1 + 1) (max y.2.2 r.2.2) u3 u4 0) ∨ p ∈ ((al, listOf (ys.map (·.1)).toArray (n2 + 1)) :: (I, o) :: (frs ++ cs) : List (Addr × Obj)) := mem3 (Sub.at (by walk_at "memb") p hp1)
            intro e
            rcases this with rfl | rfl | hm
            · rw [show a1 = hp from e, N12.get (.tail _ (.head _))] at na1; cases na1
            · rw [show a2 = hp from e, N12.get (.tail _ (.head _))] at na2; cases na2
            · rcases List.mem_cons.mp hm with rfl | hm
              · exact hhl e.symm
              rcases List.mem_cons.mp hm with rfl | hm
              · exact hhI e.symm
              rcases List.mem_append.mp hm with hm | hm
              · exact hfh p hm e
              · exact (hcn p hm).1 e
          have hlp : zs'.length + 1 = zr.length + 1 := by simpa using hpp.length_eq
          have hCz : ∀ z ∈ zs', ChipC g cs z := fun z hz => hC z (List.mem_append_right _ (hpp.subset (.tail _ hz)))
          generalize hcs2 : ((a1, chipO (y.2.1 - 1) (min y.2.2 r.2.2) u1 u2 0) :: (a2, chipO (y.2.1 + 1) (max y.2.2 r.2.2) u3 u4 0) :: cs : List (Addr × Obj)) = cs2 at *
          have hc1 : ChipC g cs2 (Value.ref a1, y.2.1 - 1, min y.2.2 r.2.2) := ⟨a1, u1, u2, 0, rfl, .inr (by rw [← hcs2]; exact .head _)⟩
          have hc2 : ChipC g cs2 (Value.ref a2, y.2.1 + 1, max y.2.2 r.2.2) := ⟨a2, u3, u4, 0, rfl, .inr (by rw [← hcs2]; exact .tail _ (.head _))⟩
          have hsub : ∀ p ∈ cs, p ∈ cs2 := fun p hp1 => by rw [← hcs2]; exact .tail _ (.tail _ hp1)
          have ez : zs'.map (·.1) ++ [Value.ref a1, Value.ref a2] = (zs' ++ ([(Value.ref a1, y.2.1 - 1, min y.2.2 r.2.2), (Value.ref a2, y.2.1 + 1, max y.2.2 r.2.2)] : List Z)).map (·.1) := by simp
          have hlz2 : zs'.length + 2 ≤ 90 := by omega
          refine extend_at (vs := zs'.map (·.1)) (us := [Value.ref a1, Value.ref a2]) (n2 := 0) F13 N13 hcn2 gr (by simp) (by simp; omega) ?_
          intro h14 F14 N14
          rw [ez] at N14
          walk_at "go"
          refine heapify_call (zs := zs' ++ [(Value.ref a1, y.2.1 - 1, min y.2.2 r.2.2), (Value.ref a2, y.2.1 + 1, max y.2.2 r.2.2)]) (Gg.fr F14) (R.deeper.le (by omega)) hnh (N14.get (.head _)) ?_ (by simp; omega) ?_
          · intro z hz
            rcases List.mem_append.mp hz with hz | hz
            · exact ((hCz z hz).mono hsub).chip F14 N14 (by walk_at "memb")
            rcases List.mem_cons.mp hz with rfl | hz
            · exact hc1.chip F14 N14 (by walk_at "memb")
            · cases List.mem_singleton.mp hz; exact hc2.chip F14 N14 (by walk_at "memb")
          intro h16 tk16 n16 e16 g16
          have F16 := fr_ext F14 e16 (fun hm => by cases List.mem_singleton.mp hm; exact (N14 _ (.head _)).2.1 rfl) (fun a ha => by cases List.mem_singleton.mp ha; exact hgh)
          have N16 := news_ext N14 hcn2 e16 g16
          have hHq : IsHeap gtZ (hfy gtZ ((zs' ++ ([(Value.ref a1, y.2.1 - 1, min y.2.2 r.2.2), (Value.ref a2, y.2.1 + 1, max y.2.2 r.2.2)] : List Z)).length / 2) (zs' ++ [(Value.ref a1, y.2.1 - 1, min y.2.2 r.2.2), (Value.ref a2, y.2.1 + 1, max y.2.2 r.2.2)])) := hfy_heap swo_gtZ
          have hPq := (hfy_perm (lt := gtZ) (k := (zs' ++ ([(Value.ref a1, y.2.1 - 1, min y.2.2 r.2.2), (Value.ref a2, y.2.1 + 1, max y.2.2 r.2.2)] : List Z)).length / 2) (zs := zs' ++ [(Value.ref a1, y.2.1 - 1, min y.2.2 r.2.2), (Value.ref a2, y.2.1 + 1, max y.2.2 r.2.2)])).trans List.perm_append_comm
          generalize hfy gtZ ((zs' ++ ([(Value.ref a1, y.2.1 - 1, min y.2.2 r.2.2), (Value.ref a2, y.2.1 + 1, max y.2.2 r.2.2)] : List Z)).length / 2) (zs' ++ [(Value.ref a1, y.2.1 - 1, min y.2.2 r.2.2), (Value.ref a2, y.2.1 + 1, max y.2.2 r.2.2)]) = zq at *
          replace hPq : zq.Perm ((Value.ref a1, y.2.1 - 1, min y.2.2 r.2.2) :: (Value.ref a2, y.2.1 + 1, max y.2.2 r.2.2) :: zs') := hPq
          walk_at "go"
          refine turn_next (news := (hp, listOf (zq.map (·.1)).toArray n16) :: (al, listOf (ys.map (·.1)).toArray (n2 + 1)) :: (frs ++ cs2)) F16 (news_sub N16 (by walk_at "memb")) ?_ ⟨zq, ys, n16, n2 + 1, t + 1, _, cs2, rfl, rfl, rfl, rfl, hHq, (List.pairwise_append.mp hS).1, ?_, ?_, ?_, ?_, ?_⟩
          · intro p hp1
            rw [← hcs2] at hp1
            have : p = (a1, chipO (y.2.1 - 1) (min y.2.2 r.2.2) u1 u2 0) ∨ p = (a2, chipO (y.2.1 + 1) (max y.2.2 r.2.2) u3 u4 0) ∨ p ∈ ((hp, listOf (zq.map (·.1)).toArray n16) :: (al, listOf (ys.map (·.1)).toArray (n2 + 1)) :: (frs ++ cs) : List (Addr × Obj)) := mem3 (Sub.at (by walk_at "memb") p hp1)
            have hI12 := N12.get (.tail _ (.tail _ (.head _)))
            rcases this with rfl | rfl | hm
            · intro e; rw [show a1 = I from List.mem_singleton.mp e, hI12] at na1; cases na1
            · intro e; rw [show a2 = I from List.mem_singleton.mp e, hI12] at na2; cases na2
            · exact hneI2 _ _ p hm
          · intro a ha z hz
            have h1 := hsy a ha
            rcases List.mem_cons.mp (hPq.subset hz) with rfl | h9
            · show y.2.1 - 1 ≤ a.2.1; omega
            rcases List.mem_cons.mp h9 with rfl | h9
            · show y.2.1 + 1 ≤ a.2.1; omega
            · have := place_ge (hroot z (hpp.subset (.tail _ h9))); omega
          · have q1 : ((ys ++ [y]) ++ (r :: zr)).Perm (y :: r :: (ys ++ zs')) := by
              rw [List.append_assoc]
              refine List.perm_middle.trans (List.Perm.cons y ?_)
              refine (List.Perm.append_left ys hpp.symm).trans List.perm_middle
            have q2 := W.perm hR (q1.map (·.2))
            have q3 : Rc t ((y.2.1, y.2.2) :: (y.2.1, r.2.2) :: (ys ++ zs').map (·.2)) := by
              have e1 : (y.2.1, y.2.2) = y.2 := rfl
              have e2 : (y.2.1, r.2.2) = r.2 := by rw [hye]
              rw [e1, e2]; exact q2
            have q4 : (ys ++ zq).Perm ((Value.ref a1, y.2.1 - 1, min y.2.2 r.2.2) :: (Value.ref a2, y.2.1 + 1, max y.2.2 r.2.2) :: (ys ++ zs')) :=
              (List.Perm.append_left ys hPq).trans (List.perm_middle.trans (List.Perm.cons _ List.perm_middle))
            exact W.perm (W.fire q3) (q4.symm.map (fun z : Z => z.2))
          · simp at hit ⊢; omega
          · intro z hz
            rcases List.mem_append.mp hz with hz | hz
            · exact (hC z (by simp [hz])).mono hsub
            rcases List.mem_cons.mp (hPq.subset hz) with rfl | h9
            · exact hc1
            rcases List.mem_cons.mp h9 with rfl | h9
            · exact hc2
            · exact (hCz z h9).mono hsub
          · intro p hp1
            rw [← hcs2] at hp1
            rcases List.mem_cons.mp hp1 with rfl | hp1
            · exact ⟨_, _, _, _, _, rfl⟩
            rcases List.mem_cons.mp hp1 with rfl | hp1
            · exact ⟨_, _, _, _, _, rfl⟩
            · exact hcs p hp1
  · rintro m news₁ h7 tk7 ⟨zs, az, n1, n2, t, tt, cs, rfl, m1, m2, m3, hH, hS, hle, hR, hit, hC, hcs⟩ F7 N7
    have q1 := W.lim hR
    have q2 := W.len hR
    simp only [List.length_map, List.length_append] at q2
    omega
end
section
set_option maxRecDepth 100000
/-- the chips of one threshold: places from the start, and whether the label reaches it -/
abbrev St := List (Int × Bool)

noncomputable def outs1 {α : Type} : List α → List (α × List α)
  | [] => []
  | x :: r => (x, r) :: (outs1 r).map (fun p => (p.1, x :: p.2))
theorem mem_outs1 {α : Type} {x : α} {s t : List α} : (x, s ++ t) ∈ outs1 (s ++ x :: t) := by
  induction s with
  | nil => exact .head _
  | cons a s ih => exact .tail _ (List.mem_map.mpr ⟨_, ih, rfl⟩)
theorem outs1_perm {α : Type} {x : α} {b r : List α} (h : b.Perm (x :: r)) : ∃ r', (x, r') ∈ outs1 b ∧ r.Perm r' := by
  have hx : x ∈ b := h.symm.subset (.head _)
  obtain ⟨s, t, rfl⟩ := List.append_of_mem hx
  exact ⟨s ++ t, mem_outs1, (List.perm_cons x).mp (h.symm.trans List.perm_middle)⟩

noncomputable def le2 (a b : Int × Bool) : Bool := decide (a.1 < b.1) || (decide (a.1 = b.1) && (!a.2 || b.2))
noncomputable def ins (x : Int × Bool) : St → St
  | [] => [x]
  | y :: r => if le2 x y then x :: y :: r else y :: ins x r
theorem ins_perm (x : Int × Bool) : ∀ b, (ins x b).Perm (x :: b)
  | [] => List.Perm.refl _
  | y :: r => by
    rw [ins]; split
    · exact List.Perm.refl _
    · exact (List.Perm.cons y (ins_perm x r)).trans (List.Perm.swap x y r)
noncomputable def fires (b : St) : List St := (outs1 b).flatMap fun p => (outs1 p.2).filterMap fun q =>
  if p.1.1 = q.1.1 then some (ins (p.1.1 - 1, p.1.2 && q.1.2) (ins (p.1.1 + 1, p.1.2 || q.1.2) q.2)) else none
theorem fires_perm {b r : St} {p : Int} {x y : Bool} (h : b.Perm ((p, x) :: (p, y) :: r)) : ∃ b' ∈ fires b, ((p - 1, x && y) :: (p + 1, x || y) :: r).Perm b' := by
  obtain ⟨r1, h1, h2⟩ := outs1_perm h
  obtain ⟨r2, h3, h4⟩ := outs1_perm h2.symm
  refine ⟨ins (p - 1, x && y) (ins (p + 1, x || y) r2), ?_, ?_⟩
  · exact List.mem_flatMap.mpr ⟨_, h1, List.mem_filterMap.mpr ⟨_, h3, if_pos rfl⟩⟩
  · refine (List.Perm.symm ?_)
    refine (ins_perm _ _).trans (List.Perm.cons _ ((ins_perm _ _).trans (List.Perm.cons _ h4.symm)))

noncomputable def dedup : List St → List St
  | [] => []
  | x :: r => if (dedup r).elem x then dedup r else x :: dedup r
theorem mem_dedup {x : St} : ∀ {l : List St}, x ∈ l → x ∈ dedup l
  | y :: r, h => by
    rw [dedup]
    rcases List.mem_cons.mp h with rfl | h
    · split
      · rename_i e; exact List.elem_iff.mp e
      · exact .head _
    · split
      · exact mem_dedup h
      · exact .tail _ (mem_dedup h)
noncomputable def layer (b : St) : Nat → List St
  | 0 => [b]
  | t + 1 => dedup ((layer b t).flatMap fires)
theorem layer_step {b c d : St} {t : Nat} (h : c ∈ layer b t) (hd : d ∈ fires c) : d ∈ layer b (t + 1) :=
  mem_dedup (List.mem_flatMap.mpr ⟨_, h, hd⟩)
noncomputable def st0 (n k : Nat) : St := List.replicate (n - k) (0, false) ++ List.replicate k (0, true)
noncomputable def incr : List Bool → Bool
  | x :: y :: r => (!x || y) && incr (y :: r)
  | _ => true
noncomputable def distinct : List Int → Bool
  | [] => true
  | x :: r => !(r.elem x) && distinct r
/-- what is asked of one threshold's states: they end at tm, and only there no two chips share a place -/
noncomputable def okS (n tm : Nat) (pl : List Int) (k : Nat) : Bool :=
  (layer (st0 n k) (tm + 1)).isEmpty && (List.range (tm + 1)).all fun t => (layer (st0 n k) t).all fun b =>
    !(distinct (b.map (·.1))) || (decide (t = tm) && decide (b.map (·.1) = pl) && incr (b.map (·.2)))
noncomputable def okL (tm : Nat) (pl : List Int) (t : Nat) (l : List St) : Bool := l.all fun b =>
  !(distinct (b.map (·.1))) || (decide (t = tm) && decide (b.map (·.1) = pl) && incr (b.map (·.2)))
/-- the layers one behind the other, each looked at once -/
noncomputable def chkL (tm : Nat) (pl : List Int) : Nat → Nat → List St → Bool
  | 0, _, l => l.isEmpty
  | f + 1, t, l => okL tm pl t l && chkL tm pl f (t + 1) (dedup (l.flatMap fires))
theorem chkL_ok {tm : Nat} {pl : List Int} {b : St} : ∀ (f t : Nat), chkL tm pl f t (layer b t) = true → (layer b (t + f)).isEmpty = true ∧ ∀ u, t ≤ u → u < t + f → okL tm pl u (layer b u) = true
  | 0, t, h => ⟨h, fun u h1 h2 => by omega⟩
  | f + 1, t, h => by
    simp only [chkL, Bool.and_eq_true] at h
    have ih := chkL_ok f (t + 1) h.2
    rw [show t + 1 + f = t + (f + 1) by omega] at ih
    refine ⟨ih.1, fun u h1 h2 => ?_⟩
    by_cases e : u = t
    · rw [e]; exact h.1
    · exact ih.2 u (by omega) (by omega)
theorem okS_of {n tm : Nat} {pl : List Int} {k : Nat} (h : chkL tm pl (tm + 1) 0 [st0 n k] = true) : okS n tm pl k = true := by
  have := chkL_ok (b := st0 n k) (tm + 1) 0 h
  rw [Nat.zero_add] at this
  rw [okS, Bool.and_eq_true]
  refine ⟨this.1, List.all_eq_true.mpr fun t ht => ?_⟩
  exact this.2 t (Nat.zero_le _) (List.mem_range.mp ht)
theorem ok4 : (List.range 5).all (okS 4 5 [-2, -1, 1, 2]) = true := by decide +kernel
theorem ok60 : chkL 14 [-3, -2, -1, 1, 2, 3] 15 0 [st0 6 0] = true := by decide +kernel
theorem ok61 : chkL 14 [-3, -2, -1, 1, 2, 3] 15 0 [st0 6 1] = true := by decide +kernel
theorem ok62 : chkL 14 [-3, -2, -1, 1, 2, 3] 15 0 [st0 6 2] = true := by decide +kernel
theorem ok63 : chkL 14 [-3, -2, -1, 1, 2, 3] 15 0 [st0 6 3] = true := by decide +kernel
theorem ok64 : chkL 14 [-3, -2, -1, 1, 2, 3] 15 0 [st0 6 4] = true := by decide +kernel
theorem ok65 : chkL 14 [-3, -2, -1, 1, 2, 3] 15 0 [st0 6 5] = true := by decide +kernel
theorem ok66 : chkL 14 [-3, -2, -1, 1, 2, 3] 15 0 [st0 6 6] = true := by decide +kernel
theorem ok6 : (List.range 7).all (okS 6 14 [-3, -2, -1, 1, 2, 3]) = true := by
  show (okS _ _ _ 0 && (okS _ _ _ 1 && (okS _ _ _ 2 && (okS _ _ _ 3 && (okS _ _ _ 4 && (okS _ _ _ 5 && (okS _ _ _ 6 && true))))))) = true
  rw [okS_of ok60, okS_of ok61, okS_of ok62, okS_of ok63, okS_of ok64, okS_of ok65, okS_of ok66]
  rfl
end
section
set_option maxRecDepth 100000
noncomputable def proj (s th : Int) (c : Int × Int) : Int × Bool := (c.1 - s, decide (th ≤ c.2))
noncomputable def Reach (n : Nat) (s : Int) (ls : List Int) (t : Nat) (b : List (Int × Int)) : Prop :=
  (b.map (·.2)).Perm ls ∧ ∀ th, ∃ k, k ≤ n ∧ ∃ b' ∈ layer (st0 n k) t, (b.map (proj s th)).Perm b'

theorem min_dec {th a b : Int} : decide (th ≤ min a b) = (decide (th ≤ a) && decide (th ≤ b)) := by
  rw [← Bool.decide_and]; exact decide_eq_decide.mpr (by omega)
theorem max_dec {th a b : Int} : decide (th ≤ max a b) = (decide (th ≤ a) || decide (th ≤ b)) := by
  rw [← Bool.decide_or]; exact decide_eq_decide.mpr (by omega)
theorem reach_fire {n t : Nat} {s p a b : Int} {ls : List Int} {r : List (Int × Int)} (h : Reach n s ls t ((p, a) :: (p, b) :: r)) : Reach n s ls (t + 1) ((p - 1, min a b) :: (p + 1, max a b) :: r) := by
  obtain ⟨h1, h2⟩ := h
  refine ⟨?_, fun th => ?_⟩
  · refine List.Perm.trans ?_ h1
    show (min a b :: max a b :: r.map (·.2)).Perm (a :: b :: r.map (·.2))
    rcases Int.le_total a b with e | e
    · rw [Int.min_eq_left e, Int.max_eq_right e]
    · rw [Int.min_eq_right e, Int.max_eq_left e]; exact List.Perm.swap ..
  · obtain ⟨k, hk, b', hb, hp⟩ := h2 th
    obtain ⟨d, hd, hpd⟩ := fires_perm (p := p - s) (x := decide (th ≤ a)) (y := decide (th ≤ b)) (r := r.map (proj s th)) hp.symm
    refine ⟨k, hk, d, layer_step hb hd, ?_⟩
    have e : ((p - 1, min a b) :: (p + 1, max a b) :: r).map (proj s th) = (p - s - 1, decide (th ≤ a) && decide (th ≤ b)) :: (p - s + 1, decide (th ≤ a) || decide (th ≤ b)) :: r.map (proj s th) := by
      simp only [List.map_cons, proj, min_dec, max_dec]
      rw [show p - 1 - s = p - s - 1 by omega, show p + 1 - s = p - s + 1 by omega]
    rw [e]; exact hpd
theorem bools_perm : ∀ l : List Bool, ∃ k, k ≤ l.length ∧ l.Perm (List.replicate (l.length - k) false ++ List.replicate k true)
  | [] => ⟨0, Nat.le_refl _, .refl _⟩
  | b :: r => by
    obtain ⟨k, hk, hp⟩ := bools_perm r
    cases b with
    | false =>
      refine ⟨k, by simp; omega, ?_⟩
      have e : (false :: r).length - k = (r.length - k) + 1 := by simp; omega
      rw [e, List.replicate_succ]
      exact List.Perm.cons _ hp
    | true =>
      refine ⟨k + 1, by simp; omega, ?_⟩
      have e : (true :: r).length - (k + 1) = r.length - k := by simp
      rw [e, List.replicate_succ]
      exact (List.Perm.cons _ hp).trans List.perm_middle.symm
theorem reach_0 {n : Nat} {s : Int} {ls : List Int} (hn : ls.length = n) : Reach n s ls 0 (ls.map fun l => (s, l)) := by
  refine ⟨by simp [Function.comp_def], fun th => ?_⟩
  obtain ⟨k, hk, hp⟩ := bools_perm (ls.map fun l => decide (th ≤ l))
  rw [List.length_map, hn] at hk hp
  refine ⟨k, hk, _, .head _, ?_⟩
  have := hp.map (fun b => ((0 : Int), b))
  rw [List.map_map, List.map_append, List.map_replicate, List.map_replicate] at this
  rw [List.map_map]
  refine List.Perm.trans (List.Perm.of_eq ?_) this
  apply List.map_congr_left
  intro l _
  simp [proj]
theorem incr_sorted : ∀ {ls : List Int}, (∀ th, incr (ls.map fun l => decide (th ≤ l)) = true) → ls.Pairwise (· ≤ ·)
  | [], _ => .nil
  | [x], _ => List.pairwise_singleton ..
  | x :: y :: r, h => by
    have hr : (y :: r).Pairwise (· ≤ ·) := incr_sorted fun th => by
      have := h th
      simp only [List.map_cons, incr, Bool.and_eq_true] at this ⊢
      exact this.2
    have hxy : x ≤ y := by
      have := h x
      simp only [List.map_cons, incr, Bool.and_eq_true] at this
      simpa using this.1
    refine List.pairwise_cons.mpr ⟨fun z hz => ?_, hr⟩
    rcases List.mem_cons.mp hz with rfl | hz
    · exact hxy
    · exact Int.le_trans hxy ((List.pairwise_cons.mp hr).1 z hz)
theorem distinct_of : ∀ {l : List Int}, l.Nodup → distinct l = true
  | [], _ => rfl
  | x :: r, h => by
    have ⟨h1, h2⟩ := List.nodup_cons.mp h
    simp [distinct, h1, distinct_of h2]
theorem zip_back : ∀ b : List (Int × Int), b = List.zip (b.map (·.1)) (b.map (·.2))
  | [] => rfl
  | x :: r => by rw [List.map_cons, List.map_cons, List.zip_cons_cons, ← zip_back r]
theorem layer_none {c : St} : ∀ {t u : Nat}, (layer c t).isEmpty = true → t ≤ u → layer c u = []
  | t, u, h, hu => by
    induction u with
    | zero => have : t = 0 := by omega
              subst this; simpa using h
    | succ u ih =>
      by_cases e : t = u + 1
      · subst e; simpa using h
      · rw [layer, ih (by omega)]; rfl

theorem reach_law {n tm : Nat} {pl : List Int} {s : Int} {ls sl : List Int} (hok : (List.range (n + 1)).all (okS n tm pl) = true) (hn : ls.length = n) (hp : pl.Pairwise (· < ·)) (hs : sl.Perm ls) (hss : sl.Pairwise (· ≤ ·)) (hsm : n ≤ 6 ∧ tm ≤ 14) :
    Law n tm (List.zip (pl.map (fun k => s + k)) sl) (Reach n s ls) := by
  have hk : ∀ k, k ≤ n → okS n tm pl k = true := fun k hk => List.all_eq_true.mp hok k (List.mem_range.mpr (by omega))
  have hlim : ∀ {t b}, Reach n s ls t b → t ≤ tm := by
    intro t b h
    obtain ⟨k, hkn, b', hb, _⟩ := h.2 0
    have := hk k hkn
    rw [okS, Bool.and_eq_true] at this
    by_cases e : t ≤ tm
    · exact e
    · rw [layer_none this.1 (by omega)] at hb; cases hb
  refine ⟨fun h e => ⟨((e.map _).symm).trans h.1, fun th => ?_⟩, reach_fire, fun h => ?_, hlim, fun {t b} h hb => ?_, hsm⟩
  · obtain ⟨k, hkn, b', hb, q⟩ := h.2 th
    exact ⟨k, hkn, b', hb, ((e.map _).symm).trans q⟩
  · rw [← hn, ← h.1.length_eq, List.length_map]
  · have main : ∀ th, t = tm ∧ b.map (·.1) = pl.map (fun k => s + k) ∧ incr ((b.map (·.2)).map fun l => decide (th ≤ l)) = true := by
      intro th
      obtain ⟨k, hkn, b', hb', q⟩ := h.2 th
      have h1 := hk k hkn
      rw [okS, Bool.and_eq_true] at h1
      have h2 := List.all_eq_true.mp (List.all_eq_true.mp h1.2 t (List.mem_range.mpr (by have := hlim h; omega))) b' hb'
      have hc : (b.map (proj s th)).Pairwise (fun x y => x.1 < y.1) := by
        rw [List.pairwise_map]
        exact hb.imp (fun {x y} e => by show x.1 - s < y.1 - s; omega)
      have hd : distinct (b'.map (·.1)) = true := by
        refine distinct_of (((q.map (·.1)).nodup_iff).mp ?_)
        exact List.Pairwise.imp (fun {x y} (e : x < y) => by omega) (List.pairwise_map.mpr hc)
      rw [hd] at h2
      simp only [Bool.not_true, Bool.false_or, Bool.and_eq_true, decide_eq_true_eq] at h2
      obtain ⟨⟨h3, h4⟩, h5⟩ := h2
      have hc' : b'.Pairwise (fun x y => x.1 < y.1) := List.pairwise_map.mp (h4 ▸ hp)
      have e : b.map (proj s th) = b' := List.Perm.eq_of_pairwise (le := fun x y => x.1 < y.1) (fun x y _ _ h1 h2 => by omega) hc hc' q
      refine ⟨h3, ?_, ?_⟩
      · rw [← h4, ← e, List.map_map, List.map_map]
        apply List.map_congr_left
        intro x _
        simp [proj]; omega
      · rw [← e, List.map_map] at h5
        rw [List.map_map]
        exact h5
    have hsn : (b.map (·.2)) = sl := List.Perm.eq_of_pairwise (le := (· ≤ ·)) (fun x y _ _ h1 h2 => by omega) (incr_sorted fun th => (main th).2.2) hss (h.1.trans hs.symm)
    refine ⟨(main 0).1, ?_⟩
    rw [zip_back b, hsn, (main 0).2.1]
theorem law4 {s : Int} {ls sl : List Int} (hn : ls.length = 4) (hs : sl.Perm ls) (hss : sl.Pairwise (· ≤ ·)) : Law 4 5 (List.zip ([-2, -1, 1, 2].map (fun k => s + k)) sl) (Reach 4 s ls) :=
  reach_law ok4 hn (by decide) hs hss (by decide)
theorem law6 {s : Int} {ls sl : List Int} (hn : ls.length = 6) (hs : sl.Perm ls) (hss : sl.Pairwise (· ≤ ·)) : Law 6 14 (List.zip ([-3, -2, -1, 1, 2, 3].map (fun k => s + k)) sl) (Reach 6 s ls) :=
  reach_law ok6 hn (by decide) hs hss (by decide)
end
section
set_option maxRecDepth 100000
section
variable {α β : Type} [DecidableEq β] {key : α → β}

theorem uld_perm {eq : α → α → Bool} (he : ∀ y x, eq y x = decide (key y = key x)) : ∀ (es mi as : List α), (((uld eq es mi as).1 ++ as).map key).Perm ((mi ++ es ++ (uld eq es mi as).2).map key)
  | [], mi, as => by rw [uld, List.append_nil]
  | x :: r, mi, as => by
    rw [uld]
    split
    · rename_i j hj
      obtain ⟨hjl, hj1, hj2⟩ := List.findIdx?_eq_some_iff_getElem.mp hj
      rw [he, decide_eq_true_eq] at hj1
      have ih := uld_perm he r mi (as.eraseIdx j)
      have e1 : (as.map key).Perm (key x :: (as.eraseIdx j).map key) := by
        have := (get_cons_erase (zs := as) (p := as[j]) (List.getElem?_eq_getElem hjl)).map key
        rw [List.map_cons, hj1] at this
        exact this.symm
      simp only [List.map_append, List.map_cons] at ih ⊢
      refine (List.Perm.append_left _ e1).trans (List.perm_middle.trans ((List.Perm.cons _ ih).trans ?_))
      rw [List.append_assoc, List.append_assoc]
      exact List.perm_middle.symm
    · have ih := uld_perm he r (mi ++ [x]) as
      simp only [List.map_append, List.map_cons, List.append_assoc, List.map_nil, List.cons_append, List.nil_append] at ih ⊢
      exact ih

theorem uld_none {eq : α → α → Bool} (he : ∀ y x, eq y x = decide (key y = key x)) : ∀ (es mi as : List α), (as.map key).Nodup → (∀ a ∈ as, key a ∈ es.map key) → (uld eq es mi as).2 = []
  | [], mi, as, _, h => by
    rw [uld]
    cases as with
    | nil => rfl
    | cons a r => exact absurd (h a (.head _)) (by simp)
  | x :: r, mi, as, hn, h => by
    rw [uld]
    split
    · rename_i j hj
      obtain ⟨hjl, hj1, hj2⟩ := List.findIdx?_eq_some_iff_getElem.mp hj
      rw [he, decide_eq_true_eq] at hj1
      have e1 : (key x :: (as.eraseIdx j).map key).Perm (as.map key) := by
        have := (get_cons_erase (zs := as) (p := as[j]) (List.getElem?_eq_getElem hjl)).map key
        rw [List.map_cons, hj1] at this
        exact this
      have hn2 := e1.nodup_iff.mpr hn
      rw [List.nodup_cons] at hn2
      refine uld_none he r mi _ hn2.2 fun a ha => ?_
      have := h a (List.mem_of_mem_eraseIdx ha)
      rw [List.map_cons] at this
      rcases List.mem_cons.mp this with e | e
      · exact absurd (e ▸ List.mem_map_of_mem ha) hn2.1
      · exact e
    · rename_i hj
      refine uld_none he r _ as hn fun a ha => ?_
      have := h a ha
      rw [List.map_cons] at this
      rcases List.mem_cons.mp this with e | e
      · have := List.findIdx?_eq_none_iff.mp hj a ha
        rw [he, decide_eq_false_iff_not] at this
        exact absurd e this
      · exact e

theorem uld_all {eq : α → α → Bool} (he : ∀ y x, eq y x = decide (key y = key x)) : ∀ (es mi as : List α) (rs : List β), (as.map key).Perm (es.map key ++ rs) → (uld eq es mi as).1 = mi ∧ ((uld eq es mi as).2.map key).Perm rs
  | [], mi, as, rs, h => by rw [uld]; exact ⟨rfl, by simpa using h⟩
  | x :: r, mi, as, rs, h => by
    have hx : key x ∈ as.map key := h.symm.subset (by simp)
    rw [uld]
    split
    · rename_i j hj
      obtain ⟨hjl, hj1, hj2⟩ := List.findIdx?_eq_some_iff_getElem.mp hj
      rw [he, decide_eq_true_eq] at hj1
      refine uld_all he r mi _ rs ((List.perm_cons (key x)).mp (List.Perm.trans ?_ h))
      have := (get_cons_erase (zs := as) (p := as[j]) (List.getElem?_eq_getElem hjl)).map key
      rw [List.map_cons, hj1] at this
      exact this
    · rename_i hj
      obtain ⟨a, ha, e⟩ := List.mem_map.mp hx
      have := List.findIdx?_eq_none_iff.mp hj a ha
      rw [he, decide_eq_false_iff_not] at this
      exact absurd e this

theorem uld_mem2 {eq : α → α → Bool} : ∀ (es mi as : List α), ∀ v ∈ (uld eq es mi as).2, v ∈ as
  | [], mi, as, v, h => by rw [uld] at h; exact h
  | x :: r, mi, as, v, h => by
    rw [uld] at h
    split at h
    · exact List.mem_of_mem_eraseIdx (uld_mem2 r _ _ v h)
    · exact uld_mem2 r _ _ v h
theorem uld_mem1 {eq : α → α → Bool} : ∀ (es mi as : List α), ∀ v ∈ (uld eq es mi as).1, v ∈ mi ∨ v ∈ es
  | [], mi, as, v, h => by rw [uld] at h; exact .inl h
  | x :: r, mi, as, v, h => by
    rw [uld] at h
    split at h
    · rcases uld_mem1 r _ _ v h with h | h
      · exact .inl h
      · exact .inr (.tail _ h)
    · rcases uld_mem1 r _ _ v h with h | h
      · rcases List.mem_append.mp h with h | h
        · exact .inl h
        · exact .inr (by rw [List.mem_singleton.mp h]; exact .head _)
      · exact .inr (.tail _ h)
end

/-- two of a place that is told more than once -/
theorem twice {ts sp ps : List Int} {x : Int} (h : (sp ++ ps).Perm ts) (hx : x ∈ sp) (hp : ∀ x, x ∈ ps ↔ x ∈ ts) : 2 ≤ ts.count x := by
  have h1 : ts.count x = sp.count x + ps.count x := by rw [← h.count_eq, List.count_append]
  have h2 : 0 < sp.count x := List.count_pos_iff.mpr hx
  have h3 : 0 < ps.count x := List.count_pos_iff.mpr ((hp x).mpr (h.subset (List.mem_append_left _ hx)))
  omega
theorem filter_count {bs : List Z} {x : Int} : (bs.filter fun z => decide (z.2.1 = x)).length = (bs.map fun z => z.2.1).count x := by
  induction bs with
  | nil => rfl
  | cons b r ih =>
    rw [List.map_cons, List.count_cons, List.filter_cons]
    by_cases h : b.2.1 = x
    · simp [h, ih]
    · simp [h, ih]
theorem filter_two {α : Type} {p : α → Bool} {bs : List α} {i j : Nat} {one other : α} (h1 : (bs.filter p)[i]? = some one) (h2 : ((bs.filter p).eraseIdx i)[j]? = some other) : ∃ r, bs.Perm (one :: other :: r) := by
  have e1 := get_cons_erase h1
  have e2 := get_cons_erase h2
  have e3 := List.filter_append_perm p bs
  refine ⟨((bs.filter p).eraseIdx i).eraseIdx j ++ bs.filter (fun x => !p x), ?_⟩
  refine e3.symm.trans ?_
  refine (List.Perm.append_right _ ((List.Perm.cons one e2).trans e1).symm).trans ?_
  exact List.Perm.refl _
theorem pick_zs {bs : List Z} : ∀ {vs : List PySem.Value}, (∀ v ∈ vs, v ∈ bs.map (·.1)) → ∃ zs : List Z, vs = zs.map (·.1) ∧ ∀ z ∈ zs, z ∈ bs
  | [], _ => ⟨[], rfl, fun _ h => nomatch h⟩
  | v :: vs, h => by
    obtain ⟨z, hz, e⟩ := List.mem_map.mp (h v (.head _))
    obtain ⟨zs, e1, e2⟩ := pick_zs (bs := bs) (vs := vs) fun v hv => h v (.tail _ hv)
    refine ⟨z :: zs, by rw [List.map_cons, ← e1, e], fun y hy => ?_⟩
    rcases List.mem_cons.mp hy with rfl | hy
    · exact hz
    · exact e2 y hy
end
section
open PySem PySem.W PyProof.Rows PySem.Calls
open PyProof.Rows.LCg PyProof.Rows.LCt
set_option Elab.async false
set_option maxRecDepth 100000
set_option maxHeartbeats 4000000
/-- callF for a def with cell variables -/
theorem callFC {prog : Program} {w : World} {A : Around} {s : Shared} {K : Frag} {R : Result → Shared → Prop} {name qual : Str} {params : Arguments} {body : List Stmt} {scope : Scope} {dV kV doc pm cdv ct oc : Value} {an od : Option Addr} {osl : Array (Option Value)} {f : Addr} {args : Args} {binds : List (Str × Value)}
    (own : List Addr) (X : K.In s.heap) (hlim : s.heap.NoLimit)
    (ho : K.lookup f = some ⟨oc, od, .func (fnX name qual params body scope [] dV kV doc pm an cdv ct), osl⟩) (hcd : codeIn K cdv qual = true) (hroom : A.depth < recursionLimit)
    (hbind : BindsTo s (fnX name qual params body scope [] dV kV doc pm an cdv ct) args binds)
    (hkind : (binds.all fun y => scope.names.lookup y.1 == some .local || scope.names.lookup y.1 == some .cell) = true)
    (hnd : ((cellsFrom 0 scope.names []).map (·.1)).Nodup)
    (h : ∀ L h₁ tk cells, s.heap.objs.size = L → Fr (hideAll s.heap own) L h₁ (bindL (envOfC qual scope L f cdv).kindOf binds fun _ => none) → News (hideAll s.heap own) L h₁ cells →
      CellsAre (bindC (envOfC qual scope L f cdv).kindOf binds fun _ => none) (cellsFrom (L + 1) scope.names []) cells → (∀ b o, s.heap.get? b = some o → h₁.get? b = some o) → (∀ p ∈ cells, s.heap.get? p.1 = none) →
      wpAny (model prog w) (A.deeper (envOfC qual scope L f cdv)) (execs body (envOfC qual scope L f cdv))
        (fun fl s' => R (.ok (.ret (match fl with | .ret v => v | _ => .none))) s')
        (fun e s' => wpAny (model prog w) (A.deeper (envOfC qual scope L f cdv)) (leaving (envOfC qual scope L f cdv) e) (fun _ s'' => R (.error e) s'') (fun e' s'' => R (.error e') s'') s')
        { s with heap := h₁, toks := tk })
    (hco : scope.isCoroutine = false) (hgen : scope.isGenerator = false) (hk : scope.kind = .function) :
    codeAny (model prog w) A (.call (.ref f) args) R s := by
  refine codeAny_call_function hroom (X _ _ ho) rfl hco hgen rfl (codeRec_of X hcd) (hbind _ _ _ _ ?_)
  refine wpAny_newFunctionEnv_cells hk (kindsX hkind _) fun env' he s' x => ?_
  subst he
  refine ⟨hlim.keeps x.toInCall.keep, codeAny_func ?_⟩
  obtain ⟨h₁, tk, rfl, _⟩ := x.done
  have hk₁ := x.toInCall.keep
  obtain ⟨cells, NC, Y⟩ := Cl.news (h₀ := s.heap) (Nat.le_refl _) fun n c hm => ⟨x.cell n c (lookup_of_mem_nodup (cellsFrom_names scope.names 0 (s.heap.objs.size + 1) [] [] rfl ▸ hnd) hm), x.above n c hm⟩
  refine h s.heap.objs.size h₁ tk cells rfl ⟨x.toInCall.ns, fun b o e => hk₁ b o (of_hideAll _ e), Nat.le_of_eq (hideAll_size _ _)⟩ (fun p hp => ?_) Y hk₁ fun p hp => (NC p hp).2.2
  refine ⟨(NC p hp).1, (NC p hp).2.1, ?_⟩
  cases q : (hideAll s.heap own).get? p.1 with
  | none => rfl
  | some o => have := of_hideAll _ q; rw [(NC p hp).2.2] at this; cases this

section
variable {prog : Program} {w : World} {A : Around} {E : Value → Shared → Prop} {s : Shared} {h₀ : Heap} {L : Addr} {m : Str → Option Value} {env : Env}
/-- a comprehension by what holds between its turns -/
theorem compRest_ind {elt : PySem.Expr} {x : Str} {scope : Scope} {cl : List (Str × Addr)} {S : List (Addr × Obj) → Prop} {P : Nat → Value → Prop} {Fin : List Value → List (Addr × Obj) → Prop} {n : Nat} (Inv : Nat → List Value → List (Addr × Obj) → Prop)
    (fin : ∀ ys news, Inv n ys news → Fin ys news)
    (step : ∀ i ys news v I oI C oC D m₂ h tk (E' : Value → Shared → Prop), i < n → Inv i ys news → P i v → NsObj oC m₂ → m₂ x = some v → Fr h₀ L h m → News h₀ L h ((I, oI) :: (C, oC) :: (D, lst ys) :: news) → Off3 I C D news → ((@Ne Nat I C) ∧ (@Ne Nat I D) ∧ (@Ne Nat C D)) →
      wpAny (model prog w) A (eval elt (compEnvC scope cl C env)) (CompEnd h₀ L m { s with heap := h, toks := tk } I oI C oC D (lst ys) S (fun y news' => Inv (i + 1) (ys ++ [y]) news')) E' { s with heap := h, toks := tk }) :
    ∀ k i ys news, i + k = n → Inv i ys news → CompRest prog w A h₀ L m env elt x scope cl s S P Fin k i ys news := by
  intro k
  induction k with
  | zero => intro i ys news hi hI; exact fin ys news (by have : i = n := by omega
                                                         exact this ▸ hI)
  | succ k ih =>
    intro i ys news hi hI
    refine CompRest.succ fun v I oI C oC D m₂ h tk E' hP hC hx F N off ne => ?_
    refine wpAny_mono (step i ys news v I oI C oC D m₂ h tk E' (by omega) hI hP hC hx F N off ne) (fun y s₂ q => ?_) fun _ _ e => e
    obtain ⟨h', tk', news', e1, F', N', off', hS, r⟩ := q
    exact ⟨h', tk', news', e1, F', N', off', hS, ih (i + 1) _ _ (by omega) r⟩
theorem compRestT_ind {ct elt : PySem.Expr} {x : Str} {scope : Scope} {cl : List (Str × Addr)} {S : List (Addr × Obj) → Prop} {P : Nat → Value → Prop} {Fin : List Value → List (Addr × Obj) → Prop} {n : Nat} (Inv : Nat → List Value → List (Addr × Obj) → Prop)
    (fin : ∀ ys news, Inv n ys news → Fin ys news)
    (step : ∀ i ys news v I oI C oC D m₂ h tk (E' : Value → Shared → Prop), i < n → Inv i ys news → P i v → NsObj oC m₂ → m₂ x = some v → Fr h₀ L h m → News h₀ L h ((I, oI) :: (C, oC) :: (D, lst ys) :: news) → Off3 I C D news → ((@Ne Nat I C) ∧ (@Ne Nat I D) ∧ (@Ne Nat C D)) →
      wpAny (model prog w) A (isTrue ct (compEnvC scope cl C env) (eval ct (compEnvC scope cl C env))) (fun ok s' => if ok = true then
        wpAny (model prog w) A (eval elt (compEnvC scope cl C env)) (CompEnd h₀ L m { s with heap := h, toks := tk } I oI C oC D (lst ys) S (fun y news' => Inv (i + 1) (ys ++ [y]) news')) E' s'
        else CompEnd h₀ L m { s with heap := h, toks := tk } I oI C oC D (lst ys) S (fun _ news' => Inv (i + 1) ys news') Value.none s') E' { s with heap := h, toks := tk }) :
    ∀ k i ys news, i + k = n → Inv i ys news → CompRestT prog w A h₀ L m env ct elt x scope cl s S P Fin k i ys news := by
  intro k
  induction k with
  | zero => intro i ys news hi hI; exact fin ys news (by have : i = n := by omega
                                                         exact this ▸ hI)
  | succ k ih =>
    intro i ys news hi hI
    refine CompRestT.succ fun v I oI C oC D m₂ h tk E' hP hC hx F N off ne => ?_
    refine wpAny_mono (step i ys news v I oI C oC D m₂ h tk E' (by omega) hI hP hC hx F N off ne) (fun ok s₂ q => ?_) fun _ _ e => e
    cases ok with
    | true =>
      simp only [if_true] at q ⊢
      refine wpAny_mono q (fun y s₃ q => ?_) fun _ _ e => e
      obtain ⟨h', tk', news', e1, F', N', off', hS, r⟩ := q
      exact ⟨h', tk', news', e1, F', N', off', hS, ih (i + 1) _ _ (by omega) r⟩
    | false =>
      simp only [Bool.false_eq_true, if_false] at q ⊢
      obtain ⟨h', tk', news', e1, F', N', off', hS, r⟩ := q
      exact ⟨h', tk', news', e1, F', N', off', hS, ih (i + 1) _ _ (by omega) r⟩
end
end
section
open PySem PySem.W PyProof.Rows PySem.Calls
open PySem.SeqAt
set_option Elab.async false
set_option maxRecDepth 100000
set_option maxHeartbeats 4000000
theorem after_uld {g h h' : Heap} {L ea da : Addr} {m : Str → Option Value} {frs frs2 : List (Addr × Obj)} {oL : Obj} (F : Fr g L h m) (hoL : h.get? L = some oL) (e : Ext (ea :: da :: L :: frs.map (·.1)) h h') (sl : SlotEq ((L, oL) :: frs) frs2)
    (hf2 : ∀ p ∈ frs2, h'.get? p.1 = some p.2) (hea : g.get? ea = none) (hda : g.get? da = none) (hfg : ∀ p ∈ frs, g.get? p.1 = none) : Fr g L h' m ∧ ∃ frs', SlotEq frs frs' ∧ (∀ p ∈ frs', h'.get? p.1 = some p.2) := by
  rcases frs2 with _ | ⟨⟨a, ob⟩, frs'⟩
  · exact sl.elim
  obtain ⟨e1, ⟨sl1, e2⟩, e3⟩ := sl
  dsimp only at e1 e2
  subst e1
  have hL' := hf2 _ (.head _)
  obtain ⟨oL', es, ep, q1, q2, q3⟩ := F.ns
  rw [hoL] at q1; cases q1
  refine ⟨⟨⟨ob, es, ep, hL', by rw [e2]; exact q2, q3⟩, fun b o q => ?_, F.above⟩, frs', e3, fun p hp => hf2 p (.tail _ hp)⟩
  refine e b o (fun hm => ?_) (F.keep b o q)
  rcases List.mem_cons.mp hm with rfl | hm
  · rw [hea] at q; cases q
  rcases List.mem_cons.mp hm with rfl | hm
  · rw [hda] at q; cases q
  rcases List.mem_cons.mp hm with rfl | hm
  · exact absurd (Nat.lt_of_lt_of_le (Heap.lt_size q) F.above) (Nat.lt_irrefl _)
  · obtain ⟨p, hp, rfl⟩ := List.mem_map.mp hm
    rw [hfg p hp] at q; cases q
theorem news_uld {g h h' : Heap} {L ea da : Addr} {frs news : List (Addr × Obj)} (N : News g L h news) (e : Ext (ea :: da :: L :: frs.map (·.1)) h h') (h1 : ∀ p ∈ news, p.1 ≠ ea) (h2 : ∀ p ∈ news, p.1 ≠ da) (h3 : ∀ p ∈ news, ∀ q ∈ frs, q.1 ≠ p.1) : News g L h' news := by
  intro p hp
  have z := N p hp
  refine ⟨e _ _ (fun hm => ?_) z.1, z.2⟩
  rcases List.mem_cons.mp hm with q | hm
  · exact h1 p hp q
  rcases List.mem_cons.mp hm with q | hm
  · exact h2 p hp q
  rcases List.mem_cons.mp hm with q | hm
  · exact z.2.1 q
  · obtain ⟨q, hq, e2⟩ := List.mem_map.mp hm
    exact h3 p hp q hq e2
theorem slot_news {g h h' : Heap} {L : Addr} : ∀ {frs frs' : List (Addr × Obj)}, SlotEq frs frs' → News g L h frs → (∀ p ∈ frs', h'.get? p.1 = some p.2) → News g L h' frs'
  | [], [], _, _, _ => News.nil
  | p :: r, q :: r', ⟨e1, e2, e3⟩, N, h => by
    intro x hx
    rcases List.mem_cons.mp hx with rfl | hx
    · exact ⟨h _ (.head _), by rw [← e1]; exact (N p (.head _)).2⟩
    · exact slot_news e3 (fun y hy => N y (.tail _ hy)) (fun y hy => h y (.tail _ hy)) x hx
  | [], _ :: _, h, _, _ => h.elim
  | _ :: _, [], h, _, _ => h.elim
theorem slot_outs : ∀ {outer : List Env} {frs frs' : List (Addr × Obj)}, SlotEq frs frs' → Outs outer frs → Outs outer frs' := by
  intro outer
  induction outer with
  | nil =>
    intro frs frs' h1 h2
    cases frs with
    | nil => cases frs' with
      | nil => exact trivial
      | cons q r => exact h1.elim
    | cons p r => exact h2.elim
  | cons env r ih =>
    intro frs frs' h1 h2
    cases frs with
    | nil => exact h2.elim
    | cons p fr => cases frs' with
      | nil => exact h1.elim
      | cons q fr' =>
        obtain ⟨e1, ⟨sl, e2⟩, e3⟩ := h1
        obtain ⟨hk, hf, ⟨es, n, hd⟩, hr⟩ := h2
        exact ⟨hk, by rw [hf, e1], ⟨es, n, by rw [e2]; exact hd⟩, ih e3 hr⟩
theorem slot_ne {frs frs' : List (Addr × Obj)} (sl : SlotEq frs frs') {a : Addr} (h : ∀ q ∈ frs, q.1 ≠ a) : ∀ q ∈ frs', q.1 ≠ a := by
  intro q hq e
  have hm : q.1 ∈ frs.map (·.1) := sl.addrs ▸ List.mem_map_of_mem hq
  obtain ⟨p, hp, e1⟩ := List.mem_map.mp hm
  exact h p hp (e1.trans e)
theorem news_app {g h : Heap} {L : Addr} {a b : List (Addr × Obj)} (N : News g L h a) (M : News g L h b) : News g L h (a ++ b) := by
  intro p hp
  rcases List.mem_append.mp hp with hp | hp
  · exact N p hp
  · exact M p hp
theorem news_one {g h : Heap} {L a : Addr} {o o' : Obj} {b : List (Addr × Obj)} {h' : Heap} (N : News g L h' b) (M : News g L h [(a, o')]) (ho : h'.get? a = some o) : News g L h' ((a, o) :: b) := by
  intro p hp
  rcases List.mem_cons.mp hp with rfl | hp
  · exact ⟨ho, (M _ (.head _)).2⟩
  · exact N p hp
/-- two cells at one address are one -/
theorem news_same {g h : Heap} {L : Addr} {news : List (Addr × Obj)} (N : News g L h news) {p q : Addr × Obj} (hp : p ∈ news) (hq : q ∈ news) (e : p.1 = q.1) : p.2 = q.2 := by
  have a := (N p hp).1
  have b := (N q hq).1
  rw [e, b] at a
  exact (Option.some.inj a).symm
theorem eq_num {A : Around} {s : Shared} {vs us : List Value} {ns ms : List Int} (hv : IntsAre vs ns) (hu : IntsAre us ms) : ∀ y x, y ∈ vs → x ∈ us → EqAt A s y x (decide (numOf y = numOf x)) := by
  intro y x hy hx
  obtain ⟨a, t, rfl⟩ := hv.all y hy
  obtain ⟨b, u, rfl⟩ := hu.all x hx
  exact EqAt.int_int a t b u
end
section
open PySem PySem.W PyProof.Rows PySem.Calls
set_option Elab.async false
set_option maxRecDepth 100000
set_option maxHeartbeats 4000000
noncomputable def trun {α : Type} (c : Nat → Nat → Bool) : KasT α → α
  | .ret a => a
  | .ask i j k => trun c (k (c i j))
noncomputable def tsafe {α : Type} (n : Nat) (c : Nat → Nat → Bool) : KasT α → Bool
  | .ret _ => true
  | .ask i j k => decide (i < n) && decide (j < n) && tsafe n c (k (c i j))
theorem kasWp_run {α : Type} {cmp : Nat → Nat → (Bool → Shared → Prop) → Shared → Prop} {n : Nat} {c : Nat → Nat → Bool} {s : Shared} (hc : ∀ i j C, i < n → j < n → C (c i j) s → cmp i j C s) {Q : α → Shared → Prop} : ∀ (t : KasT α), tsafe n c t = true → Q (trun c t) s → t.kasWp cmp Q s
  | .ret _, _, h => h
  | .ask i j k, ho, h => by
    simp only [tsafe, Bool.and_eq_true, decide_eq_true_eq] at ho
    exact hc i j _ ho.1.1 ho.1.2 (kasWp_run hc (k (c i j)) ho.2 h)

noncomputable def inserts (x : Nat) : List Nat → List (List Nat)
  | [] => [[x]]
  | y :: r => (x :: y :: r) :: (inserts x r).map (y :: ·)
noncomputable def perms : List Nat → List (List Nat)
  | [] => [[]]
  | x :: r => (perms r).flatMap (inserts x)
theorem mem_inserts {x : Nat} : ∀ {a b : List Nat}, a ++ x :: b ∈ inserts x (a ++ b)
  | [], [] => .head _
  | [], _ :: _ => .head _
  | y :: a, b => .tail _ (List.mem_map.mpr ⟨_, mem_inserts (a := a) (b := b), rfl⟩)
theorem mem_perms : ∀ {r l : List Nat}, l.Perm r → l ∈ perms r
  | [], l, h => by rw [List.perm_nil.mp h]; exact .head _
  | x :: r, l, h => by
    obtain ⟨a, b, rfl⟩ := List.append_of_mem (h.symm.subset (.head _))
    exact List.mem_flatMap.mpr ⟨_, mem_perms ((List.perm_cons x).mp (List.perm_middle.symm.trans h)), mem_inserts⟩
noncomputable def sorts (n : Nat) (σ : List Nat) : Bool :=
  let c := fun i j => decide (σ.getD i 0 < σ.getD j 0)
  let p := (trun c (kas_sort n)).toList
  (p.map (σ.getD · 0) == List.range n) && p.isPerm (List.range n) && tsafe n c (kas_sort n)
/-- the i-th number of a list, the test and the sieve, by recursors: quick in the kernel -/
noncomputable def nthR (l : List Nat) : Nat → Nat := @List.rec Nat (fun _ => Nat → Nat) (fun _ => 0) (fun a _ ih i => @Nat.rec (fun _ => Nat) a (fun j _ => ih j) i) l
theorem nthR_eq : ∀ (l : List Nat) (i : Nat), nthR l i = l.getD i 0
  | [], i => by simp [nthR]
  | a :: l, 0 => rfl
  | a :: l, i + 1 => by
    show nthR l i = _
    rw [nthR_eq l i]; simp [List.getD_eq_getElem?_getD]
noncomputable def lessR (l : List Nat) (i j : Nat) : Bool := Nat.ble (Nat.succ (nthR l i)) (nthR l j)
theorem lessR_eq {l : List Nat} {i j : Nat} : lessR l i j = decide (l.getD i 0 < l.getD j 0) := by
  unfold lessR
  rw [nthR_eq, nthR_eq]
  by_cases h : l.getD i 0 < l.getD j 0
  · rw [decide_eq_true h]; exact Nat.ble_eq_true_of_le h
  · rw [decide_eq_false h]
    cases q : Nat.ble (l.getD i 0).succ (l.getD j 0) with
    | false => rfl
    | true => exact absurd (Nat.le_of_ble_eq_true q) h
noncomputable def siftR (i j : Nat) (b : Bool) (ps : List (List Nat)) : List (List Nat) := @List.rec (List Nat) (fun _ => List (List Nat)) [] (fun σ _ ih => @Bool.rec (fun _ => List (List Nat)) (@Bool.rec (fun _ => List (List Nat)) (σ :: ih) ih b) (@Bool.rec (fun _ => List (List Nat)) ih (σ :: ih) b) (lessR σ i j)) ps
theorem mem_siftR {i j : Nat} {b : Bool} {σ : List Nat} (e : lessR σ i j = b) : ∀ {ps : List (List Nat)}, σ ∈ ps → σ ∈ siftR i j b ps
  | τ :: ps, h => by
    show σ ∈ @Bool.rec (fun _ => List (List Nat)) (@Bool.rec (fun _ => List (List Nat)) (τ :: siftR i j b ps) (siftR i j b ps) b) (@Bool.rec (fun _ => List (List Nat)) (siftR i j b ps) (τ :: siftR i j b ps) b) (lessR τ i j)
    rcases List.mem_cons.mp h with rfl | h
    · rw [e]; cases b <;> exact .head _
    · have ih := mem_siftR e h
      cases lessR τ i j <;> cases b <;> first | exact ih | exact .tail _ ih
noncomputable def bareR (ps : List (List Nat)) (x : Bool) : Bool := @List.rec (List Nat) (fun _ => Bool) true (fun _ _ _ => x) ps
theorem bareR_of {ps : List (List Nat)} {x : Bool} {σ : List Nat} (h : bareR ps x = true) (hσ : σ ∈ ps) : x = true := by
  cases ps with
  | nil => cases hσ
  | cons a l => exact h
/-- the tree of questions walked once for many orders -/
noncomputable def chkR (n : Nat) (t : KasT (Array Nat)) : List (List Nat) → Bool :=
  @KasT.rec (Array Nat) (fun _ => List (List Nat) → Bool)
    (fun p ps => ps.all fun σ => (p.toList.map (nthR σ) == List.range n) && p.toList.isPerm (List.range n))
    (fun i j _ ih ps => Nat.ble (i + 1) n && (Nat.ble (j + 1) n && (bareR (siftR i j true ps) (ih true (siftR i j true ps)) && bareR (siftR i j false ps) (ih false (siftR i j false ps))))) t
noncomputable def sortsT (n : Nat) (t : KasT (Array Nat)) (σ : List Nat) : Bool :=
  let c := fun i j => decide (σ.getD i 0 < σ.getD j 0)
  let p := (trun c t).toList
  (p.map (σ.getD · 0) == List.range n) && p.isPerm (List.range n) && tsafe n c t
theorem chkR_ok {n : Nat} : ∀ (t : KasT (Array Nat)) (ps : List (List Nat)), chkR n t ps = true → ∀ σ ∈ ps, sortsT n t σ = true
  | .ret p, ps, h, σ, hσ => by
    have := List.all_eq_true.mp h σ hσ
    rw [show nthR σ = (fun i => σ.getD i 0) from funext (nthR_eq σ)] at this
    show ((p.toList.map (σ.getD · 0) == List.range n) && p.toList.isPerm (List.range n) && true) = true
    rw [Bool.and_true]; exact this
  | .ask i j k, ps, h, σ, hσ => by
    have h : (Nat.ble (i + 1) n && (Nat.ble (j + 1) n && (bareR (siftR i j true ps) (chkR n (k true) (siftR i j true ps)) && bareR (siftR i j false ps) (chkR n (k false) (siftR i j false ps))))) = true := h
    simp only [Bool.and_eq_true] at h
    obtain ⟨h1, h2, h3, h4⟩ := h
    have main : sortsT n (k (decide (σ.getD i 0 < σ.getD j 0))) σ = true := by
      rw [← lessR_eq]
      cases q : lessR σ i j with
      | true => exact chkR_ok (k true) _ (bareR_of h3 (mem_siftR q hσ)) σ (mem_siftR q hσ)
      | false => exact chkR_ok (k false) _ (bareR_of h4 (mem_siftR q hσ)) σ (mem_siftR q hσ)
    simp only [sortsT, trun, tsafe, Bool.and_eq_true, decide_eq_true_eq] at main ⊢
    exact ⟨main.1, ⟨Nat.le_of_ble_eq_true h1, Nat.le_of_ble_eq_true h2⟩, main.2⟩
theorem sorts4 : chkR 4 (kas_sort 4) (perms (List.range 4)) = true := by decide +kernel
/-- twenty of the orders of 1 .. 5, each with 0 put in at every place -/
noncomputable def part6 (a : Nat) : List (List Nat) := (((perms [1, 2, 3, 4, 5]).drop a).take 20).flatMap (inserts 0)
theorem sorts6a : chkR 6 (kas_sort 6) (part6 0) = true := by decide +kernel
theorem sorts6b : chkR 6 (kas_sort 6) (part6 20) = true := by decide +kernel
theorem sorts6c : chkR 6 (kas_sort 6) (part6 40) = true := by decide +kernel
theorem sorts6d : chkR 6 (kas_sort 6) (part6 60) = true := by decide +kernel
theorem sorts6e : chkR 6 (kas_sort 6) (part6 80) = true := by decide +kernel
theorem sorts6f : chkR 6 (kas_sort 6) (part6 100) = true := by decide +kernel
theorem perms5 : (perms [1, 2, 3, 4, 5]).length = 120 := by decide +kernel
theorem mem_part6 {σ q : List Nat} {a i : Nat} (hi : (perms [1, 2, 3, 4, 5])[i]? = some q) (hσ : σ ∈ inserts 0 q) (h1 : a ≤ i) (h2 : i < a + 20) : σ ∈ part6 a := by
  refine List.mem_flatMap.mpr ⟨q, List.mem_of_getElem? (i := i - a) ?_, hσ⟩
  rw [List.getElem?_take_of_lt (by omega), List.getElem?_drop, show a + (i - a) = i by omega]
  exact hi
theorem sorts6 {σ : List Nat} (h : σ ∈ perms (List.range 6)) : sortsT 6 (kas_sort 6) σ = true := by
  obtain ⟨q, hq, hσ⟩ := List.mem_flatMap.mp (show σ ∈ (perms [1, 2, 3, 4, 5]).flatMap (inserts 0) from h)
  obtain ⟨i, hi⟩ := List.mem_iff_getElem?.mp hq
  have hlt : i < 120 := perms5 ▸ (List.getElem?_eq_some_iff.mp hi).1
  by_cases c1 : i < 20
  · exact chkR_ok _ _ sorts6a σ (mem_part6 hi hσ (by omega) (by omega))
  by_cases c2 : i < 40
  · exact chkR_ok _ _ sorts6b σ (mem_part6 hi hσ (by omega) (by omega))
  by_cases c3 : i < 60
  · exact chkR_ok _ _ sorts6c σ (mem_part6 hi hσ (by omega) (by omega))
  by_cases c4 : i < 80
  · exact chkR_ok _ _ sorts6d σ (mem_part6 hi hσ (by omega) (by omega))
  by_cases c5 : i < 100
  · exact chkR_ok _ _ sorts6e σ (mem_part6 hi hσ (by omega) (by omega))
  · exact chkR_ok _ _ sorts6f σ (mem_part6 hi hσ (by omega) (by omega))
theorem sorts_of {n : Nat} (hn : n = 4 ∨ n = 6) {σ : List Nat} (h : σ.Perm (List.range n)) : sorts n σ = true := by
  rcases hn with rfl | rfl
  · exact chkR_ok _ _ sorts4 σ (mem_perms h)
  · exact sorts6 (mem_perms h)

theorem idx_range {ps : List Int} (hn : ps.Nodup) : ps.map ps.idxOf = List.range ps.length := by
  apply List.ext_getElem
  · simp
  · intro i h1 h2
    rw [List.getElem_map, List.getElem_range]
    exact hn.idxOf_getElem i (by simpa using h1)
theorem range_getD {zs : List Z} {d : Z} : (List.range zs.length).map (fun i => zs.getD i d) = zs := by
  apply List.ext_getElem
  · simp
  · intro i h1 h2
    simp [List.getD_eq_getElem?_getD, List.getElem?_eq_getElem h2]

/-- the plain law of the sort: what the tree of questions hands back -/
theorem sort_plain {zs : List Z} {n : Nat} (hn : n = 4 ∨ n = 6) (hl : zs.length = n) (hd : (zs.map fun z : Z => z.2.1).Nodup) :
    ∃ c : Nat → Nat → Bool, (∀ i j a b, zs[i]? = some a → zs[j]? = some b → ltC a.2 b.2 = c i j) ∧ tsafe n c (kas_sort n) = true ∧
      ∃ zs' : List Z, ((trun c (kas_sort n)).toList.map fun i => (zs.map fun z : Z => z.1).getD i PySem.Value.none) = zs'.map (fun z : Z => z.1) ∧ zs'.Perm zs ∧ zs'.Pairwise fun x y => x.2.1 < y.2.1 := by
  generalize hps : (zs.map fun z : Z => z.2.1) = ps at *
  have hlp : ps.length = n := by rw [← hps, List.length_map, hl]
  have hmp := List.mergeSort_perm ps (fun a b => decide (a ≤ b))
  have hms := List.pairwise_mergeSort (le := fun a b : Int => decide (a ≤ b)) (fun a b c h1 h2 => by simp at *; omega) (fun a b => by simp; omega) ps
  generalize ps.mergeSort (fun a b => decide (a ≤ b)) = qs at hmp hms
  have hqn : qs.Nodup := hmp.nodup_iff.mpr hd
  have hql : qs.length = n := by rw [hmp.length_eq, hlp]
  have hqs : qs.Pairwise (· < ·) := by
    have := hms.and hqn
    exact this.imp fun {a b} h => by have h1 := h.1; have h2 := h.2; simp at h1; omega
  have hσ : (ps.map qs.idxOf).Perm (List.range n) := by
    rw [← hql, ← idx_range hqn]; exact (hmp.map _).symm
  have hso := sorts_of hn hσ
  have hlt : ∀ x y, x ∈ ps → y ∈ ps → (qs.idxOf x < qs.idxOf y ↔ x < y) := by
    intro x y hx hy
    have h1 := List.idxOf_lt_length_iff.mpr (hmp.symm.subset hx)
    have h2 := List.idxOf_lt_length_iff.mpr (hmp.symm.subset hy)
    have e1 : qs[qs.idxOf x] = x := List.getElem_idxOf h1
    have e2 : qs[qs.idxOf y] = y := List.getElem_idxOf h2
    constructor
    · intro h
      have := List.pairwise_iff_getElem.mp hqs _ _ h1 h2 h
      rwa [e1, e2] at this
    · intro h
      rcases Nat.lt_trichotomy (qs.idxOf x) (qs.idxOf y) with q | q | q
      · exact q
      · exfalso
        have : x = y := by rw [← e1, ← e2]; simp [q]
        omega
      · have := List.pairwise_iff_getElem.mp hqs _ _ h2 h1 q
        rw [e1, e2] at this; omega
  have hget : ∀ (i : Nat) (a : Z), zs[i]? = some a → (ps.map qs.idxOf).getD i 0 = qs.idxOf a.2.1 ∧ a.2.1 ∈ ps := by
    intro i a ha
    have h1 : ps[i]? = some a.2.1 := by rw [← hps, List.getElem?_map, ha]; rfl
    refine ⟨?_, List.mem_of_getElem? h1⟩
    simp [List.getD_eq_getElem?_getD, h1]
  simp only [sorts, Bool.and_eq_true, beq_iff_eq, List.isPerm_iff] at hso
  obtain ⟨⟨h1, h2⟩, h3⟩ := hso
  refine ⟨_, ?_, h3, ?_⟩
  · intro i j a b ha hb
    obtain ⟨e1, m1⟩ := hget i a ha
    obtain ⟨e2, m2⟩ := hget j b hb
    rw [e1, e2]
    by_cases q : a.2.1 = b.2.1
    · have hij : i = j := by
        have g1 : ps[i]? = some a.2.1 := by rw [← hps, List.getElem?_map, ha]; rfl
        have g2 : ps[j]? = some a.2.1 := by rw [← hps, List.getElem?_map, hb, q]; rfl
        exact (List.getElem?_inj (List.getElem?_eq_some_iff.mp g1).1 hd).mp (g1.trans g2.symm)
      subst hij
      rw [ha] at hb; cases hb
      rw [show ltC a.2 a.2 = false from ltC_not.mpr (.inr ⟨rfl, Int.le_refl _⟩)]
      simp
    · have : ltC a.2 b.2 = decide (a.2.1 < b.2.1) := by simp [ltC, q]
      rw [this]
      exact decide_eq_decide.mpr (hlt _ _ m1 m2).symm
  · generalize (trun (fun i j => decide ((ps.map qs.idxOf).getD i 0 < (ps.map qs.idxOf).getD j 0)) (kas_sort n)).toList = p at *
    have d : Z := (PySem.Value.none, 0, 0)
    refine ⟨p.map fun i => zs.getD i d, ?_, ?_, ?_⟩
    · rw [List.map_map]
      apply List.map_congr_left
      intro i hi
      have hi2 : i < n := List.mem_range.mp (h2.subset hi)
      simp [List.getD_eq_getElem?_getD, List.getElem?_eq_getElem (show i < zs.length by omega)]
    · have := h2.map fun i => zs.getD i d
      rw [← hl, range_getD] at this
      exact this
    · rw [List.pairwise_map]
      have hr : (p.map ((ps.map qs.idxOf).getD · 0)).Pairwise (· < ·) := by rw [h1]; exact List.pairwise_lt_range
      rw [List.pairwise_map] at hr
      refine hr.imp_of_mem fun {i j} hi hj hlt2 => ?_
      have hi2 : i < zs.length := by have := List.mem_range.mp (h2.subset hi); omega
      have hj2 : j < zs.length := by have := List.mem_range.mp (h2.subset hj); omega
      obtain ⟨e1, m1⟩ := hget i _ (List.getElem?_eq_getElem hi2)
      obtain ⟨e2, m2⟩ := hget j _ (List.getElem?_eq_getElem hj2)
      rw [e1, e2] at hlt2
      have := (hlt _ _ m1 m2).mp hlt2
      simpa [List.getD_eq_getElem?_getD, hi2, hj2] using this
end
section
open PySem PySem.W PyProof.Rows PySem.Calls
set_option Elab.async false
set_option maxRecDepth 100000
set_option maxHeartbeats 4000000
section
variable {prog : Program} {w : World} {A : Around} {E : Value → Shared → Prop} {s : Shared} {g : Heap} {L : Addr} {m : Str → Option Value} {news : List (Addr × Obj)}

theorem lt_tup {a b : Addr} {p q p' q' : Int} {t u t' u' : Tok} {n n' : Nat} {Q : Bool → Shared → Prop} (ha : s.heap.get? a = some (chipO p q t u n)) (hb : s.heap.get? b = some (chipO p' q' t' u' n')) (h : Q (ltC (p, q) (p', q')) s) :
    wpAny (model prog w) A (keyLt' (tuples' true) (.ref a) (.ref b)) Q E s := by
  refine kat_lt ha rfl hb rfl ?_
  show KatLex prog w A true (decide (2 < 2)) Q [(.int p t, .int p' t'), (.int q u, .int q' u')] 0 s
  refine kat_cons (wpAny_eqBool_int ?_)
  by_cases hp : p = p'
  · rw [show (p == p') = true by simpa using hp]
    refine kat_yes (kat_cons (wpAny_eqBool_int ?_))
    by_cases hq : q = q'
    · rw [show (q == q') = true by simpa using hq]
      refine kat_yes (kat_nil ?_)
      rwa [show ltC (p, q) (p', q') = decide (2 < 2) by simp [ltC, hp, hq]] at h
    · rw [show (q == q') = false by simpa using hq]
      refine kat_no (kat_one _ _ ?_)
      refine rc_lt_int (a := q) (b := q') ?_
      show Q _ s
      rwa [show ltC (p, q) (p', q') = decide (q < q') by simp [ltC, hp]] at h
  · rw [show (p == p') = false by simpa using hp]
    refine kat_no ?_
    show wpAny (model prog w) A (oneLt' true (.int p t) (.int p' t')) Q _ s
    refine oneLt_int ?_
    rwa [show ltC (p, q) (p', q') = decide (p < p') by simp [ltC, hp]] at h

theorem kat_tups {h : Heap} : ∀ {zs : List Z}, (∀ z ∈ zs, Chip h z) → ∃ fs : List Value, KatTups h (zs.map (·.1)) fs ∧ fs.length = zs.length ∧ ∀ v ∈ fs, ∃ n t, v = .int n t
  | [], _ => ⟨[], .nil, rfl, fun _ h => nomatch h⟩
  | z :: zs, hz => by
    obtain ⟨fs, h1, h2, h3⟩ := kat_tups (zs := zs) fun y hy => hz y (.tail _ hy)
    obtain ⟨a, t, u, n, e1, e2⟩ := hz z (.head _)
    refine ⟨.int z.2.1 t :: fs, ?_, by simp [h2], ?_⟩
    · rw [List.map_cons, e1]
      exact KatTups.cons e2 rfl rfl rfl h1
    · intro v hv
      rcases List.mem_cons.mp hv with rfl | hv
      · exact ⟨_, _, rfl⟩
      · exact h3 v hv

theorem sort_chips {l : Addr} {zs : List Z} {k : Nat} {Q : Value → Shared → Prop} (F : Fr g L s.heap m) (N : News g L s.heap news) (hl : s.heap.get? l = some (listOf (zs.map (·.1)).toArray k)) (hz : ∀ z ∈ zs, ∃ a t u n, z.1 = .ref a ∧ (a, chipO z.2.1 z.2.2 t u n) ∈ news)
    (hn : zs.length = 4 ∨ zs.length = 6) (hd : (zs.map fun z : Z => z.2.1).Nodup)
    (h : ∀ (D : Addr) (zs' : List Z) (c : Nat) (h' : Heap), Fr g L h' m → News g L h' ((D, listOf (zs'.map fun z : Z => z.1).toArray c) :: news) → (∀ q ∈ news, q.1 < D) → zs'.Perm zs → zs'.Pairwise (fun x y : Z => x.2.1 < y.2.1) → Q (.ref D) { s with heap := h' }) :
    wpAny (model prog w) A (call (.builtin "sorted") [.ref l]) Q E s := by
  obtain ⟨c, hc1, hc2, zs', hc3, hc4, hc5⟩ := sort_plain hn rfl hd
  refine kat_sorted (vs := zs.map (·.1)) F N (cell_isList hl) (by simp; omega) (by simp; omega) ?_
  intro D e1 h' F' N' l1
  have hch : ∀ z ∈ zs, Chip h' z := fun z hz1 => by
    obtain ⟨a, t, u, n, q1, q2⟩ := hz z hz1
    exact ⟨a, t, u, n, q1, N'.get (.tail _ q2)⟩
  obtain ⟨fs, hf1, hf2, hf3⟩ := kat_tups hch
  refine kat_kind (T := .type "int") (s := { s with heap := h' }) hf1 (by omega) (fun v hv => ?_) (by decide) ?_
  · obtain ⟨n, t, rfl⟩ := hf3 v hv
    exact .now
  rw [show (Value.type "int" != Value.type "tuple") = true by decide, List.length_map]
  refine kasWp_run (n := zs.length) (c := c) ?_ _ hc2 ?_
  · intro i j C hi hj hC
    obtain ⟨a, ha⟩ : ∃ a, zs[i]? = some a := ⟨_, List.getElem?_eq_getElem hi⟩
    obtain ⟨b, hb⟩ : ∃ b, zs[j]? = some b := ⟨_, List.getElem?_eq_getElem hj⟩
    obtain ⟨x, t, u, n, q1, q2⟩ := hch a (List.mem_of_getElem? ha)
    obtain ⟨y, t', u', n', q3, q4⟩ := hch b (List.mem_of_getElem? hb)
    show wpAny (model prog w) A.in1.in1 (keyLt' _ ((zs.map (·.1)).getD i Value.none) ((zs.map (·.1)).getD j Value.none)) C _ _
    rw [show (zs.map (fun z : Z => z.1)).getD i Value.none = .ref x by simp [List.getD_eq_getElem?_getD, ha, q1], show (zs.map (fun z : Z => z.1)).getD j Value.none = .ref y by simp [List.getD_eq_getElem?_getD, hb, q3]]
    refine lt_tup q2 q4 ?_
    rw [hc1 i j a b ha hb]; exact hC
  · refine KasFin.intro F' N' (.head (fun p hp => Nat.ne_of_lt (l1 p hp))) ?_
    intro h'' c' F'' N''
    refine h D zs' c' h'' F'' ?_ l1 hc4 hc5
    have e : (List.map (fun i => (List.map (fun x : Z => x.1) zs).getD i Value.none) (trun c (kas_sort zs.length)).toList) = zs'.map (fun z : Z => z.1) := hc3
    rw [← e]
    simpa using N''
end
end
section
open PySem PySem.W PyProof.Rows PySem.Calls
open PySem.SeqAt
set_option Elab.async false
set_option maxRecDepth 100000
set_option maxHeartbeats 4000000
theorem ints_get : ∀ {vs : List Value} {ns : List Int} {i : Nat} {n : Int}, IntsAre vs ns → ns[i]? = some n → ∃ t, vs[i]? = some (.int n t)
  | _, _, i, n, .nil, h => by simp at h
  | _, _, 0, n, .cons a t r, h => by cases (Option.some.inj h); exact ⟨t, rfl⟩
  | _, _, i + 1, n, .cons a t r, h => by simpa using ints_get r (by simpa using h)

theorem cut_at : ∀ {vs : List Value} {i : Nat} {y : Value}, vs[i]? = some y → kl_cut vs i = some (vs.take i, y, vs.drop (i + 1))
  | [], i, y, h => by simp at h
  | x :: r, 0, y, h => by cases (Option.some.inj h); rfl
  | x :: r, i + 1, y, h => by
    have ih := cut_at (vs := r) (i := i) (y := y) (by simpa using h)
    show (match kl_cut r i with | some (p, y, q) => some (x :: p, y, q) | none => none) = _
    rw [ih]; rfl
theorem erase_map {α β : Type} {f : α → β} : ∀ (l : List α) (i : Nat), (l.map f).eraseIdx i = (l.eraseIdx i).map f
  | [], _ => rfl
  | _ :: _, 0 => rfl
  | x :: r, i + 1 => by rw [List.map_cons, List.eraseIdx_cons_succ, List.eraseIdx_cons_succ, List.map_cons, erase_map r i]

/-- a pair of ints as a list among the cells -/
noncomputable def LPair (cs : List (Addr × Obj)) (z : Z) : Prop := ∃ a t u n, z.1 = .ref a ∧ (a, listOf #[.int z.2.1 t, .int z.2.2 u] n) ∈ cs
noncomputable def PCells (cs : List (Addr × Obj)) : Prop := ∀ p ∈ cs, ∃ x y t u n, p.2 = listOf #[.int x t, .int y u] n
theorem LPair.mono {cs cs' : List (Addr × Obj)} {z : Z} (c : LPair cs z) (hs : ∀ p ∈ cs, p ∈ cs') : LPair cs' z := by
  obtain ⟨a, t, u, n, e1, e2⟩ := c
  exact ⟨a, t, u, n, e1, hs _ e2⟩
theorem LPair.pair {g h : Heap} {L : Addr} {cs news : List (Addr × Obj)} {z : Z} (c : LPair cs z) (N : News g L h news) (hs : ∀ p ∈ cs, p ∈ news) : Pair h z := by
  obtain ⟨a, t, u, n, e1, e2⟩ := c
  exact ⟨a, t, u, n, e1, .inr (N.get (hs _ e2))⟩
/-- the pair that lies at a value -/
noncomputable def keyAt (h : Heap) : Value → Int × Int
  | .ref a => match h.get? a with
    | some o => match o.data with
      | .seq xs _ => (numOf (xs.getD 0 .none), numOf (xs.getD 1 .none))
      | _ => (0, 0)
    | none => (0, 0)
  | _ => (0, 0)
theorem keyAt_z {h : Heap} {cs : List (Addr × Obj)} {z : Z} (hcs : ∀ p ∈ cs, h.get? p.1 = some p.2) (c : LPair cs z) : keyAt h z.1 = z.2 := by
  obtain ⟨a, t, u, n, e1, e2⟩ := c
  have := hcs _ e2
  rw [e1]
  simp only [keyAt, this]
  rfl
theorem eq_pairs {A : Around} {s : Shared} {cs : List (Addr × Obj)} (hcs : ∀ p ∈ cs, s.heap.get? p.1 = some p.2) (hu : A.units < cLine) {y x : Z} (hy : LPair cs y) (hx : LPair cs x) : EqAt A s y.1 x.1 (decide (y.2 = x.2)) := by
  have ky := keyAt_z hcs hy
  have kx := keyAt_z hcs hx
  obtain ⟨a, t, u, n, e1, e2⟩ := hy
  obtain ⟨b, t', u', n', e3, e4⟩ := hx
  have h1 := hcs _ e2
  have h2 := hcs _ e4
  by_cases e : a = b
  · have : y.2 = x.2 := by rw [← ky, ← kx, e1, e3, e]
    rw [decide_eq_true this, e1, e3, e]
    exact EqAt.same _
  · rw [e1, e3]
    have hb : decide (y.2 = x.2) = (List.range 2).all (fun j => if j = 0 then (y.2.1 == x.2.1) else (y.2.2 == x.2.2)) := by
      rw [show List.range 2 = [0, 1] from rfl]
      simp only [List.all_cons, List.all_nil, Bool.and_true]
      rw [Bool.eq_iff_iff]
      simp [Prod.ext_iff]
    rw [hb]
    refine EqAt.of_refs e (RcAt.lists (items := #[.int y.2.1 t, .int y.2.2 u]) (items2 := #[.int x.2.1 t', .int x.2.2 u']) (cell_isList h1) (cell_isList h2) rfl hu ?_)
    intro j j1 j2
    match j, j1, j2 with
    | 0, _, _ => exact EqAt.int_int _ _ _ _
    | 1, _, _ => exact EqAt.int_int _ _ _ _
    | j + 2, j1, _ => exact absurd j1 (by simp)
theorem bag_ne {g h : Heap} {L ba : Addr} {news cs : List (Addr × Obj)} {zs : List Z} {nb : Nat} (N : News g L h news) (hb : (ba, listOf (zs.map (·.1)).toArray nb) ∈ news) (hc : ∀ p ∈ cs, p ∈ news) (P : PCells cs) (hr : ∀ z ∈ zs, ∃ a, z.1 = .ref a) (hne : zs ≠ []) : ∀ p ∈ cs, p.1 ≠ ba := by
  intro p hp e
  have h1 := news_same N (hc p hp) hb e
  obtain ⟨x, y, t, u, n, e2⟩ := P p hp
  rw [e2] at h1
  have h2 := congrArg Obj.data h1
  simp only [Data.seq.injEq] at h2
  rcases zs with _ | ⟨z, r⟩
  · exact hne rfl
  · obtain ⟨a, ea⟩ := hr z (.head _)
    have h3 := congrArg (fun a : Array Value => a.toList) h2.1
    rw [List.map_cons] at h3
    simp only [List.toList_toArray] at h3
    have h4 := (List.cons.inj h3).1
    rw [ea] at h4
    cases h4
section
variable {prog : Program} {w : World} {A : Around} {E : Value → Shared → Prop} {s : Shared} {g : Heap} {L D : Addr} {m : Str → Option Value} {news rest : List (Addr × Obj)}
theorem popi_at {vs : List Value} {n : Nat} {k : Int} {i : Nat} {u : Tok} {y : Value} {Q : Value → Shared → Prop} (F : Fr g L s.heap m) (N : News g L s.heap ((D, listOf vs.toArray n) :: rest)) (hr : ∀ p ∈ rest, p.1 ≠ D) (hk : k = (i : Int)) (hy : vs[i]? = some y) (hlen : vs.length ≤ 1000)
    (h : ∀ h', Fr g L h' m → News g L h' ((D, listOf (vs.eraseIdx i).toArray (n + 1)) :: rest) → Q y { s with heap := h' }) : wpAny (model prog w) A (call (.builtin "list.pop") [.ref D, .int k u]) Q E s := by
  subst hk
  have hi := (List.getElem?_eq_some_iff.mp hy).1
  have e : sizeLine = 2 ^ 24 := rfl
  rw [List.eraseIdx_eq_take_drop_succ] at h
  refine kl_popAt (its := vs.toArray) (k := i) F N ?_ ?_ (cut_at hy) (Upd.head hr) (by show vs.length ≤ sizeLine; omega) h
  · unfold Builtin.List.listFitsIndex
    simp; omega
  · unfold seqIndex?
    simp; omega
end
end
section
open PySem PySem.W PyProof.Rows PySem.Calls
set_option Elab.async false
set_option maxRecDepth 100000
set_option maxHeartbeats 4000000
theorem parted_at {w : World} {h₀ g : Heap} {L : Addr} {m : Str → Option Value} {news : List (Addr × Obj)} {A : Around} {s : Shared} {Q E : Value → Shared → Prop} {x y : Z} (F : Fr g L s.heap m) (N : News g L s.heap news)
    (G : Gd w h₀ s.heap) (R : Rm A 4) (hx : Pair s.heap x) (hy : Pair s.heap y)
    (h : ∀ (h' : Heap) (tk' : Nat) (r a1 a2 : Addr) (t1 u1 t2 u2 : Tok), Fr g L h' m → News g L h' ((r, listOf #[.ref a1, .ref a2] 0) :: (a1, chipO (x.2.1 - 1) (min x.2.2 y.2.2) t1 u1 0) :: (a2, chipO (x.2.1 + 1) (max x.2.2 y.2.2) t2 u2 0) :: news) → Q (.ref r) { s with heap := h', toks := tk' }) :
    wpAny (model Challenge.rw_pg0109_01.row.prog w) A (call (.ref 84) [x.1, y.1]) Q E s := by
  refine parted_call (x := x) (y := y) G R hx hy ?_
  intro h' tk' r a1 a2 t1 u1 t2 u2 e gr ga1 ga2 nr na1 na2
  have k : ∀ c o, s.heap.get? c = some o → h'.get? c = some o := fun c o q => e c o (fun hm => nomatch hm) q
  have hnew : ∀ a ob, s.heap.get? a = none → h'.get? a = some ob → h'.get? a = some ob ∧ a ≠ L ∧ g.get? a = none := by
    intro a ob q1 q2
    obtain ⟨oL, _, _, hoL, _⟩ := F.ns
    refine ⟨q2, (fun e => by rw [e, hoL] at q1; cases q1), ?_⟩
    cases q : g.get? a with
    | none => rfl
    | some o' => rw [F.keep _ _ q] at q1; cases q1
  refine h h' tk' r a1 a2 t1 u1 t2 u2 (fr_keeps F k) ?_
  intro p hp1
  rcases List.mem_cons.mp hp1 with rfl | hp1
  · exact hnew _ _ nr gr
  rcases List.mem_cons.mp hp1 with rfl | hp1
  · exact hnew _ _ na1 ga1
  rcases List.mem_cons.mp hp1 with rfl | hp1
  · exact hnew _ _ na2 ga2
  · exact news_keeps N k p hp1
end
local macro_rules | `(tactic| walk_at "stop") => `(tactic| first
  | (with_reducible show PySem.wpAny _ _ (PySem.exec (PySem.Stmt.Assign _ (PySem.Expr.ListComp _ _ _ _) _) _) _ _ _)
  | (with_reducible show PySem.wpAny _ _ (PySem.eval (PySem.Expr.ListComp _ _ _ _) _) _ _ _)
  | (with_reducible show PySem.wpAny _ _ (PySem.eval (PySem.Expr.IfExp _ _ _ _) _) _ _ _)
  | (with_reducible show PySem.wpAny _ _ (PySem.compareOp _ _ (PySem.Value.ref _)) _ _ _)
  | (with_reducible show PySem.wpAny _ _ (PySem.binaryOp _ (PySem.Value.ref _) (PySem.Value.ref _)) _ _ _)
  | (with_reducible show PySem.wpAny _ _ (PySem.assign (PySem.Expr.Tuple _ _ _) _ (PySem.Value.ref _)) _ _ _)
  | (with_reducible show PySem.wpAny _ _ (PySem.storeName _ (Str.ofString "spare") _) _ _ _)
  | (with_reducible show PySem.wpAny _ _ (PySem.storeName _ (Str.ofString "pick") _) _ _ _))
theorem off_W10 : True := by
  w_top off
  trivial
section
open PySem PySem.W PyProof.Rows PySem.Calls
open PySem.SeqAt
open PyProof.Rows.LCg PyProof.Rows.LCt
set_option Elab.async false
set_option maxRecDepth 100000
set_option maxHeartbeats 4000000
set_option linter.unusedVariables false

theorem off1_mem {D : Addr} : ∀ {l : List (Addr × Obj)}, Off1 D l → ∀ p ∈ l, p.1 ≠ D
  | [], _, _, h => nomatch h
  | q :: l, ⟨h1, h2⟩, p, hp => by
    rcases List.mem_cons.mp hp with rfl | hp
    · exact h1
    · exact off1_mem h2 p hp

theorem Rm.line64 {A : Around} {k : Nat} (R : Rm A k) : A.units + 64 < cLine := by have := R.units; show A.units + 64 < 9900; omega

theorem only_toks {M : Model} {A : Around} {e : Sem Value} {s : Shared} {Q E : Value → Shared → Prop} (h1 : wpAny M A e (fun v s' => ∃ k t tk, v = .int k t ∧ s' = { s with toks := tk }) E s) (h2 : ∀ k t tk, Q (.int k t) { s with toks := tk }) : wpAny M A e Q E s :=
  wpAny_mono h1 (by rintro v s' ⟨k, t, tk, rfl, rfl⟩; exact h2 k t tk) (fun _ _ e => e)

inductive AnyBag (zs0 : List Z) (L : Addr) (o1 : Obj) (o2 : Obj) (o3 : Obj) (frs : List (Addr × Obj)) (i : Nat) (ys : List Value) (news : List (Addr × Obj)) : Prop
  | mk (zs : List Z) (cs : List (Addr × Obj)) (f1 : ys = zs.map (·.1)) (f2 : zs.map (·.2) = (zs0.take i).map (·.2)) (f3 : (∀ z ∈ zs, LPair cs z)) (f4 : PCells cs) (f5 : news = cs ++ ((L + 1 + 1 + 1, o1) :: (L + 1 + 1, o2) :: (L + 1, o3) :: frs)) : AnyBag zs0 L o1 o2 o3 frs i ys news
inductive AnyTurn (L : Addr) (frs : List (Addr × Obj)) (outer : List Env) (pa : Addr) (Rc : Nat → List (Int × Int) → Prop) (i : Nat) (m : Str → Option Value) (news : List (Addr × Obj)) : Prop
  | mk (ba : Addr) (bs : List Z) (nb : Nat) (cs frs' : List (Addr × Obj)) (o1 o2 o3 : Obj) (x1 x2 x3 : Option Value) (f1 : news = (L + 1 + 1 + 1, o1) :: (L + 1 + 1, o2) :: (L + 1, o3) :: (ba, listOf (bs.map (·.1)).toArray nb) :: (frs' ++ cs)) (f2 : SlotEq frs frs') (f3 : Outs outer frs') (f4 : m (Str.ofString "picks") = some (.ref pa)) (f5 : m (Str.ofString "bag") = some (.ref ba)) (f6 : o1.data = .cell x1) (f7 : o2.data = .cell x2) (f8 : o3.data = .cell x3) (f9 : Rc i (bs.map (·.2))) (f10 : (∀ z ∈ bs, LPair cs z)) (f11 : PCells cs) : AnyTurn L frs outer pa Rc i m news
inductive AnyTold (L : Addr) (o1 : Obj) (o2 : Obj) (o3 : Obj) (rs : List (Addr × Obj)) (bs : List Z) (i : Nat) (ys : List Value) (news : List (Addr × Obj)) : Prop
  | mk (f1 : news = (L + 1 + 1 + 1, o1) :: (L + 1 + 1, o2) :: (L + 1, o3) :: rs) (f2 : IntsAre ys ((bs.take i).map (·.2.1))) : AnyTold L o1 o2 o3 rs bs i ys news
inductive AnyPlaces (r : Addr) (oR : Obj) (L : Addr) (o3' : Obj) (D1 : Addr) (tv : List Value) (o1 : Obj) (o2 : Obj) (rs : List (Addr × Obj)) (ts : List Int) (i : Nat) (ys : List Value) (news : List (Addr × Obj)) : Prop
  | mk (f1 : news = (r, oR) :: (L + 1, o3') :: (D1, lst tv) :: (L + 1 + 1 + 1, o1) :: (L + 1 + 1, o2) :: rs) (ps : List Int) (f2 : IntsAre ys ps) (f3 : ps.Nodup) (f4 : ∀ x, x ∈ ps ↔ x ∈ ts.take i) : AnyPlaces r oR L o3' D1 tv o1 o2 rs ts i ys news
inductive AnyOdd (L : Addr) (o2' : Obj) (mi : Addr) (sv : List Value) (n2 : Nat) (o3' : Obj) (D1 : Addr) (tv : List Value) (o1 : Obj) (rs3 : List (Addr × Obj)) (i : Nat) (ys : List Value) (news : List (Addr × Obj)) : Prop
  | mk (f1 : news = (L + 1 + 1, o2') :: (mi, listOf sv.toArray n2) :: (L + 1, o3') :: (D1, lst tv) :: (L + 1 + 1 + 1, o1) :: rs3) (f2 : ys = []) : AnyOdd L o2' mi sv n2 o3' D1 tv o1 rs3 i ys news
inductive AnyTuples (bs : List Z) (L : Addr) (o2' : Obj) (mi : Addr) (sv : List Value) (n2 : Nat) (o3' : Obj) (D1 : Addr) (tv : List Value) (o1 : Obj) (rs3 : List (Addr × Obj)) (i : Nat) (ys : List Value) (news : List (Addr × Obj)) : Prop
  | mk (zs : List Z) (cs2 : List (Addr × Obj)) (f1 : ys = zs.map (·.1)) (f2 : zs.map (·.2) = (bs.take i).map (·.2)) (f3 : (∀ z ∈ zs, ∃ a t u n, z.1 = .ref a ∧ (a, chipO z.2.1 z.2.2 t u n) ∈ cs2)) (f4 : news = cs2 ++ ((L + 1 + 1, o2') :: (mi, listOf sv.toArray n2) :: (L + 1, o3') :: (D1, lst tv) :: (L + 1 + 1 + 1, o1) :: rs3)) : AnyTuples bs L o2' mi sv n2 o3' D1 tv o1 rs3 i ys news
inductive AnyThere (L : Addr) (o1' : Obj) (o2' : Obj) (mi : Addr) (sv : List Value) (n2 : Nat) (o3' : Obj) (D1 : Addr) (tv : List Value) (rs3 : List (Addr × Obj)) (bs : List Z) (x : Int) (i : Nat) (ys : List Value) (news : List (Addr × Obj)) : Prop
  | mk (f1 : news = (L + 1 + 1 + 1, o1') :: (L + 1 + 1, o2') :: (mi, listOf sv.toArray n2) :: (L + 1, o3') :: (D1, lst tv) :: rs3) (f2 : ys = ((bs.take i).filter fun z => decide (z.2.1 = x)).map (·.1)) : AnyThere L o1' o2' mi sv n2 o3' D1 tv rs3 bs x i ys news
inductive AnyNext (a1 : Addr) (z1 : Z) (z2 : Z) (a2 : Addr) (I : Addr) (NL : List (Addr × Obj)) (i : Nat) (ys : List Value) (news : List (Addr × Obj)) : Prop
  | mk (zs : List Z) (csn : List (Addr × Obj)) (f1 : ys = zs.map (·.1)) (f2 : zs.map (·.2) = (([(.ref a1, z1.2.1 - 1, min z1.2.2 z2.2.2), (.ref a2, z1.2.1 + 1, max z1.2.2 z2.2.2)] : List Z).take i).map (·.2)) (f3 : (∀ z ∈ zs, LPair csn z)) (f4 : PCells csn) (f5 : (∀ p ∈ csn, p.1 ≠ I)) (f6 : news = csn ++ NL) : AnyNext a1 z1 z2 a2 I NL i ys news
theorem any_call {w : World} {h₀ : Heap} {A : Around} {s : Shared} {Q E : Value → Shared → Prop} {ca pa : Addr} {zs0 : List Z} {nc np : Nat} {pv : List Value} {pk : List Int} {outer : List Env} {frs : List (Addr × Obj)} {n tm : Nat} {due : List (Int × Int)} {Rc : Nat → List (Int × Int) → Prop}
    (G : Gd w h₀ s.heap) (R : Rm A 10) (hA : A.frames = some outer) (O : Outs outer frs) (hfrs : ∀ p ∈ frs, s.heap.get? p.1 = some p.2) (hfn : ∀ p ∈ frs, h₀.get? p.1 = none)
    (hc : s.heap.get? ca = some (listOf (zs0.map (·.1)).toArray nc)) (hz0 : ∀ z ∈ zs0, Chip s.heap z) (hpa : s.heap.get? pa = some (listOf pv.toArray np)) (hpk : IntsAre pv pk) (hpl : pv.length ≤ 63) (hn46 : n = 4 ∨ n = 6) (W : Law n tm due Rc) (h0 : Rc 0 (zs0.map (·.2)))
    (h : ∀ (h' : Heap) (tk' : Nat) (r al : Addr) (t1 : Tok) (n1 : Nat) (zs : List Z) (frs' : List (Addr × Obj)), Ext (frs.map (·.1)) s.heap h' → SlotEq frs frs' → (∀ p ∈ frs', h'.get? p.1 = some p.2) →
      h'.get? r = some { cls := .type "tuple", data := .seq #[.int (tm : Nat) t1, .ref al] } → h'.get? al = some (listOf (zs.map (·.1)).toArray n1) → zs.map (·.2) = due → (∀ z ∈ zs, Chip h' z) → s.heap.get? r = none → s.heap.get? al = none → Q (.ref r) { s with heap := h', toks := tk' }) :
    wpAny (model Challenge.rw_pg0109_01.row.prog w) A (call (.ref 103) [.ref ca, .ref pa]) Q E s := by
  have hn' : ∀ a ∈ frs.map (·.1), h₀.get? a = none := by
    intro a ha
    obtain ⟨p, hp, rfl⟩ := List.mem_map.mp ha
    exact hfn p hp
  have Gg := G.hide hn'
  have X := (G.hide hn').in
  obtain ⟨loose, mean, mg, mb, T⟩ := (G.hide hn').top
  have X0 := G.in
  refine wpAny_call ?_
  revert X; k_fill; intro X
  refine' callFC (binds := [(Str.ofString "chips", Value.ref ca), (Str.ofString "picks", Value.ref pa)]) (frs.map (·.1)) X0 (T.nolimit.keeps fun b o e => of_hideAll _ e) ?ho ?hcd R.room ?hbind ?hkind ?hnd ?_ ?c2 ?c3 ?c4
  (case ho => k_is)
  (case hcd => k_is)
  (case hbind => exact BindsTo.of_eq rfl)
  (case hkind => exact rfl)
  (case hnd => decide +kernel)
  (case c2 => exact rfl)
  (case c3 => exact rfl)
  (case c4 => exact rfl)
  intro L h' tk0 cells hL F' NC Y hk' hnew
  have hcc := CellsAre.three Y
  obtain ⟨o1, o2, o3, hE, d1, d2, d3⟩ := hcc
  subst hE
  clear Y
  have d1 : o1.data = .cell none := d1
  have d2 : o2.data = .cell none := d2
  have d3 : o3.data = .cell none := d3
  have N' : News (hideAll s.heap (frs.map (·.1))) L h' frs := fun p hp' =>
    ⟨hk' _ _ (hfrs p hp'), hL ▸ Nat.ne_of_lt (Heap.lt_size (hfrs p hp')), hideAll_none _ (List.mem_map_of_mem hp')⟩
  have hext : ∀ b o, b ∉ (frs.map (·.1)) → s.heap.get? b = some o → (hideAll s.heap (frs.map (·.1))).get? b = some o := fun b o n e => hideAll_get _ e n
  have hdict := O.dict
  have hnofr : ∀ b o vs n, s.heap.get? b = some o → o.data = .seq vs n → b ∉ frs.map (·.1) := by
    intro b o vs n hb hd hm
    obtain ⟨p, hp, rfl⟩ := List.mem_map.mp hm
    rw [hfrs p hp] at hb
    cases hb
    obtain ⟨es, k, e⟩ := hdict p hp
    rw [e] at hd; cases hd
  have hcg : (hideAll s.heap (frs.map (·.1))).get? ca = some (listOf (zs0.map (·.1)).toArray nc) := hext _ _ (hnofr _ _ _ _ hc rfl) hc
  have hpg : (hideAll s.heap (frs.map (·.1))).get? pa = some (listOf pv.toArray np) := hext _ _ (hnofr _ _ _ _ hpa rfl) hpa
  have hzg : ∀ z ∈ zs0, Chip (hideAll s.heap (frs.map (·.1))) z := by
    intro z hz
    obtain ⟨a, t, u, n, e1, e2⟩ := hz0 z hz
    exact ⟨a, t, u, n, e1, hext _ _ (hnofr _ _ _ _ e2 rfl) e2⟩
  clear G X0
  generalize hideAll s.heap (frs.map (·.1)) = g at *
  have hsz : ∀ ys : List Z, ys.length ≤ 100 → (ys.map (·.1)).length ≤ sizeLine := fun ys hy => by rw [List.length_map]; show _ ≤ 2 ^ 24; omega
  have hl0 := W.len h0
  rw [List.length_map] at hl0
  have hW := W.small
  obtain ⟨m0, hm0, F0, mc, mp⟩ : ∃ m0, m0 = m0 ∧ Fr g L h' m0 ∧ m0 (Str.ofString "chips") = some (.ref ca) ∧ m0 (Str.ofString "picks") = some (.ref pa) := ⟨_, rfl, F', rfl, rfl⟩
  clear F' hm0
  rw [set_has mc, set_has mp] at F0
  have NN : News g L h' ((L + 1 + 1 + 1, o1) :: (L + 1 + 1, o2) :: (L + 1, o3) :: frs) := by
    refine fa_cons ?_ ?_
    · exact NC _ (.head _)
    refine fa_cons ?_ ?_
    · exact NC _ (.tail _ (.head _))
    refine fa_cons ?_ ?_
    · exact NC _ (.tail _ (.tail _ (.head _)))
    intro p hp1
    · exact N' _ hp1
  clear N' NC
  walk_at "go"
  refine Assign_ListComp_U (F₀ := F0) rfl (by with_unfolding_all rfl) (by with_unfolding_all rfl) (by decide) (by rfl) (by decide) (by rfl) (by rfl) (by rfl) ?_
  walk_at "go"
  refine CompSrc.base R.deeper.handled F0 NN (cell_isList hcg) (by simpa using hsz _ (by omega)) fun g1 => compRest_ind (n := (zs0.map (·.1)).toArray.size) (AnyBag zs0 L o1 o2 o3 frs) ?_ ?_ _ 0 [] _ (by omega) ⟨[], [], rfl, by simp, (fun _ h => nomatch h), (fun _ h => nomatch h), rfl⟩
  rotate_left 1
  · rintro i ys news v I oI C oC D m2 h2 tk2 E' hi ⟨zs, cs, rfl, hv, hz, hcs, rfl⟩ hiv hoC hmx F2 N2 off2 hne
    obtain ⟨z, hz1, rfl⟩ : ∃ z, zs0[i]? = some z ∧ z.1 = v := by simpa using hiv
    obtain ⟨a, t, u, k, e1, e2⟩ := hzg z (List.mem_of_getElem? hz1)
    walk_at "go"
    rw [e1]
    refine list_copyKT (items := #[.int z.2.1 t, .int z.2.2 u]) F2 N2 ⟨_, F2.keep _ _ e2, rfl, k, rfl⟩ ?_ (show 2 ≤ sizeLine from by decide)
    intro D1 c1 h3 F3 N3 l3
    walk_at "go"
    refine CompEnd.intro F3 N3 ((D1, listOf #[.int z.2.1 t, .int z.2.2 u] c1) :: (cs ++ ((L + 1 + 1 + 1, o1) :: (L + 1 + 1, o2) :: (L + 1, o3) :: frs))) (by walk_at "memb") (Off3.of fun p hp1 => ?_) (.inl (cell_isList hcg)) ⟨zs ++ [(.ref D1, z.2)], (D1, listOf #[.int z.2.1 t, .int z.2.2 u] c1) :: cs, by simp, ?_, ?_, ?_, rfl⟩
    · rcases List.mem_cons.mp hp1 with rfl | hp1
      · exact ⟨Nat.ne_of_gt (l3 _ (.head _)), Nat.ne_of_gt (l3 _ (.tail _ (.head _))), Nat.ne_of_gt (l3 _ (.tail _ (.tail _ (.head _))))⟩
      · exact off2.mem p hp1
    · rw [List.take_add_one, hz1]; simp [hv]
    · intro q hq
      rcases List.mem_append.mp hq with hq | hq
      · exact (hz q hq).mono fun _ h => .tail _ h
      · cases List.mem_singleton.mp hq
        exact ⟨D1, t, u, c1, rfl, .head _⟩
    · refine fa_cons ?_ ?_
      · exact ⟨_, _, _, _, _, rfl⟩
      intro p hp1
      · exact hcs p hp1
  rintro ys news ⟨zs, cs, rfl, hv, hz, hcs, rfl⟩
  replace hv : zs.map (·.2) = zs0.map (·.2) := by simpa using hv
  intro ba h2 tk2 F2 N2 off2
  walk_at "go"
  refine For_invV g rfl rfl ?_
  walk_at "go"
  refine range1 F2 N2 ?_
  intro r h5 tk5 t5 t6 F5 N5 l5 lL5
  walk_at "go"
  refine iter_range F5 N5 (.head _) (k := 20) rfl (by omega) ?_
  intro I h6 F6 N6 l6 lL6
  refine loop_rangeIt (k := 20) (news := (L + 1 + 1 + 1, o1) :: (L + 1 + 1, o2) :: (L + 1, o3) :: (ba, lst (zs.map (·.1))) :: (frs ++ cs)) (AnyTurn L frs outer pa Rc) R.deeper.handled (N6.get (.head _)) (N6.fresh (.head _)) ?_ ?_ F6 (news_sub N6 (by walk_at "memb")) ⟨ba, zs, _, cs, frs, o1, o2, o3, _, _, _, rfl, SlotEq.refl _, O, rfl, rfl, d1, d2, d3, by rw [hv]; exact h0, hz, hcs⟩ ?_ ?_
  · exact Nat.ne_of_lt lL6
  · intro p hp1
    exact Nat.ne_of_lt (l6 p (.tail _ (Sub.at (by walk_at "memb") p hp1)))
  rotate_left 1
  · rintro m news₁ h7 tk7 ⟨ba, bs, nb, cs, frs', o1, o2, o3, x1, x2, x3, rfl, hSl, hO, m1, m2, d1, d2, d3, hR, hC, hcs⟩ F7 N7
    have := W.lim hR
    omega
  clear hcs hz hv off2 F2 N2 F0 NN d1 d2 d3 mc mp hnew F5 N5 l5 F6 N6 l6
  rintro i ti m news₁ h7 tk7 o hi ⟨ba, bs, nb, cs, frs', o1, o2, o3, x1, x2, x3, rfl, hSl, hO, m1, m2, d1, d2, d3, hR, hC, hcs⟩ hneI F7 N7
  replace F7 : Fr g L h7 _ := F7
  replace N7 : News g L h7 _ := N7
  rw [set_has m1, set_has m2] at F7
  have hlb := W.len hR
  rw [List.length_map] at hlb
  have hzt : (0 : Int) + (i : Int) * 1 = (i : Nat) := by omega
  rw [hzt] at F7
  have hKI : ∀ p ∈ ((ba, listOf (bs.map (·.1)).toArray nb) :: (frs' ++ cs) : List (Addr × Obj)), p.1 ≠ L + 1 ∧ p.1 ≠ L + 1 + 1 ∧ p.1 ≠ L + 1 + 1 + 1 := by
    intro p hp1
    have hz := (N7 p (Sub.at (by walk_at "memb") p hp1)).1
    have z1 := (N7 (L + 1 + 1 + 1, o1) (.tail _ (.head _))).1
    have z2 := (N7 (L + 1 + 1, o2) (.tail _ (.tail _ (.head _)))).1
    have z3 := (N7 (L + 1, o3) (.tail _ (.tail _ (.tail _ (.head _))))).1
    have hd : ∀ v, p.2.data ≠ .cell v := by
      intro v e
      rcases List.mem_cons.mp hp1 with rfl | hp1
      · cases e
      rcases List.mem_append.mp hp1 with hp1 | hp1
      · obtain ⟨es, k, e2⟩ := hO.dict p hp1
        rw [e2] at e; cases e
      · obtain ⟨x, y, t, u, n, e2⟩ := hcs p hp1
        rw [e2] at e; cases e
    refine ⟨fun e => ?_, fun e => ?_, fun e => ?_⟩
    · rw [e, z3] at hz; exact hd _ (by rw [← Option.some.inj hz]; exact d3)
    · rw [e, z2] at hz; exact hd _ (by rw [← Option.some.inj hz]; exact d2)
    · rw [e, z1] at hz; exact hd _ (by rw [← Option.some.inj hz]; exact d1)
  have hfX : ∀ q ∈ frs', ∀ p ∈ ((I, o) :: (ba, listOf (bs.map (·.1)).toArray nb) :: cs : List (Addr × Obj)), q.1 ≠ p.1 := by
    intro q hq p hp1 e
    rcases List.mem_cons.mp hp1 with rfl | hp1
    · exact hneI q (.tail _ (.tail _ (.tail _ (.tail _ (List.mem_append_left _ hq))))) e
    have hs := news_same N7 (p := q) (q := p) (.tail _ (.tail _ (.tail _ (.tail _ (.tail _ (List.mem_append_left _ hq)))))) (Sub.at (by walk_at "memb") p hp1) e
    obtain ⟨es, k, e2⟩ := hO.dict q hq
    rw [hs] at e2
    rcases List.mem_cons.mp hp1 with rfl | hp1
    · cases e2
    · obtain ⟨x, y, t, u, n, e3⟩ := hcs p hp1
      rw [e3] at e2; cases e2
  obtain ⟨rs, hrs⟩ : ∃ rs, rs = ((I, o) :: (ba, listOf (bs.map (·.1)).toArray nb) :: (frs' ++ cs) : List (Addr × Obj)) := ⟨_, rfl⟩
  have hK : ∀ p ∈ rs, p.1 ≠ L + 1 ∧ p.1 ≠ L + 1 + 1 ∧ p.1 ≠ L + 1 + 1 + 1 := by
    intro p hp1
    rw [hrs] at hp1
    rcases List.mem_cons.mp hp1 with rfl | hp1
    · exact ⟨fun e => hneI _ (.tail _ (.tail _ (.head _))) e.symm, fun e => hneI _ (.tail _ (.head _)) e.symm, fun e => hneI _ (.head _) e.symm⟩
    · exact hKI p hp1
  have hba : (ba, listOf (bs.map (·.1)).toArray nb) ∈ rs := by rw [hrs]; exact .tail _ (.head _)
  have hfrr : ∀ p ∈ frs', p ∈ rs := fun p hp1 => by rw [hrs]; exact .tail _ (.tail _ (List.mem_append_left _ hp1))
  have hcr : ∀ p ∈ cs, p ∈ rs := fun p hp1 => by rw [hrs]; exact .tail _ (.tail _ (List.mem_append_right _ hp1))
  have hIr : (I, o) ∈ rs := by rw [hrs]; exact .head _
  have hCr : ∀ z ∈ bs, LPair rs z := fun z hz => (hC z hz).mono hcr
  have N8 : News g L h7 ((L + 1 + 1 + 1, o1) :: (L + 1 + 1, o2) :: (L + 1, o3) :: rs) := by
    rw [hrs]; exact news_sub N7 (by walk_at "memb")
  clear N7 hKI
  refine wpAny_execs_cons (wpAny_Assign_Name ?_ (by with_unfolding_all rfl))
  refine ListComp_U (F₀ := F7) (by with_unfolding_all rfl) (by decide) (by rfl) (by decide) (by rfl) ?_
  walk_at "go"
  refine CompSrc.ledger R.deeper.handled F7 N8 (.tail _ (.tail _ (.tail _ hba))) (by simpa using hsz bs (by omega)) fun g1 => compRest_ind (n := (bs.map (·.1)).toArray.size) (AnyTold L o1 o2 o3 rs bs) ?_ ?_ _ 0 [] _ (by omega) ⟨rfl, .nil⟩
  rotate_left 1
  · rintro i ys news v I2 oI C oC D m2 h2 tk2 E' hi ⟨rfl, hys⟩ hiv hoC hmx F2 N2 off2 hne
    obtain ⟨z, hz1, rfl⟩ : ∃ z, bs[i]? = some z ∧ z.1 = v := by simpa using hiv
    walk_at "go"
    refine item_h0 F2 ((hCr z (List.mem_of_getElem? hz1)).pair N2 (by walk_at "memb")) ?_ (by intro a; with_unfolding_all rfl)
    intro t1
    walk_at "go"
    refine CompEnd.intro F2 N2 ((L + 1 + 1 + 1, o1) :: (L + 1 + 1, o2) :: (L + 1, o3) :: rs) (by walk_at "memb") off2 (.inr ⟨_, .tail _ (.tail _ (.tail _ hba)), rfl, _, rfl⟩) ⟨rfl, ?_⟩
    rw [List.take_add_one, hz1, List.map_append]
    exact hys.append (.cons _ _ .nil)
  rintro tv news ⟨rfl, htv⟩
  replace htv : IntsAre tv (bs.map (·.2.1)) := by simpa using htv
  intro D1 h9 tk9 F9 N9 off9
  have hD1 := off1_mem off9
  clear off9
  refine storeX_C (c := L + 1) F9 (news_sub (l' := (L + 1, o3) :: (D1, lst tv) :: (L + 1 + 1 + 1, o1) :: (L + 1 + 1, o2) :: rs) N9 (by walk_at "memb")) rfl (.head ?_) d3 ?_
  · refine fa_cons ?_ ?_
    · exact fun e => hD1 _ (.tail _ (.tail _ (.head _))) e.symm
    refine fa_cons ?_ ?_
    · exact fun e => absurd e (by show L + 1 + 1 + 1 ≠ L + 1; omega)
    refine fa_cons ?_ ?_
    · exact fun e => absurd e (by show L + 1 + 1 ≠ L + 1; omega)
    intro p hp1
    · exact (hK p hp1).1
  intro h10 o3' F10 N10 d3'
  walk_at "go"
  refine Assign_ListComp_T (F₀ := F10) rfl (by with_unfolding_all rfl) (by with_unfolding_all rfl) (by decide) (by rfl) (by decide) (by rfl) (by rfl) (by rfl) ?_
  walk_at "go"
  have hlt : tv.length = bs.length := by rw [htv.length, List.length_map]
  have hszt : tv.length ≤ sizeLine := by show _ ≤ 2 ^ 24; omega
  have hinj : (lst tv) = listOf tv.toArray tv.length := rfl
  refine len_at (D := D1) (vs := tv) (n := tv.length) (N10.get (.tail _ (.head _))) hszt ?_
  walk_at "go"
  refine range1 (by assumption) (by assumption) ?_
  intro r h11 tk11 t5 t6 F11 N11 l11 lL11
  walk_at "go"
  generalize hts : bs.map (fun z : Z => z.2.1) = ts at *
  have hlts : ts.length = tv.length := by rw [hlt, ← hts, List.length_map]
  refine CompSrcT.range R.deeper.handled F11 N11 (N11.get (.head _)) (small_one (by decide) (by decide) (by omega) (by omega)) (n := tv.length) (by rw [rangeSize_one]; split <;> omega) hszt fun g1 => compRestT_ind (n := tv.length) (AnyPlaces r (rangeO 0 (tv.length : Nat) 1 t5 _ t6) L o3' D1 tv o1 o2 rs ts) ?_ ?_ _ 0 [] _ (by omega) ⟨rfl, [], .nil, List.nodup_nil, by simp⟩
  rotate_left 1
  · rintro j ys news v I2 oI C oC D m2 h2 tk2 E' hj ⟨rfl, ps, hys, hpn, hpm⟩ ⟨tj, rfl⟩ hoC hmx F2 N2 off2 hne
    obtain ⟨x, hx⟩ : ∃ x, ts[j]? = some x := ⟨_, List.getElem?_eq_getElem (by omega)⟩
    obtain ⟨tx, htx⟩ := ints_get htv hx
    walk_at "go"
    refine item_at (D := D1) (vs := tv) (n := tv.length) (i := j) (N2.get (.tail _ (.tail _ (.tail _ (.tail _ (.tail _ (.head _))))))) (by omega) htx hszt ?_ (by with_unfolding_all rfl)
    walk_at "go"
    refine' kmk_slice_ints (s := { heap := h2, gens := _, drawn := _, toks := _, os := _ }) (vs := tv) (ns := ts) (ms := ts.take (0 + (j : Int)).toNat) ?F ?N ?l .none (.int _ _) htv (kmk_upto htv (by omega)) rfl ?_ ?s ?t ?z
    (case F => assumption)
    (case N => assumption)
    (case l => exact cell_isList (N2.get (.tail _ (.tail _ (.tail _ (.tail _ (.tail _ (.head _))))))))
    (case s => with_unfolding_all rfl)
    (case t => intro r; rfl)
    (case z => simpa using hszt)
    intro D2 ws h3 F3 N3 l3 hws hw1 hw2
    refine notin_list_ints (cell_isList (N3.get (.head _))) hws ?_
    have hjt : (0 + (j : Int)).toNat = j := by omega
    rw [hjt] at hws ⊢
    have hany : ((ts.take j).any (· == x)) = true ↔ x ∈ ts.take j := by simp
    walk_at "go"
    · have hx2 : x ∈ ts.take j := hany.mp (by assumption)
      refine CompEnd.intro F3 N3 _ (by walk_at "memb") off2 trivial ⟨rfl, ps, hys, hpn, ?_⟩
      intro y
      rw [List.take_add_one, hx, List.mem_append, hpm]
      constructor
      · exact .inl
      · rintro (h | h)
        · exact h
        · cases (show y = x by simpa using h); exact hx2
    · have hx2 : x ∉ ts.take j := fun q => by
        have q2 := hany.mpr q
        rename List.any _ _ = false => hf
        rw [q2] at hf; cases hf
      refine item_at (D := D1) (vs := tv) (n := tv.length) (i := j) (N3.get (.tail _ (.tail _ (.tail _ (.tail _ (.tail _ (.tail _ (.head _)))))))) (by omega) htx hszt ?_ (by with_unfolding_all rfl)
      refine CompEnd.intro F3 N3 _ (by walk_at "memb") off2 trivial ⟨rfl, ps ++ [x], hys.append (.cons _ _ .nil), ?_, ?_⟩
      · rw [List.nodup_append]
        refine ⟨hpn, by simp, fun a ha b hb => ?_⟩
        cases List.mem_singleton.mp hb
        exact fun e => hx2 ((hpm _).mp (e ▸ ha))
      · intro y
        rw [List.take_add_one, hx, List.mem_append, List.mem_append, hpm]
        simp
  rintro pv2 news ⟨rfl, ps, hps, hpn, hpm⟩
  replace hpm : ∀ x, x ∈ ps ↔ x ∈ ts := by
    have : ts.take tv.length = ts := List.take_of_length_le (by omega)
    rwa [this] at hpm
  intro D3 h12 tk12 F12 N12 off12
  have hD3 := off1_mem off12
  clear off12
  have hlp : pv2.length ≤ tv.length := by
    rw [hps.length, ← hlts]
    exact List.Nodup.length_le_of_subset hpn fun x hx => (hpm x).mp hx
  replace N12 := news_sub (l' := (D3, lst pv2) :: (L + 1, o3') :: (D1, lst tv) :: (L + 1 + 1 + 1, o1) :: (L + 1 + 1, o2) :: rs) N12 (by walk_at "memb")
  walk_at "go"
  refine copy_at (vs := tv) (n := tv.length) F12 N12 (N12.get (.tail _ (.tail _ (.head _)))) hszt ?_
  intro D4 c4 h13 F13 N13 l13
  walk_at "go"
  refine copy_at (vs := pv2) (n := pv2.length) (by assumption) (by assumption) (N13.get (.tail _ (.head _))) (by omega) ?_
  intro D5 c5 h14 F14 N14 l14
  walk_at "go"
  have hgL : g.get? L = none := by
    cases q : g.get? L with
    | none => rfl
    | some ob => exact absurd (Nat.lt_of_lt_of_le (Heap.lt_size q) F14.above) (Nat.lt_irrefl _)
  have hn0 : ∀ a, g.get? a = none → h₀.get? a = none := by
    intro a ha
    cases q : h₀.get? a with
    | none => rfl
    | some ob => rw [Gg.keep _ _ q] at ha; cases ha
  have hfg : ∀ p ∈ frs', g.get? p.1 = none := fun p hp1 => (N8 p (.tail _ (.tail _ (.tail _ (hfrr p hp1))))).2.2
  have hr14 : ∀ p ∈ rs, p ∈ ((D5, listOf pv2.toArray c5) :: (D4, listOf tv.toArray c4) :: (D3, lst pv2) :: (L + 1, o3') :: (D1, lst tv) :: (L + 1 + 1 + 1, o1) :: (L + 1 + 1, o2) :: rs : List (Addr × Obj)) := Sub.at (by walk_at "memb")
  obtain ⟨oL, esL, epL, hoL, hdL, _⟩ := F14.ns
  refine uld_call (ea := D4) (da := D5) (es := tv) (as := pv2) (eq := fun y x => decide (numOf y = numOf x)) (frs := (L, oL) :: frs') (Gg.fr F14) (R.deeper.le (by omega)) (Around.frames_deeper hA) ⟨show ScopeKind.function ≠ ScopeKind.module from by decide, rfl, ⟨esL, epL, hdL⟩, hO⟩ ?_ ?_ (Nat.ne_of_lt (l14 _ (.head _))) ?_ ?_ (hn0 _ (N14.fresh (.tail _ (.head _)))) (hn0 _ (N14.fresh (.head _))) (N14.get (.tail _ (.head _))) (N14.get (.head _)) (by omega) (by omega) (fun A' s' _ _ => eq_num hps htv) ?_
  · refine fa_cons ?_ ?_
    · exact hoL
    intro p hp1
    · exact N14.get (hr14 p (hfrr p hp1))
  · refine fa_cons ?_ ?_
    · exact hn0 _ hgL
    intro p hp1
    · exact hn0 _ (hfg p hp1)
  · refine fa_cons ?_ ?_
    · exact fun e => (N14 _ (.tail _ (.head _))).2.1 e.symm
    intro p hp1
    · exact Nat.ne_of_lt (l13 p (Sub.at (by walk_at "memb") p (hfrr p hp1)))
  · refine fa_cons ?_ ?_
    · exact fun e => (N14 _ (.head _)).2.1 e.symm
    intro p hp1
    · exact Nat.ne_of_lt (l14 p (Sub.at (by walk_at "memb") p (hfrr p hp1)))
  intro h15 tk15 r2 mi n1 n2 frs2 e15 sl15 hf15 g15 gr gmi nr nmi
  obtain ⟨F15, frs3, sl3, hf3⟩ := after_uld F14 hoL e15 sl15 hf15 (N14.fresh (.tail _ (.head _))) (N14.fresh (.head _)) hfg
  have hul : (uld (fun y x => decide (numOf y = numOf x)) tv.reverse [] pv2).2 = [] := uld_none (key := numOf) (fun _ _ => rfl) _ _ _ (by rw [hps.nums]; exact hpn) (fun a ha => by
    rw [List.map_reverse, List.mem_reverse, htv.nums, ← hpm, ← hps.nums]; exact List.mem_map_of_mem ha)
  have hup := uld_perm (key := numOf) (eq := fun y x => decide (numOf y = numOf x)) (fun _ _ => rfl) tv.reverse [] pv2
  have hmm := uld_mem1 (eq := fun y x => decide (numOf y = numOf x)) tv.reverse [] pv2
  rw [hul] at g15 hup
  generalize (uld (fun y x => decide (numOf y = numOf x)) tv.reverse [] pv2).1 = sv at *
  have hsv : IntsAre sv (sv.map numOf) := intsAre_map sv fun v hv => by
    rcases hmm v hv with h | h
    · cases h
    · exact htv.all v (by simpa using h)
  have hsp : (sv.map numOf ++ ps).Perm ts := by
    simp only [List.map_append, List.nil_append, List.append_nil, List.map_reverse, hps.nums, htv.nums] at hup
    exact hup.trans (List.reverse_perm ts)
  generalize sv.map numOf = sp at *
  clear hup hmm hul sl15 hf15
  have hnew : ∀ a ob, h14.get? a = none → h15.get? a = some ob → h15.get? a = some ob ∧ a ≠ L ∧ g.get? a = none := by
    intro a ob q1 q2
    refine ⟨q2, (fun e => by rw [e, hoL] at q1; cases q1), ?_⟩
    cases q : g.get? a with
    | none => rfl
    | some o' => rw [F14.keep _ _ q] at q1; cases q1
  have N15a : News g L h15 ((D3, lst pv2) :: (L + 1, o3') :: (D1, lst tv) :: (L + 1 + 1 + 1, o1) :: (L + 1 + 1, o2) :: (I, o) :: (ba, listOf (bs.map (·.1)).toArray nb) :: cs) := by
    have hs1 : Sub ((D3, lst pv2) :: (L + 1, o3') :: (D1, lst tv) :: (L + 1 + 1 + 1, o1) :: (L + 1 + 1, o2) :: (I, o) :: (ba, listOf (bs.map (·.1)).toArray nb) :: cs) ((D3, lst pv2) :: (L + 1, o3') :: (D1, lst tv) :: (L + 1 + 1 + 1, o1) :: (L + 1 + 1, o2) :: rs) := by rw [hrs]; walk_at "memb"
    refine news_uld (news_sub N14 (fun p hp1 => .tail _ (.tail _ (hs1 p hp1)))) e15 (fun p hp1 => Nat.ne_of_lt (l13 p (hs1 p hp1))) (fun p hp1 => Nat.ne_of_lt (l14 p (.tail _ (hs1 p hp1)))) ?_
    intro p hp1 q hq
    have hqr := hfrr q hq
    rcases List.mem_cons.mp hp1 with rfl | hp1
    · exact hD3 q (Sub.at (by walk_at "memb") q hqr)
    rcases List.mem_cons.mp hp1 with rfl | hp1
    · exact (hK q hqr).1
    rcases List.mem_cons.mp hp1 with rfl | hp1
    · exact hD1 q (Sub.at (by walk_at "memb") q hqr)
    rcases List.mem_cons.mp hp1 with rfl | hp1
    · exact (hK q hqr).2.2
    rcases List.mem_cons.mp hp1 with rfl | hp1
    · exact (hK q hqr).2.1
    · exact hfX q hq p hp1
  have hO3 := slot_outs sl3 hO
  have hSl3 := hSl.trans sl3
  have N15f : News g L h15 frs3 := slot_news sl3 (fun p hp1 => N14 p (hr14 p (hfrr p hp1))) hf3
  have hK3 : ∀ p ∈ ((I, o) :: (ba, listOf (bs.map (·.1)).toArray nb) :: (frs3 ++ cs) : List (Addr × Obj)), p.1 ≠ L + 1 ∧ p.1 ≠ L + 1 + 1 ∧ p.1 ≠ L + 1 + 1 + 1 := by
    intro p hp1
    have hh : p ∈ rs ∨ p ∈ frs3 := by
      rcases List.mem_cons.mp hp1 with rfl | hp1
      · exact .inl hIr
      rcases List.mem_cons.mp hp1 with rfl | hp1
      · exact .inl hba
      rcases List.mem_append.mp hp1 with hp1 | hp1
      · exact .inr hp1
      · exact .inl (hcr p hp1)
    rcases hh with hp1 | hp1
    · exact hK p hp1
    · exact ⟨slot_ne sl3 (fun q hq => (hK q (hfrr q hq)).1) p hp1, slot_ne sl3 (fun q hq => (hK q (hfrr q hq)).2.1) p hp1, slot_ne sl3 (fun q hq => (hK q (hfrr q hq)).2.2) p hp1⟩
  have hfX3 : ∀ q ∈ frs3, ∀ p ∈ ((I, o) :: (ba, listOf (bs.map (·.1)).toArray nb) :: cs : List (Addr × Obj)), q.1 ≠ p.1 := fun q hq p hp1 => slot_ne sl3 (fun q' hq' => hfX q' hq' p hp1) q hq
  have hD1S : D1 ≠ L + 1 + 1 := fun e => hD1 _ (.tail _ (.head _)) e.symm
  have hD1P : D1 ≠ L + 1 + 1 + 1 := fun e => hD1 _ (.head _) e.symm
  have hD3S : D3 ≠ L + 1 + 1 := fun e => hD3 _ (Sub.at (by walk_at "memb" : Sub [(L + 1 + 1, o2)] _) _ (.head _)) e.symm
  have hD3P : D3 ≠ L + 1 + 1 + 1 := fun e => hD3 _ (Sub.at (by walk_at "memb" : Sub [(L + 1 + 1 + 1, o1)] _) _ (.head _)) e.symm
  have hS14 : h14.get? (L + 1 + 1) ≠ none := by rw [N14.get (Sub.at (by walk_at "memb" : Sub [(L + 1 + 1, o2)] _) _ (.head _))]; exact fun e => nomatch e
  have hP14 : h14.get? (L + 1 + 1 + 1) ≠ none := by rw [N14.get (Sub.at (by walk_at "memb" : Sub [(L + 1 + 1 + 1, o1)] _) _ (.head _))]; exact fun e => nomatch e
  have N15 : News g L h15 ((r2, { cls := .type "tuple", data := .seq #[.ref mi, .ref D5] }) :: (mi, listOf sv.toArray n2) :: (D5, listOf [].toArray n1) :: (D3, lst pv2) :: (L + 1, o3') :: (D1, lst tv) :: (L + 1 + 1 + 1, o1) :: (L + 1 + 1, o2) :: (I, o) :: (ba, listOf (bs.map (·.1)).toArray nb) :: (frs3 ++ cs)) := by
    refine fa_cons ?_ ?_
    · exact hnew _ _ nr gr
    refine fa_cons ?_ ?_
    · exact hnew _ _ nmi gmi
    refine fa_cons ?_ ?_
    · exact ⟨g15, (N14 _ (.head _)).2⟩
    intro p hp1
    · exact news_sub (news_app N15f N15a) (by walk_at "memb") p hp1
  have hD5S : D5 ≠ L + 1 + 1 := fun e => Nat.ne_of_lt (l14 _ (Sub.at (by walk_at "memb" : Sub [(L + 1 + 1, o2)] _) _ (.head _))) e.symm
  have hD5P : D5 ≠ L + 1 + 1 + 1 := fun e => Nat.ne_of_lt (l14 _ (Sub.at (by walk_at "memb" : Sub [(L + 1 + 1 + 1, o1)] _) _ (.head _))) e.symm
  have hmiS : mi ≠ L + 1 + 1 := fun e => hS14 (e ▸ nmi)
  have hmiP : mi ≠ L + 1 + 1 + 1 := fun e => hP14 (e ▸ nmi)
  clear N15a N15f N14 F14 l14 l13 N13 F13 N12 F12 N11 F11 N10 F10 N9 F9 N8 hfX hnew hdL hoL sl3 hf3 e15 frs2 hr14 l11 hfrr hIr hba hcr hCr hK hD1 hD3
  clear hrs
  generalize hrs : ((I, o) :: (ba, listOf (bs.map (·.1)).toArray nb) :: (frs3 ++ cs) : List (Addr × Obj)) = rs3 at *
  walk_at "go"
  refine unpackN_ F15 N15 (News.isTup N15 (.head _)) R.deeper.handled rfl rfl ?_
  intro h16 F16 N16
  walk_at "go"
  refine storeX_C (c := L + 1 + 1) F16 (news_sub (l' := (L + 1 + 1, o2) :: (mi, listOf sv.toArray n2) :: (D5, listOf [].toArray n1) :: (D3, lst pv2) :: (L + 1, o3') :: (D1, lst tv) :: (L + 1 + 1 + 1, o1) :: rs3) N16 (by walk_at "memb")) rfl (.head ?_) d2 ?_
  · refine fa_cons ?_ ?_
    · exact hmiS
    refine fa_cons ?_ ?_
    · exact hD5S
    refine fa_cons ?_ ?_
    · exact hD3S
    refine fa_cons ?_ ?_
    · show L + 1 ≠ L + 1 + 1; omega
    refine fa_cons ?_ ?_
    · exact hD1S
    refine fa_cons ?_ ?_
    · show L + 1 + 1 + 1 ≠ L + 1 + 1; omega
    intro p hp1
    · exact (hK3 p hp1).2.1
  intro h17 o2' F17 N17 d2'
  clear N16 F16 N15 F15
  walk_at "go"
  rename Fr _ _ _ _ => F18
  rename News _ _ _ _ => N18
  refine ne_intsK (vs := []) (us := []) (cell_isList (N18.get (.tail _ (.tail _ (.tail _ (.head _)))))) .nil (cell_isList (N18.get (.head _))) .nil R.deeper.line64 ?_
  rw [show (!decide (([] : List Int) = [])) = false from rfl]
  replace N18 := news_sub (l' := (L + 1 + 1, o2') :: (mi, listOf sv.toArray n2) :: (D3, lst pv2) :: (L + 1, o3') :: (D1, lst tv) :: (L + 1 + 1 + 1, o1) :: rs3) N18 (by walk_at "memb")

  have hlsv : sv.length ≤ 100 := by
    have := hsp.length_eq
    rw [List.length_append] at this
    rw [hsv.length]; omega
  walk_at "go"
  refine add_lists_ints (vs := sv) (ws := pv2) F18 N18 (cell_isList (N18.get (.tail _ (.head _)))) (cell_isList (N18.get (.tail _ (.tail _ (.head _))))) hsv hps ?_ (by show _ ≤ 2 ^ 24; rw [← hsv.length, ← hps.length]; omega)
  intro h19 F19 N19 hI19
  walk_at "go"
  refine sorted_N F19 N19 (N19.isList (.head _)) hI19 (by rw [hI19.length, List.length_append, ← hsv.length, ← hps.length]; have := hsp.length_eq; rw [List.length_append, ← hsv.length, ← hps.length] at this; omega) ?_
  intro h20 vs1 ns1 e1 F20 N20 hI20 hp20 hs20
  walk_at "go"
  refine sorted_N (vs := tv) (ns := ts) (by assumption) (by assumption) (News.isList (by assumption) (Sub.at (by walk_at "memb" : Sub [(D1, lst tv)] _) _ (.head _))) htv (by omega) ?_
  intro h21 vs2 ns2 e2 F21 N21 hI21 hp21 hs21
  walk_at "go"
  have hnn : ns1 = ns2 := List.Perm.eq_of_pairwise (le := (· ≤ ·)) (fun x y _ _ h1 h2 => by omega) hs20 hs21 (hp20.trans (hsp.trans hp21.symm))
  refine ne_intsK (N20.isList (.head _) |> fun x => ?_) hI20 (N21.isList (.head _)) hI21 R.deeper.line64 ?_
  · exact N21.isList (.tail _ (.head _))
  rw [show (!decide (ns1 = ns2)) = false by simp [hnn]]
  walk_at "go"
  rename Fr _ _ _ _ => F22
  rename News _ _ _ _ => N22
  replace N22 := news_sub (l' := (L + 1 + 1, o2') :: (mi, listOf sv.toArray n2) :: (L + 1, o3') :: (D1, lst tv) :: (L + 1 + 1 + 1, o1) :: rs3) N22 (by walk_at "memb")
  refine ListComp_T (F₀ := F22) (by with_unfolding_all rfl) (by decide) (by rfl) (by decide) (by rfl) ?_
  walk_at "go"
  refine CompSrcT.ledger R.deeper.handled F22 N22 (.tail _ (.head _)) (by show _ ≤ 2 ^ 24; simp; omega) fun g1 => compRestT_ind (n := sv.toArray.size) (AnyOdd L o2' mi sv n2 o3' D1 tv o1 rs3) ?_ ?_ _ 0 [] _ (by omega) ⟨rfl, rfl⟩
  rotate_left 1
  · rintro j ys news v I2 oI C oC D m2 h2 tk2 E' hj ⟨rfl, rfl⟩ hiv hoC hmx F2 N2 off2 hne
    obtain ⟨x, tx, rfl⟩ := hsv.all v (List.mem_of_getElem? (by simpa using hiv))
    walk_at "go"
    walk1
    walk_at "go"
    refine CompEnd.intro (by assumption) (by assumption) _ (by walk_at "memb") off2 (.inr ⟨_, .tail _ (.head _), rfl, _, rfl⟩) ⟨rfl, rfl⟩
  rintro ys news ⟨rfl, rfl⟩
  intro D6 h23 tk23 F23 N23 off23
  walk_at "go"
  rename News _ _ _ _ => N24
  refine ne_intsK (vs := []) (us := []) (cell_isList (N24.get (.tail _ (.head _)))) .nil (cell_isList (N24.get (.head _))) .nil R.deeper.line64 ?_
  rw [show (!decide (([] : List Int) = [])) = false from rfl]
  replace N24 := news_sub (l' := (L + 1 + 1, o2') :: (mi, listOf sv.toArray n2) :: (L + 1, o3') :: (D1, lst tv) :: (L + 1 + 1 + 1, o1) :: rs3) N24 (by walk_at "memb")
  walk_at "go"
  rename Fr _ _ _ _ => F25
  rename News _ _ _ _ => N25
  refine eq_intsK (vs := sv) (us := []) (cell_isList (N25.get (.tail _ (.tail _ (.head _))))) hsv (cell_isList (N25.get (.head _))) .nil R.deeper.line64 ?_
  replace N25 := news_sub (l' := (L + 1 + 1, o2') :: (mi, listOf sv.toArray n2) :: (L + 1, o3') :: (D1, lst tv) :: (L + 1 + 1 + 1, o1) :: rs3) N25 (by walk_at "memb")
  by_cases hsp0 : sp = []
  · rw [show decide (sp = []) = true by simp [hsp0]]
    walk_at "go"
    have hbm : (ba, listOf (bs.map (·.1)).toArray nb) ∈ rs3 := by rw [← hrs]; exact .tail _ (.head _)
    have hCr : ∀ z ∈ bs, LPair rs3 z := fun z hz => (hC z hz).mono fun p hp => by rw [← hrs]; exact .tail _ (.tail _ (List.mem_append_right _ hp))
    have hfm : ∀ p ∈ frs3, p ∈ rs3 := fun p hp => by rw [← hrs]; exact .tail _ (.tail _ (List.mem_append_left _ hp))
    refine ListComp_U (F₀ := F25) (by with_unfolding_all rfl) (by decide) (by rfl) (by decide) (by rfl) ?_
    walk_at "go"
    refine CompSrc.ledger R.deeper.handled F25 N25 (.tail _ (.tail _ (.tail _ (.tail _ (.tail _ hbm))))) (by simpa using hsz bs (by omega)) fun g1 => compRest_ind (n := (bs.map (·.1)).toArray.size) (AnyTuples bs L o2' mi sv n2 o3' D1 tv o1 rs3) ?_ ?_ _ 0 [] _ (by omega) ⟨[], [], rfl, by simp, (fun _ h => nomatch h), rfl⟩
    rotate_left 1
    · rintro j ys news v I2 oI C oC D m2 h2 tk2 E' hj ⟨zs, cs2, rfl, hv, hz, rfl⟩ hiv hoC hmx F2 N2 off2 hne
      obtain ⟨z, hz1, rfl⟩ : ∃ z, bs[j]? = some z ∧ z.1 = v := by simpa using hiv
      obtain ⟨a, t, u, k, e1, e2⟩ := hCr z (List.mem_of_getElem? hz1)
      walk_at "go"
      rw [e1]
      refine kde_tupleOf (items := #[.int z.2.1 t, .int z.2.2 u]) (zs := [.int z.2.1 t, .int z.2.2 u]) F2 N2 (cell_isList (N2.get (Sub.at (by walk_at "memb" : Sub rs3 _) _ e2))) (show 2 ≤ 16384 by decide) rfl ?_
      intro D7 h3 F3 N3 l3
      walk_at "go"
      refine CompEnd.intro F3 N3 ((D7, chipO z.2.1 z.2.2 t u 0) :: (cs2 ++ ((L + 1 + 1, o2') :: (mi, listOf sv.toArray n2) :: (L + 1, o3') :: (D1, lst tv) :: (L + 1 + 1 + 1, o1) :: rs3))) (by walk_at "memb") (Off3.of fun p hp1 => ?_) (.inr ⟨_, (Sub.at (by walk_at "memb" : Sub rs3 _) _ hbm), rfl, _, rfl⟩) ⟨zs ++ [(.ref D7, z.2)], (D7, chipO z.2.1 z.2.2 t u 0) :: cs2, by simp, ?_, ?_, rfl⟩
      · rcases List.mem_cons.mp hp1 with rfl | hp1
        · exact ⟨Nat.ne_of_gt (l3 _ (.head _)), Nat.ne_of_gt (l3 _ (.tail _ (.head _))), Nat.ne_of_gt (l3 _ (.tail _ (.tail _ (.head _))))⟩
        · exact off2.mem p hp1
      · rw [List.take_add_one, hz1]; simp [hv]
      · intro q hq
        rcases List.mem_append.mp hq with hq | hq
        · obtain ⟨a, t, u, k, q1, q2⟩ := hz q hq
          exact ⟨a, t, u, k, q1, .tail _ q2⟩
        · cases List.mem_singleton.mp hq
          exact ⟨D7, t, u, 0, rfl, .head _⟩
    rintro ys news ⟨zs, cs2, rfl, hv, hz, rfl⟩
    replace hv : zs.map (·.2) = bs.map (·.2) := by simpa using hv
    have hlz : zs.length = n := by rw [← hlb, ← List.length_map (f := fun z : Z => z.2), hv, List.length_map]
    have hpl2 : zs.map (fun z : Z => z.2.1) = ts := by
      have := congrArg (List.map Prod.fst) hv
      rw [List.map_map, List.map_map] at this
      rw [← hts]; exact this
    have htn : ts.Nodup := by
      rw [hsp0, List.nil_append] at hsp
      exact hsp.nodup_iff.mp hpn
    intro D8 h26 tk26 F26 N26 off26
    walk_at "go"
    refine sort_chips (zs := zs) F26 N26 (N26.get (.head _)) (fun z hz1 => ?_) (by rw [hlz]; exact hn46) (by rw [hpl2]; exact htn) ?_
    · obtain ⟨a, t, u, k, q1, q2⟩ := hz z hz1
      exact ⟨a, t, u, k, q1, .tail _ (List.mem_append_left _ q2)⟩
    intro D9 zs' c9 h27 F27 N27 l27 hp27 hs27
    walk_at "go"
    rename Fr _ _ _ _ => F28
    rename News _ _ _ _ => N28
    rename D9 < _ ∧ _ => lt28
    obtain ⟨ht, hdue⟩ := W.fin (t := i) (b := zs'.map (·.2)) (W.perm hR (by rw [← hv]; exact (hp27.symm.map _))) (by rw [List.pairwise_map]; exact hs27)
    have hff : ∀ D, (∀ p ∈ frs3, p.1 < D) → ∀ p ∈ frs, p.1 ≠ D := by
      intro D h1 p hp1
      have : p.1 ∈ frs3.map (·.1) := hSl3.addrs ▸ List.mem_map_of_mem hp1
      obtain ⟨q, hq, e⟩ := List.mem_map.mp this
      rw [← e]
      exact Nat.ne_of_lt (h1 q hq)
    rw [ht] at N28
    refine LoopStepV.ret (h _ _ _ D9 _ c9 zs' frs3 (fun b o nb e => F28.keep b o (hext b o nb e)) hSl3 (fun p hp1 => N28.get (Sub.at (by walk_at "memb" : Sub rs3 _) _ (hfm p hp1))) (N28.get (.head _)) (N28.get (.tail _ (.head _))) hdue ?_ ?_ ?_)
    · intro z hz1
      obtain ⟨a, t, u, k, q1, q2⟩ := hz z (hp27.subset hz1)
      exact ⟨a, t, u, k, q1, N28.get (Sub.at (by walk_at "memb" : Sub cs2 _) _ q2)⟩
    · exact fresh_fr hext (hff _ fun q hq => allLt_mem lt28.2.2 q (Sub.at (by walk_at "memb" : Sub rs3 _) _ (hfm q hq))) (N28.fresh (.head _))
    · exact fresh_fr hext (hff _ fun q hq => l27 q (Sub.at (by walk_at "memb" : Sub rs3 _) _ (hfm q hq))) (N28.fresh (.tail _ (.head _)))
  rw [show decide (sp = []) = false by simp [hsp0]]
  walk_at "go"
  rename Fr _ _ _ _ => F30
  refine only_toks ?_ ?_
  · walk1
    walk_at "go"
    refine len_at (vs := pv) (F30.keep _ _ hpg) (show pv.length ≤ 2 ^ 24 by omega) ?_
    walk_at "go"
    · rename (i : Int) < _ => hip
      obtain ⟨x, hx⟩ : ∃ x, pk[i]? = some x := ⟨_, List.getElem?_eq_getElem (by rw [← hpk.length]; omega)⟩
      obtain ⟨tx, htx⟩ := ints_get hpk hx
      refine item_at (vs := pv) (i := i) (F30.keep _ _ hpg) rfl htx (show pv.length ≤ 2 ^ 24 by omega) ?_ (by with_unfolding_all rfl)
      exact ⟨x, tx, _, rfl, rfl⟩
    · exact ⟨0, _, _, rfl, rfl⟩
  intro pick tp tk31
  walk_at "go"
  have hN30 : ∀ {h : Heap} {l : List (Addr × Obj)}, News g L h l → Sub ((L + 1 + 1 + 1, o1) :: (L + 1 + 1, o2') :: (mi, listOf sv.toArray n2) :: (L + 1, o3') :: (D1, lst tv) :: rs3) l → News g L h ((L + 1 + 1 + 1, o1) :: (L + 1 + 1, o2') :: (mi, listOf sv.toArray n2) :: (L + 1, o3') :: (D1, lst tv) :: rs3) := fun N hs => news_sub N hs
  refine storeX_C (c := L + 1 + 1 + 1) F30 (hN30 (by assumption) (by walk_at "memb")) rfl (.head ?_) d1 ?_
  · refine fa_cons ?_ ?_
    · show L + 1 + 1 ≠ L + 1 + 1 + 1; omega
    refine fa_cons ?_ ?_
    · exact hmiP
    refine fa_cons ?_ ?_
    · show L + 1 ≠ L + 1 + 1 + 1; omega
    refine fa_cons ?_ ?_
    · exact hD1P
    intro p hp1
    · exact (hK3 p hp1).2.2
  intro h31 o1' F31 N31 d1'
  clear hN30
  have hbm : (ba, listOf (bs.map (·.1)).toArray nb) ∈ rs3 := by rw [← hrs]; exact .tail _ (.head _)
  have hCr : ∀ z ∈ bs, LPair rs3 z := fun z hz => (hC z hz).mono fun p hp => by rw [← hrs]; exact .tail _ (.tail _ (List.mem_append_right _ hp))
  have hsl : sv.length = sp.length := hsv.length
  have hsl0 : 0 < sp.length := List.length_pos_iff.mpr hsp0
  walk_at "go"
  refine Assign_ListComp_T (F₀ := F31) rfl (by with_unfolding_all rfl) (by with_unfolding_all rfl) (by decide) (by rfl) (by decide) (by rfl) (by rfl) (by rfl) ?_
  walk_at "go"
  obtain ⟨xi, hxi⟩ : ∃ xi, xi = (Int.fmod pick (sv.length : Nat)).toNat := ⟨_, rfl⟩
  have hxl : (Int.fmod pick (sv.length : Nat)) = (xi : Int) ∧ xi < sp.length := by
    have h1 := Int.fmod_nonneg_of_pos (a := pick) (b := (sv.length : Nat)) (by omega)
    have h2 := Int.fmod_lt_of_pos pick (b := (sv.length : Nat)) (by omega)
    omega
  obtain ⟨x, hx⟩ : ∃ x, sp[xi]? = some x := ⟨_, List.getElem?_eq_getElem hxl.2⟩
  obtain ⟨tx, htx⟩ := ints_get hsv hx
  refine CompSrcT.ledger R.deeper.handled F31 N31 (.tail _ (.tail _ (.tail _ (.tail _ (.tail _ hbm))))) (by simpa using hsz bs (by omega)) fun g1 => compRestT_ind (n := (bs.map (·.1)).toArray.size) (AnyThere L o1' o2' mi sv n2 o3' D1 tv rs3 bs x) ?_ ?_ _ 0 [] _ (by omega) ⟨rfl, rfl⟩
  rotate_left 1
  · rintro j ys news v I2 oI C oC D m2 h2 tk2 E' hj ⟨rfl, rfl⟩ hiv hoC hmx F2 N2 off2 hne
    obtain ⟨z, hz1, rfl⟩ : ∃ z, bs[j]? = some z ∧ z.1 = v := by simpa using hiv
    walk_at "go"
    refine item_h0 F2 ((hCr z (List.mem_of_getElem? hz1)).pair N2 (by walk_at "memb")) ?_ (by intro a; with_unfolding_all rfl)
    intro t1
    walk_at "go"
    refine len_at (D := mi) (vs := sv) (n := n2) (N2.get (Sub.at (by walk_at "memb" : Sub [(mi, listOf sv.toArray n2)] _) _ (.head _))) (show sv.length ≤ 2 ^ 24 by omega) ?_
    walk_at "go"
    refine item_at (D := mi) (vs := sv) (n := n2) (i := xi) (N2.get (Sub.at (by walk_at "memb" : Sub [(mi, listOf sv.toArray n2)] _) _ (.head _))) hxl.1 htx (show sv.length ≤ 2 ^ 24 by omega) ?_ (by with_unfolding_all rfl)
    walk_at "go"
    · rename z.2.1 = x => hzx
      refine CompEnd.intro F2 N2 _ (by walk_at "memb") off2 (.inr ⟨_, Sub.at (by walk_at "memb" : Sub rs3 _) _ hbm, rfl, _, rfl⟩) ⟨rfl, ?_⟩
      rw [List.take_add_one, hz1, List.filter_append, List.map_append]
      simp [hzx]
    · rename z.2.1 ≠ x => hzx
      refine CompEnd.intro F2 N2 _ (by walk_at "memb") off2 (.inr ⟨_, Sub.at (by walk_at "memb" : Sub rs3 _) _ hbm, rfl, _, rfl⟩) ⟨rfl, ?_⟩
      rw [List.take_add_one, hz1, List.filter_append, List.map_append]
      simp [hzx]
  rintro ys news ⟨rfl, rfl⟩
  have hbtk : bs.take (bs.map (fun z : Z => z.1)).toArray.size = bs := by simp
  rw [hbtk]
  have hth2 : 2 ≤ (bs.filter fun z => decide (z.2.1 = x)).length := by
    rw [filter_count, hts]; exact twice hsp (List.mem_of_getElem? hx) hpm
  have hth6 : (bs.filter fun z => decide (z.2.1 = x)).length ≤ bs.length := List.length_filter_le ..
  intro D10 h32 tk32 F32 N32 off32
  have hD10 := off1_mem off32
  clear off32
  have hthp : ∀ z ∈ bs.filter (fun z => decide (z.2.1 = x)), z.2.1 = x := fun z hz => by simpa using (List.mem_filter.mp hz).2
  have hthf : ∀ i j z1 z2, (bs.filter fun z => decide (z.2.1 = x))[i]? = some z1 → ((bs.filter fun z => decide (z.2.1 = x)).eraseIdx i)[j]? = some z2 → ∃ r, bs.Perm (z1 :: z2 :: r) := fun i j z1 z2 q1 q2 => filter_two q1 q2
  generalize bs.filter (fun z => decide (z.2.1 = x)) = th at *
  have hlth : (th.map (fun z : Z => z.1)).length = th.length := List.length_map ..
  have hlth0 : 0 < (th.map (fun z : Z => z.1)).length := by omega
  walk_at "go"
  refine len_at (D := D10) (vs := th.map (·.1)) (n := (th.map (·.1)).length) (N32.get (.head _)) (hsz th (by omega)) ?_
  walk_at "go"
  obtain ⟨i1, hi1⟩ : ∃ i1, i1 = (Int.fmod (Int.fdiv pick 8) ((th.map (fun z : Z => z.1)).length : Nat)).toNat := ⟨_, rfl⟩
  have hil : (Int.fmod (Int.fdiv pick 8) ((th.map (fun z : Z => z.1)).length : Nat)) = (i1 : Int) ∧ i1 < th.length := by
    have h1 := Int.fmod_nonneg_of_pos (a := Int.fdiv pick 8) (b := ((th.map (fun z : Z => z.1)).length : Nat)) (by omega)
    have h2 := Int.fmod_lt_of_pos (Int.fdiv pick 8) (b := ((th.map (fun z : Z => z.1)).length : Nat)) (by omega)
    omega
  obtain ⟨z1, hz1⟩ : ∃ z, th[i1]? = some z := ⟨_, List.getElem?_eq_getElem hil.2⟩
  refine popi_at (i := i1) (y := z1.1) (by assumption) (by assumption) (fun p hp => hD10 p hp) hil.1 (by simp [hz1]) (by omega) ?_
  intro h33 F33 N33
  rw [show (th.map (fun z : Z => z.1)).eraseIdx i1 = (th.eraseIdx i1).map (fun z : Z => z.1) from erase_map _ _] at N33
  have hlt2 : ((th.eraseIdx i1).map (fun z : Z => z.1)).length = th.length - 1 := by rw [List.length_map, List.length_eraseIdx, if_pos hil.2]
  have hlt20 : 0 < ((th.eraseIdx i1).map (fun z : Z => z.1)).length := by omega
  walk_at "go"
  rename News _ _ _ _ => N34
  refine len_at (D := D10) (vs := (th.eraseIdx i1).map (·.1)) (n := (th.map (fun z : Z => z.1)).length + 1) (N34.get (.head _)) (show _ ≤ 2 ^ 24 by rw [hlt2]; omega) ?_
  walk_at "go"
  obtain ⟨i2, hi2⟩ : ∃ i2, i2 = (Int.fmod (Int.fdiv pick 64) (((th.eraseIdx i1).map (fun z : Z => z.1)).length : Nat)).toNat := ⟨_, rfl⟩
  have hil2 : (Int.fmod (Int.fdiv pick 64) (((th.eraseIdx i1).map (fun z : Z => z.1)).length : Nat)) = (i2 : Int) ∧ i2 < th.length - 1 := by
    have h1 := Int.fmod_nonneg_of_pos (a := Int.fdiv pick 64) (b := (((th.eraseIdx i1).map (fun z : Z => z.1)).length : Nat)) (by omega)
    have h2 := Int.fmod_lt_of_pos (Int.fdiv pick 64) (b := (((th.eraseIdx i1).map (fun z : Z => z.1)).length : Nat)) (by omega)
    omega
  obtain ⟨z2, hz2⟩ : ∃ z, (th.eraseIdx i1)[i2]? = some z := ⟨_, List.getElem?_eq_getElem (by rw [List.length_eraseIdx, if_pos hil.2]; exact hil2.2)⟩
  refine item_at (D := D10) (vs := (th.eraseIdx i1).map (·.1)) (n := (th.map (fun z : Z => z.1)).length + 1) (i := i2) (v := z2.1) (News.get (by assumption) (.head _)) hil2.1 (by rw [List.getElem?_map, hz2]; rfl) (show _ ≤ 2 ^ 24 by rw [hlt2]; omega) ?_ (by with_unfolding_all rfl)
  walk_at "go"
  rename Fr _ _ _ _ => F35
  rename News _ _ _ _ => N35
  rename D10 < _ ∧ _ => lt35
  rename_i ea hea
  obtain ⟨rb, hrb⟩ := hthf i1 i2 z1 z2 hz1 hz2
  have hp1 := hthp z1 (List.mem_of_getElem? hz1)
  have hp2 := hthp z2 (List.mem_of_mem_eraseIdx (List.mem_of_getElem? hz2))
  have hz1b : z1 ∈ bs := hrb.symm.subset (.head _)
  have hz2b : z2 ∈ bs := hrb.symm.subset (.tail _ (.head _))
  have hgL2 : g.get? L = none := hgL
  have hfm : ∀ p ∈ frs3, p ∈ rs3 := fun p hp => by rw [← hrs]; exact .tail _ (.tail _ (List.mem_append_left _ hp))
  have hcm : ∀ p ∈ cs, p ∈ rs3 := fun p hp => by rw [← hrs]; exact .tail _ (.tail _ (List.mem_append_right _ hp))
  have hIm : (I, o) ∈ rs3 := by rw [← hrs]; exact .head _
  have hr35 : ∀ p ∈ rs3, p ∈ ((ea, listOf #[z1.1, z2.1] 0) :: (D10, listOf ((th.eraseIdx i1).map (fun z : Z => z.1)).toArray ((th.map (fun z : Z => z.1)).length + 1)) :: (L + 1 + 1 + 1, o1') :: (L + 1 + 1, o2') :: (mi, listOf sv.toArray n2) :: (L + 1, o3') :: (D1, lst tv) :: rs3 : List (Addr × Obj)) := Sub.at (by walk_at "memb")
  have hfg3 : ∀ p ∈ frs3, g.get? p.1 = none := fun p hp => N35.fresh (hr35 p (hfm p hp))
  have hltr : ∀ p ∈ rs3, p.1 < ea := fun p hp => allLt_mem lt35.2.2.2.2.2.2 p hp
  have hbsn : bs ≠ [] := by rintro rfl; cases hz1b
  have hbc : ∀ p ∈ cs, p.1 ≠ ba := bag_ne N35 (hr35 _ hbm) (fun p hp => hr35 p (hcm p hp)) hcs (fun z hz => by obtain ⟨a, _, _, _, e1, _⟩ := hC z hz; exact ⟨a, e1⟩) hbsn
  have hcs35 : ∀ p ∈ cs, hea.get? p.1 = some p.2 := fun p hp => N35.get (hr35 p (hcm p hp))
  obtain ⟨oL, esL, epL, hoL, hdL, _⟩ := F35.ns
  refine uld_call (ea := ea) (da := ba) (es := [z1.1, z2.1]) (as := bs.map (fun z : Z => z.1)) (eq := fun y x => decide (keyAt hea y = keyAt hea x)) (frs := (L, oL) :: frs3) (Gg.fr F35) (R.deeper.le (by omega)) (Around.frames_deeper hA) ⟨show ScopeKind.function ≠ ScopeKind.module from by decide, rfl, ⟨esL, epL, hdL⟩, hO3⟩ ?_ ?_ (Nat.ne_of_gt (hltr _ hbm)) ?_ ?_ (hn0 _ (N35.fresh (.head _))) (hn0 _ (N35.fresh (hr35 _ hbm))) (N35.get (.head _)) (N35.get (hr35 _ hbm)) (by simp) (by simp; omega) ?_ ?_
  · refine fa_cons ?_ ?_
    · exact hoL
    intro p hp1
    · exact N35.get (hr35 p (hfm p hp1))
  · refine fa_cons ?_ ?_
    · exact hn0 _ hgL2
    intro p hp1
    · exact hn0 _ (hfg3 p hp1)
  · refine fa_cons ?_ ?_
    · exact fun e => (N35 _ (.head _)).2.1 e.symm
    intro p hp1
    · exact Nat.ne_of_lt (hltr p (hfm p hp1))
  · refine fa_cons ?_ ?_
    · exact fun e => (N35 _ (hr35 _ hbm)).2.1 e.symm
    intro p hp1
    · exact hfX3 p hp1 _ (.tail _ (.head _))
  · intro A' s' hu hext' y x hy hx
    have hcs' : ∀ p ∈ cs, s'.heap.get? p.1 = some p.2 := by
      intro p hp
      refine hext' _ _ (fun hm => ?_) (hcs35 p hp)
      rcases List.mem_cons.mp hm with q | hm
      · exact Nat.ne_of_lt (hltr p (hcm p hp)) q
      rcases List.mem_cons.mp hm with q | hm
      · exact hbc p hp q
      rcases List.mem_cons.mp hm with q | hm
      · exact (N35 _ (hr35 p (hcm p hp))).2.1 q
      · obtain ⟨q, hq, e2⟩ := List.mem_map.mp hm
        exact hfX3 q hq p (.tail _ (.tail _ hp)) e2
    obtain ⟨zy, hzy, rfl⟩ := List.mem_map.mp hy
    obtain ⟨zx, hzx, rfl⟩ : ∃ zx, zx ∈ bs ∧ zx.1 = x := by
      rcases List.mem_cons.mp hx with rfl | hx
      · exact ⟨z1, hz1b, rfl⟩
      · cases List.mem_singleton.mp hx; exact ⟨z2, hz2b, rfl⟩
    show EqAt A' s' zy.1 zx.1 (decide (keyAt hea zy.1 = keyAt hea zx.1))
    rw [keyAt_z hcs35 (hC zy hzy), keyAt_z hcs35 (hC zx hzx)]
    exact eq_pairs hcs' hu (hC zy hzy) (hC zx hzx)
  intro h36 tk36 r3 mi2 n3 n4 frs5 e36 sl36 hf36 g36 gr3 gmi2 nr3 nmi2
  obtain ⟨F36, frs4, sl4, hf4⟩ := after_uld F35 hoL e36 sl36 hf36 (N35.fresh (.head _)) (N35.fresh (hr35 _ hbm)) hfg3
  have hkb : ∀ zs : List Z, (∀ z ∈ zs, z ∈ bs) → (zs.map (fun z : Z => z.1)).map (keyAt hea) = zs.map (fun z : Z => z.2) := by
    intro zs hzs
    rw [List.map_map]
    apply List.map_congr_left
    intro z hz
    exact keyAt_z hcs35 (hC z (hzs z hz))
  obtain ⟨hu1, hu2⟩ := uld_all (key := keyAt hea) (eq := fun y x => decide (keyAt hea y = keyAt hea x)) (fun _ _ => rfl) [z1.1, z2.1].reverse [] (bs.map (fun z : Z => z.1)) (rb.map (fun z : Z => z.2)) (by
    rw [hkb bs (fun _ h => h)]
    refine (hrb.map (fun z : Z => z.2)).trans ?_
    show (z1.2 :: z2.2 :: rb.map (fun z : Z => z.2)).Perm (keyAt hea z2.1 :: keyAt hea z1.1 :: rb.map (fun z : Z => z.2))
    rw [keyAt_z hcs35 (hC z1 hz1b), keyAt_z hcs35 (hC z2 hz2b)]
    exact List.Perm.swap ..)
  have hum := uld_mem2 (eq := fun y x => decide (keyAt hea y = keyAt hea x)) [z1.1, z2.1].reverse [] (bs.map (fun z : Z => z.1))
  rw [hu1] at gmi2
  obtain ⟨zs2, hzs2, hzs2b⟩ := pick_zs hum
  rw [hzs2] at g36 hu2
  rw [hkb zs2 hzs2b] at hu2
  clear hum hu1 hzs2 sl36 hf36 hkb
  have hnew : ∀ a ob, hea.get? a = none → h36.get? a = some ob → h36.get? a = some ob ∧ a ≠ L ∧ g.get? a = none := by
    intro a ob q1 q2
    refine ⟨q2, (fun e => by rw [e, hoL] at q1; cases q1), ?_⟩
    cases q : g.get? a with
    | none => rfl
    | some o' => rw [F35.keep _ _ q] at q1; cases q1
  have hIb : I ≠ ba := fun e => (hneI _ (.tail _ (.tail _ (.tail _ (.head _))))) e.symm
  have N36a : News g L h36 ((L + 1 + 1 + 1, o1') :: (L + 1 + 1, o2') :: (L + 1, o3') :: (I, o) :: cs) := by
    have hs1 : Sub ((L + 1 + 1 + 1, o1') :: (L + 1 + 1, o2') :: (L + 1, o3') :: (I, o) :: cs) ((L + 1 + 1 + 1, o1') :: (L + 1 + 1, o2') :: (mi, listOf sv.toArray n2) :: (L + 1, o3') :: (D1, lst tv) :: rs3) := by rw [← hrs]; walk_at "memb"
    refine news_uld (news_sub N35 (fun p hp1 => .tail _ (.tail _ (hs1 p hp1)))) e36 ?_ ?_ ?_
    · intro p hp1
      refine Nat.ne_of_lt ?_
      rcases List.mem_cons.mp hp1 with rfl | hp1
      · exact lt35.2.1
      rcases List.mem_cons.mp hp1 with rfl | hp1
      · exact lt35.2.2.1
      rcases List.mem_cons.mp hp1 with rfl | hp1
      · exact lt35.2.2.2.2.1
      rcases List.mem_cons.mp hp1 with rfl | hp1
      · exact hltr _ hIm
      · exact hltr _ (hcm p hp1)
    · intro p hp1
      have hKb := hK3 _ hbm
      rcases List.mem_cons.mp hp1 with rfl | hp1
      · exact fun e => hKb.2.2 e.symm
      rcases List.mem_cons.mp hp1 with rfl | hp1
      · exact fun e => hKb.2.1 e.symm
      rcases List.mem_cons.mp hp1 with rfl | hp1
      · exact fun e => hKb.1 e.symm
      rcases List.mem_cons.mp hp1 with rfl | hp1
      · exact hIb
      · exact hbc p hp1
    · intro p hp1 q hq
      have hqr := hfm q hq
      rcases List.mem_cons.mp hp1 with rfl | hp1
      · exact (hK3 q hqr).2.2
      rcases List.mem_cons.mp hp1 with rfl | hp1
      · exact (hK3 q hqr).2.1
      rcases List.mem_cons.mp hp1 with rfl | hp1
      · exact (hK3 q hqr).1
      rcases List.mem_cons.mp hp1 with rfl | hp1
      · exact hfX3 q hq _ (.head _)
      · exact hfX3 q hq p (.tail _ (.tail _ hp1))
  have N36f : News g L h36 frs4 := slot_news sl4 (fun p hp1 => N35 p (hr35 p (hfm p hp1))) hf4
  have N36 : News g L h36 ((r3, { cls := .type "tuple", data := .seq #[.ref mi2, .ref ba] }) :: (mi2, listOf [].toArray n4) :: (ba, listOf (zs2.map (fun z : Z => z.1)).toArray n3) :: (L + 1 + 1 + 1, o1') :: (L + 1 + 1, o2') :: (L + 1, o3') :: (I, o) :: (frs4 ++ cs)) := by
    refine fa_cons ?_ ?_
    · exact hnew _ _ nr3 gr3
    refine fa_cons ?_ ?_
    · exact hnew _ _ nmi2 gmi2
    refine fa_cons ?_ ?_
    · exact ⟨g36, (N35 _ (hr35 _ hbm)).2⟩
    intro p hp1
    · exact news_sub (news_app N36f N36a) (by walk_at "memb") p hp1
  have hO4 := slot_outs sl4 hO3
  have hSl4 := hSl3.trans sl4
  have hKb := hK3 _ hbm
  have hfb4 : ∀ q ∈ frs4, q.1 ≠ ba := slot_ne sl4 fun q hq => hfX3 q hq _ (.tail _ (.head _))
  have hfI4 : ∀ q ∈ frs4, q.1 ≠ I := slot_ne sl4 fun q hq => hfX3 q hq _ (.head _)
  have hlzs : zs2.length + 2 = bs.length := by
    have h1 := hu2.length_eq
    have h2 := hrb.length_eq
    simp at h1 h2; omega
  have hC2 : ∀ z ∈ zs2, LPair cs z := fun z hz => hC z (hzs2b z hz)
  have hrbR := W.perm hR (hrb.map (fun z : Z => z.2))
  clear N36a N36f N35 F35 lt35 e36 hnew hcs35 hltr hr35 hoL hdL hfg3
  walk_at "go"
  refine unpackN_ F36 N36 (News.isTup N36 (.head _)) R.deeper.handled rfl rfl ?_
  intro h37 F37 N37
  walk_at "go"
  rename Fr _ _ _ _ => F38
  rename News _ _ _ _ => N38
  refine ne_intsK (vs := []) (us := []) (cell_isList (N38.get (Sub.at (by walk_at "memb" : Sub [(mi2, listOf [].toArray n4)] _) _ (.head _)))) .nil (cell_isList (N38.get (.head _))) .nil R.deeper.line64 ?_
  rw [show (!decide (([] : List Int) = [])) = false from rfl]
  replace N38 := news_sub (l' := (ba, listOf (zs2.map (fun z : Z => z.1)).toArray n3) :: (L + 1 + 1 + 1, o1') :: (L + 1 + 1, o2') :: (L + 1, o3') :: (I, o) :: (frs4 ++ cs)) N38 (by walk_at "memb")
  walk_at "go"
  rename Fr _ _ _ _ => F39
  refine ListComp_U (F₀ := F39) (by with_unfolding_all rfl) (by decide) (by rfl) (by decide) (by rfl) ?_
  walk_at "go"
  have hpr : ∀ z ∈ bs, LPair ((ba, listOf (zs2.map (fun z : Z => z.1)).toArray n3) :: (L + 1 + 1 + 1, o1') :: (L + 1 + 1, o2') :: (L + 1, o3') :: (I, o) :: (frs4 ++ cs)) z := fun z hz => (hC z hz).mono (Sub.at (by walk_at "memb"))
  refine parted_at (x := z1) (y := z2) F39 (by assumption) (Gg.fr F39) (R.deeper.le (by omega)) ((hpr z1 hz1b).pair N38 (fun _ h => h)) ((hpr z2 hz2b).pair N38 (fun _ h => h)) ?_
  intro h40 tk40 r0 a1 a2 u1 u2 u3 u4 F40 N40
  generalize hNL : ((r0, listOf #[.ref a1, .ref a2] 0) :: (a1, chipO (z1.2.1 - 1) (min z1.2.2 z2.2.2) u1 u2 0) :: (a2, chipO (z1.2.1 + 1) (max z1.2.2 z2.2.2) u3 u4 0) :: (ba, listOf (zs2.map (fun z : Z => z.1)).toArray n3) :: (L + 1 + 1 + 1, o1') :: (L + 1 + 1, o2') :: (L + 1, o3') :: (I, o) :: (frs4 ++ cs) : List (Addr × Obj)) = NL at N40
  have hr0m : (r0, listOf #[.ref a1, .ref a2] 0) ∈ NL := by rw [← hNL]; exact .head _
  have hINL : (I, o) ∈ NL := by rw [← hNL]; exact Sub.at (by walk_at "memb" : Sub [(I, o)] _) _ (.head _)
  have hqs : ∀ q ∈ ([(.ref a1, z1.2.1 - 1, min z1.2.2 z2.2.2), (.ref a2, z1.2.1 + 1, max z1.2.2 z2.2.2)] : List Z), ∃ a t u, q.1 = .ref a ∧ (a, chipO q.2.1 q.2.2 t u 0) ∈ NL := by
    refine fa_cons ?_ ?_
    · exact ⟨a1, u1, u2, rfl, by rw [← hNL]; exact .tail _ (.head _)⟩
    intro q hq
    · cases List.mem_singleton.mp hq
      exact ⟨a2, u3, u4, rfl, by rw [← hNL]; exact .tail _ (.tail _ (.head _))⟩
  walk_at "go"
  refine CompSrc.ledger R.deeper.handled F40 N40 hr0m (show 2 ≤ 2 ^ 24 by decide) fun g1 => compRest_ind (n := 2) (AnyNext a1 z1 z2 a2 I NL) ?_ ?_ _ 0 [] _ (by rfl) ⟨[], [], rfl, by simp, (fun _ h => nomatch h), (fun _ h => nomatch h), (fun _ h => nomatch h), rfl⟩
  rotate_left 1
  · rintro j ys news v I2 oI C oC D m2 h2 tk2 E' hj ⟨zs, csn, rfl, hv, hz, hcsn, hcI, rfl⟩ hiv hoC hmx F2 N2 off2 hne
    obtain ⟨q, hq1, rfl⟩ : ∃ q, ([(.ref a1, z1.2.1 - 1, min z1.2.2 z2.2.2), (.ref a2, z1.2.1 + 1, max z1.2.2 z2.2.2)] : List Z)[j]? = some q ∧ q.1 = v := by
      rcases j with _ | _ | j
      · exact ⟨_, rfl, Option.some.inj hiv⟩
      · exact ⟨_, rfl, Option.some.inj hiv⟩
      · omega
    obtain ⟨a, t, u, e1, e2⟩ := hqs q (List.mem_of_getElem? hq1)
    walk_at "go"
    rw [e1]
    refine list_copyKT (items := #[.int q.2.1 t, .int q.2.2 u]) F2 N2 ⟨_, N2.get (Sub.at (by walk_at "memb" : Sub NL _) _ e2), rfl, 0, rfl⟩ ?_ (show 2 ≤ sizeLine from by decide)
    intro D7 c7 h3 F3 N3 l3
    walk_at "go"
    refine CompEnd.intro F3 N3 ((D7, listOf #[.int q.2.1 t, .int q.2.2 u] c7) :: (csn ++ NL)) (by walk_at "memb") (Off3.of fun p hp1 => ?_) (.inr ⟨_, Sub.at (by walk_at "memb" : Sub NL _) _ hr0m, rfl, _, rfl⟩) ⟨zs ++ [(.ref D7, q.2)], (D7, listOf #[.int q.2.1 t, .int q.2.2 u] c7) :: csn, by simp, ?_, ?_, ?_, ?_, rfl⟩
    · rcases List.mem_cons.mp hp1 with rfl | hp1
      · exact ⟨Nat.ne_of_gt (l3 _ (.head _)), Nat.ne_of_gt (l3 _ (.tail _ (.head _))), Nat.ne_of_gt (l3 _ (.tail _ (.tail _ (.head _))))⟩
      · exact off2.mem p hp1
    · rw [List.take_add_one, hq1]; simp [hv]
    · intro y hy
      rcases List.mem_append.mp hy with hy | hy
      · exact (hz y hy).mono fun _ h => .tail _ h
      · cases List.mem_singleton.mp hy
        exact ⟨D7, t, u, c7, rfl, .head _⟩
    · refine fa_cons ?_ ?_
      · exact ⟨_, _, _, _, _, rfl⟩
      intro p hp1
      · exact hcsn p hp1
    · refine fa_cons ?_ ?_
      · exact Nat.ne_of_gt (l3 _ (Sub.at (by walk_at "memb" : Sub NL _) _ hINL))
      intro p hp1
      · exact hcI p hp1
  rintro ys news ⟨zsn, csn, rfl, hv, hz, hcsn, hcI, rfl⟩
  intro D41 h41 tk41 F41 N41 off41
  have hzn : zs2 ≠ [] := by rintro rfl; simp at hlzs; omega
  have hbm41 : (ba, listOf (zs2.map (fun z : Z => z.1)).toArray n3) ∈ ((D41, lst (zsn.map (·.1))) :: (csn ++ NL) : List (Addr × Obj)) := by
    refine .tail _ (List.mem_append_right _ ?_)
    rw [← hNL]; exact .tail _ (.tail _ (.tail _ (.head _)))
  have hbc2 : ∀ p ∈ csn, p.1 ≠ ba := bag_ne N41 hbm41 (Sub.at (by walk_at "memb")) hcsn (fun z hz => by obtain ⟨a, _, _, _, e1, _⟩ := hC2 z hz; exact ⟨a, e1⟩) hzn
  have hzl : zsn.length = 2 := by have := congrArg List.length hv; simpa using this
  have N42 : News g L h41 ((ba, listOf (zs2.map (fun z : Z => z.1)).toArray n3) :: (L + 1 + 1 + 1, o1') :: (L + 1 + 1, o2') :: (L + 1, o3') :: (I, o) :: (frs4 ++ (csn ++ cs))) := news_sub N41 (by rw [← hNL]; walk_at "memb")
  have ez : zs2.map (fun z : Z => z.1) ++ zsn.map (fun z : Z => z.1) = (zs2 ++ zsn).map (fun z : Z => z.1) := by simp
  walk_at "go"
  refine extend_at (vs := zs2.map (fun z : Z => z.1)) (us := zsn.map (fun z : Z => z.1)) (n2 := (zsn.map (fun z : Z => z.1)).length) F41 N42 ?_ (N41.get (.head _)) ?_ (by simp; omega) ?_
  · refine fa_cons ?_ ?_
    · exact fun e => hKb.2.2 e.symm
    refine fa_cons ?_ ?_
    · exact fun e => hKb.2.1 e.symm
    refine fa_cons ?_ ?_
    · exact fun e => hKb.1 e.symm
    refine fa_cons ?_ ?_
    · exact hIb
    intro p hp1
    rcases List.mem_append.mp hp1 with hp1 | hp1
    · exact hfb4 p hp1
    rcases List.mem_append.mp hp1 with hp1 | hp1
    · exact hbc2 p hp1
    · exact hbc p hp1
  · intro e
    have := congrArg List.length e
    rw [List.length_map, hzl] at this
    cases this
  intro h43 F43 N43
  rw [ez] at N43
  walk_at "go"
  refine turn_next (news := (L + 1 + 1 + 1, o1') :: (L + 1 + 1, o2') :: (L + 1, o3') :: (ba, listOf ((zs2 ++ zsn).map (fun z : Z => z.1)).toArray (n3 + 1)) :: (frs4 ++ (csn ++ cs))) F43 (news_sub N43 (by walk_at "memb")) ?_ ⟨ba, zs2 ++ zsn, n3 + 1, csn ++ cs, frs4, o1', o2', o3', _, _, _, rfl, hSl4, hO4, rfl, rfl, d1', d2', d3', ?_, ?_, ?_⟩
  · intro p hp1 e
    replace e := List.mem_singleton.mp e
    rcases List.mem_cons.mp hp1 with rfl | hp1
    · exact hneI _ (.head _) e
    rcases List.mem_cons.mp hp1 with rfl | hp1
    · exact hneI _ (.tail _ (.head _)) e
    rcases List.mem_cons.mp hp1 with rfl | hp1
    · exact hneI _ (.tail _ (.tail _ (.head _))) e
    rcases List.mem_cons.mp hp1 with rfl | hp1
    · exact hIb e.symm
    rcases List.mem_append.mp hp1 with hp1 | hp1
    · exact hfI4 p hp1 e
    rcases List.mem_append.mp hp1 with hp1 | hp1
    · exact hcI p hp1 e
    · exact hneI p (.tail _ (.tail _ (.tail _ (.tail _ (List.mem_append_right _ hp1))))) e
  · have q1 : Rc i ((z1.2.1, z1.2.2) :: (z1.2.1, z2.2.2) :: rb.map (fun z : Z => z.2)) := by
      have e1 : (z1.2.1, z1.2.2) = z1.2 := rfl
      have e2 : (z1.2.1, z2.2.2) = z2.2 := by rw [hp1, ← hp2]
      rw [e1, e2]; exact hrbR
    refine W.perm (W.fire q1) ?_
    rw [List.map_append, hv]
    refine List.Perm.trans ?_ List.perm_append_comm
    exact (hu2.symm.cons _).cons _
  · intro z hz9
    rcases List.mem_append.mp hz9 with h9 | h9
    · exact (hC2 z h9).mono fun _ h => List.mem_append_right _ h
    · exact (hz z h9).mono fun _ h => List.mem_append_left _ h
  · intro p hp1
    rcases List.mem_append.mp hp1 with hp1 | hp1
    · exact hcsn p hp1
    · exact hcs p hp1
end
section
open PySem PySem.W PyProof.Rows PySem.Calls
set_option Elab.async false
set_option maxRecDepth 100000
set_option maxHeartbeats 4000000
section
variable {prog : Program} {w : World} {A : Around} {E : Value → Shared → Prop} {s : Shared}
theorem wpAny_alive {M : Model} {a : Addr} {Q : Option Obj → Shared → Prop} (h : Q (s.heap.get? a) s) : wpAny M A (loadIfAlive a) Q E s := by
  intro Γ p hΓ
  unfold loadIfAlive
  rw [Sem.wp_loadIfAlive]
  exact wpAny_pure h Γ p hΓ

abbrev zipO (f0 : Value) (b : Bool) (TI TO : Addr) : Obj := { cls := .type "zip", dict := none, data := .fields #[f0, .bool b, .bool false, .ref TI, .ref TO], slots := #[] }

theorem not_free {z TI TO T : Addr} {b : Bool} {oT : Obj} {Q : Bool → Shared → Prop} (hz : s.heap.get? z = some (zipO (rawInt T) b TI TO)) (hT : s.heap.get? T = some oT)
    (h : ∀ h' b', h'.get? z = some (zipO (rawInt T) b' TI TO) → Heap.SameBut z s.heap h' → Q false { s with heap := h' }) :
    wpAny (model prog w) A (Builtin.SmallTypes.ownedTupleIsFree (.ref z)) Q E s := by
  unfold Builtin.SmallTypes.ownedTupleIsFree
  refine wpAny_bind (wpAny_field hz rfl (x := rawInt T) rfl ?_)
  show wpAny _ _ (loadIfAlive (T : Int).toNat >>= _) _ _ _
  rw [Int.toNat_natCast]
  refine wpAny_bind (wpAny_alive ?_)
  rw [hT]
  show wpAny _ _ (if (false : Bool) = true then _ else _) _ _ _
  rw [if_neg (by decide)]
  refine wpAny_bind (wpAny_field hz rfl (x := .bool b) rfl ?_)
  cases b with
  | true =>
    rw [if_neg (by decide)]
    exact wpAny_pure (h _ true hz (Heap.SameBut.refl ..))
  | false =>
    rw [if_pos (by decide)]
    refine wpAny_bind (wpAny_setField_rec hz (by simp) fun h₁ hz₁ hs₁ => ?_)
    exact wpAny_pure (h h₁ true hz₁ hs₁)

theorem zip_more_item {z TI TO T i1 i2 l1 l2 : Addr} {b : Bool} {oT : Obj} {k1 k2 : Nat} {xs ys : Array Value} {x y : Value} {Q : Option Value → Shared → Prop} (D : ZipApart z TI TO i1 i2 l1 l2)
    (hz : s.heap.get? z = some (zipO (rawInt T) b TI TO)) (hT : s.heap.get? T = some oT) (hTI : IsPair s.heap TI (.ref i1) (.ref i2))
    (h1 : s.heap.IsListIter i1 l1 k1) (h2 : s.heap.IsListIter i2 l2 k2) (hl1 : s.heap.IsList l1 xs) (hl2 : s.heap.IsList l2 ys) (hx : xs[k1]? = some x) (hy : ys[k2]? = some y)
    (hQ : ∀ h' b', h'.get? z = some (zipO (rawInt T) b' TI TO) → h'.IsListIter i1 l1 (k1 + 1) → h'.IsListIter i2 l2 (k2 + 1) → IsPair h' s.heap.objs.size x y → h'.objs.size = s.heap.objs.size + 1 →
      (∀ c o, c ≠ z → c ≠ i1 → c ≠ i2 → s.heap.get? c = some o → h'.get? c = some o) → Q (some (.ref s.heap.objs.size)) { s with heap := h' }) :
    wpAny (model prog w) A (pyNext (.ref z)) Q E s := by
  have hTy : s.TypeIs (.ref z) "zip" := ⟨_, hz, rfl⟩
  unfold pyNext
  refine wpAny_bind (wpAny_attempt (wpAny_callSpecial?_slot (name := Str.ofString "__next__") hTy F.slot_zip_next
    (wpAny_call_entry F.slot_zip_next hTy F.entry_zip_next ?_ (F.args_zip_next_1 _))))
  show wpAny _ _ (field (.ref z) 2 >>= _) _ _ _
  refine wpAny_bind (wpAny_field hz rfl (x := .bool false) rfl ?_)
  show wpAny _ _ (field (.ref z) 3 >>= _) _ _ _
  refine wpAny_bind (wpAny_field hz rfl (x := .ref TI) rfl ?_)
  refine wpAny_bind (wpAny_seqItems hTI rfl ?_)
  show wpAny _ _ (Builtin.SmallTypes.ownedTupleIsFree (.ref z) >>= _) _ _ _
  refine wpAny_bind (not_free hz hT fun h₁ b' hz₁ hs₁ => ?_)
  rw [if_neg (by decide)]
  refine wpAny_bind ?_
  rw [← Array.forIn_toList]
  simp only [List.forIn_cons, List.forIn_nil]
  refine wpAny_bind (wpAny_bind (wpAny_holding ?_))
  show wpAny _ _ (Builtin.SmallTypes.nextOf (.ref i1) >>= _) _ _ _
  refine wpAny_bind (wpAny_nextOf_list_item (h1.extBut hs₁.extBut D.i1z) (hl1.extBut hs₁.extBut D.l1z) hx fun h₂ h1₂ hs₂ => wpAny_pure ?_)
  refine wpAny_pure ?_
  dsimp only
  refine wpAny_bind (wpAny_bind (wpAny_holding ?_))
  show wpAny _ _ (Builtin.SmallTypes.nextOf (.ref i2) >>= _) _ _ _
  refine wpAny_bind (wpAny_nextOf_list_item ((h2.extBut hs₁.extBut D.i2z).extBut hs₂.extBut D.i12.symm) ((hl2.extBut hs₁.extBut D.l2z).extBut hs₂.extBut D.l2i1) hy fun h₃ h2₃ hs₃ => wpAny_pure ?_)
  refine wpAny_pure ?_
  dsimp only
  refine wpAny_pure ?_
  dsimp only
  refine wpAny_bind (wpAny_newTuple (hsz := show 2 ≤ sizeLine by decide) ?_)
  refine wpAny_pure ⟨_, rfl, ?_⟩
  have hsz : h₃.objs.size = s.heap.objs.size := by rw [hs₃.1, hs₂.1, hs₁.1]
  have hz₃ := hs₃.extBut _ _ D.i2z.symm (hs₂.extBut _ _ D.i1z.symm hz₁)
  have hk₃ : ∀ c o, c ≠ z → c ≠ i1 → c ≠ i2 → s.heap.get? c = some o → h₃.get? c = some o := fun c o c1 c3 c4 e =>
    hs₃.extBut _ _ c4 (hs₂.extBut _ _ c3 (hs₁.extBut _ _ c1 e))
  have h1₃ : h₃.IsListIter i1 l1 (k1 + 1) := h1₂.extBut hs₃.extBut D.i12
  have up : ∀ c o, h₃.get? c = some o → (h₃.push { cls := .type "tuple", data := .seq #[x, y] }).get? c = some o := fun c o e => Heap.get?_push_of_some _ e
  refine wpAny_pure ?_
  have q := hQ (h₃.push { cls := .type "tuple", data := .seq #[x, y] }) b' (up _ _ hz₃) (h1₃.at fun o e => up _ o e) (h2₃.at fun o e => up _ o e) (by rw [← hsz]; exact Heap.get?_push_size _ rfl) (by rw [Heap.size_push, hsz]) (fun c o c1 c3 c4 e => up _ _ (hk₃ c o c1 c3 c4 e))
  rw [← hsz] at q
  exact q

theorem zip_more_end {z TI TO T i1 i2 l1 l2 : Addr} {b : Bool} {oT : Obj} {k1 : Nat} {xs : Array Value} {Q : Option Value → Shared → Prop} (hh : A.handled = none) (D : ZipApart z TI TO i1 i2 l1 l2)
    (hz : s.heap.get? z = some (zipO (rawInt T) b TI TO)) (hT : s.heap.get? T = some oT) (hTI : IsPair s.heap TI (.ref i1) (.ref i2))
    (h1 : s.heap.IsListIter i1 l1 k1) (hl1 : s.heap.IsList l1 xs) (hx : xs[k1]? = none)
    (hQ : ∀ h', (∀ c o, c ≠ z → c ≠ i1 → c ≠ i2 → s.heap.get? c = some o → h'.get? c = some o) → Q none { s with heap := h' }) :
    wpAny (model prog w) A (pyNext (.ref z)) Q E s := by
  have hTy : s.TypeIs (.ref z) "zip" := ⟨_, hz, rfl⟩
  unfold pyNext
  refine wpAny_bind (wpAny_attempt (wpAny_callSpecial?_slot (name := Str.ofString "__next__") hTy F.slot_zip_next
    (wpAny_call_entry F.slot_zip_next hTy F.entry_zip_next ?_ (F.args_zip_next_1 _))))
  show wpAny _ _ (field (.ref z) 2 >>= _) _ _ _
  refine wpAny_bind (wpAny_field hz rfl (x := .bool false) rfl ?_)
  show wpAny _ _ (field (.ref z) 3 >>= _) _ _ _
  refine wpAny_bind (wpAny_field hz rfl (x := .ref TI) rfl ?_)
  refine wpAny_bind (wpAny_seqItems hTI rfl ?_)
  show wpAny _ _ (Builtin.SmallTypes.ownedTupleIsFree (.ref z) >>= _) _ _ _
  refine wpAny_bind (not_free hz hT fun h₁ b' hz₁ hs₁ => ?_)
  rw [if_neg (by decide)]
  refine wpAny_bind ?_
  rw [← Array.forIn_toList]
  simp only [List.forIn_cons, List.forIn_nil]
  refine wpAny_bind (wpAny_bind (wpAny_holding ?_))
  show wpAny _ _ (Builtin.SmallTypes.nextOf (.ref i1) >>= _) _ _ _
  refine wpAny_bind (wpAny_nextOf_list_end hh (h1.extBut hs₁.extBut D.i1z) (hl1.extBut hs₁.extBut D.l1z) hx fun h₂ e hs₂ he => ?_)
  obtain ⟨oe, hoe, hce⟩ := he
  refine wpAny_bind (wpAny_isInstance (T := "StopIteration") (b := true) ⟨oe, hoe, hce⟩ isSubtype_stop ?_)
  exact wpAny_pure (hQ _ fun c o c1 c3 _ x => hs₂ _ _ c3 (hs₁.extBut _ _ c1 x))

/-- where a zip stands behind i items that were all kept -/
noncomputable def ZipSt (h : Heap) (z TI TO i1 i2 l1 l2 S : Addr) (xs ys : Array Value) (i : Nat) : Prop :=
  ((IsZip h z TI TO .none ∧ ∃ a b, IsPair h TO a b) ∨ ∃ (T : Addr) (b : Bool) (oT : Obj), h.get? z = some (zipO (rawInt T) b TI TO) ∧ h.get? T = some oT ∧ T ≠ z ∧ T ≠ TO ∧ T ≠ i1 ∧ T ≠ i2 ∧ T ≠ S) ∧
    IsPair h TI (.ref i1) (.ref i2) ∧ h.IsListIter i1 l1 i ∧ h.IsListIter i2 l2 i ∧ h.IsList l1 xs ∧ h.IsList l2 ys
theorem ZipSt.keep {h h' : Heap} {z TI TO i1 i2 l1 l2 S : Addr} {xs ys : Array Value} {i : Nat} (x : ZipSt h z TI TO i1 i2 l1 l2 S xs ys i) (hk : ∀ b o, b ≠ S → h.get? b = some o → h'.get? b = some o)
    (a1 : z ≠ S) (a2 : TI ≠ S) (a3 : TO ≠ S) (a4 : i1 ≠ S) (a5 : i2 ≠ S) (a6 : l1 ≠ S) (a7 : l2 ≠ S) : ZipSt h' z TI TO i1 i2 l1 l2 S xs ys i := by
  obtain ⟨x1, x2, x3, x4, x5, x6⟩ := x
  refine ⟨?_, hk _ _ a2 x2, x3.at fun o e => hk _ o a4 e, x4.at fun o e => hk _ o a5 e, x5.at fun o e => hk _ o a6 e, x6.at fun o e => hk _ o a7 e⟩
  rcases x1 with ⟨b1, a, b, b2⟩ | ⟨T, b, oT, b1, b2, b3, b4, b5, b6, b7⟩
  · exact .inl ⟨hk _ _ a1 b1, a, b, hk _ _ a3 b2⟩
  · exact .inr ⟨T, b, oT, hk _ _ a1 b1, hk _ _ b7 b2, b3, b4, b5, b6, b7⟩
theorem zip_item {z TI TO i1 i2 l1 l2 S : Addr} {i : Nat} {xs ys : Array Value} {x y : Value} {Q : Option Value → Shared → Prop} (D : ZipApart z TI TO i1 i2 l1 l2) (hst : ZipSt s.heap z TI TO i1 i2 l1 l2 S xs ys i) (hS : S < s.heap.objs.size) (hx : xs[i]? = some x) (hy : ys[i]? = some y)
    (hQ : ∀ h', ZipSt h' z TI TO i1 i2 l1 l2 S xs ys (i + 1) → IsPair h' s.heap.objs.size x y → h'.objs.size = s.heap.objs.size + 1 → (∀ c o, c ≠ z → c ≠ TO → c ≠ i1 → c ≠ i2 → s.heap.get? c = some o → h'.get? c = some o) → Q (some (.ref s.heap.objs.size)) { s with heap := h' }) :
    wpAny (model prog w) A (pyNext (.ref z)) Q E s := by
  obtain ⟨x1, x2, x3, x4, x5, x6⟩ := hst
  have lt : ∀ {c o}, s.heap.get? c = some o → s.heap.objs.size ≠ c := fun e => Nat.ne_of_gt (Heap.lt_size e)
  have i1n : s.heap.objs.size ≠ i1 := by obtain ⟨_, e, _⟩ := x3; exact lt e
  have i2n : s.heap.objs.size ≠ i2 := by obtain ⟨_, e, _⟩ := x4; exact lt e
  rcases x1 with ⟨b1, a, b, b2⟩ | ⟨T, b, oT, b1, b2, b3, b4, b5, b6, b7⟩
  · refine wpAny_pyNext_zip_item D b1 x2 b2 x3 x4 x5 x6 hx hy fun h' c1 c2 c3 c4 c5 c6 c7 => ?_
    exact hQ h' ⟨.inr ⟨_, false, _, c1, c5, lt b1, lt b2, i1n, i2n, Nat.ne_of_gt hS⟩, c7 _ _ D.TIz D.TITO D.TIi1 D.TIi2 x2, c3, c4, x5.at fun o e => c7 _ o D.l1z D.l1TO D.l1i1 D.l1i2 e, x6.at fun o e => c7 _ o D.l2z D.l2TO D.l2i1 D.l2i2 e⟩ c5 c6 c7
  · refine zip_more_item D b1 b2 x2 x3 x4 x5 x6 hx hy fun h' b' c1 c3 c4 c5 c6 c7 => ?_
    exact hQ h' ⟨.inr ⟨T, b', oT, c1, c7 _ _ b3 b5 b6 b2, b3, b4, b5, b6, b7⟩, c7 _ _ D.TIz D.TIi1 D.TIi2 x2, c3, c4, x5.at fun o e => c7 _ o D.l1z D.l1i1 D.l1i2 e, x6.at fun o e => c7 _ o D.l2z D.l2i1 D.l2i2 e⟩ c5 c6 (fun c o d1 _ d3 d4 e => c7 c o d1 d3 d4 e)
theorem zip_done {z TI TO i1 i2 l1 l2 S : Addr} {i : Nat} {xs ys : Array Value} {Q : Option Value → Shared → Prop} (hh : A.handled = none) (D : ZipApart z TI TO i1 i2 l1 l2) (hst : ZipSt s.heap z TI TO i1 i2 l1 l2 S xs ys i) (hx : xs[i]? = none)
    (hQ : ∀ h', (∀ c o, c ≠ z → c ≠ TO → c ≠ i1 → c ≠ i2 → s.heap.get? c = some o → h'.get? c = some o) → Q none { s with heap := h' }) :
    wpAny (model prog w) A (pyNext (.ref z)) Q E s := by
  obtain ⟨x1, x2, x3, x4, x5, x6⟩ := hst
  rcases x1 with ⟨b1, a, b, b2⟩ | ⟨T, b, oT, b1, b2, b3, b4, b5, b6, b7⟩
  · exact wpAny_pyNext_zip_end hh D b1 x2 b2 x3 x4 x5 x6 (.inl hx) hQ
  · exact zip_more_end hh D b1 b2 x2 x3 x5 hx fun h' k => hQ h' fun c o d1 _ d3 d4 e => k c o d1 d3 d4 e
end

/-- the pairs that were made so far -/
noncomputable def Made (h : Heap) (xs ys : Array Value) (lo : Addr) (as : List Addr) : Prop := ∀ (j : Nat) (a : Addr), as[j]? = some a → ∃ x y, xs[j]? = some x ∧ ys[j]? = some y ∧ IsPair h a x y ∧ lo < a
section
variable {prog : Program} {w : World} {A : Around} {s : Shared} {R : Result → Shared → Prop}
theorem zip_loop {z TI TO i1 i2 l1 l2 S : Addr} {xs ys : Array Value} (hh : A.handled = none) (D : ZipApart z TI TO i1 i2 l1 l2) (hxy : xs.size = ys.size) (hn : xs.size ≤ 1000) (hz : z < S) (hTO : TO < S) (hi1 : i1 < S) (hi2 : i2 < S) (hTI : TI < S) (hl1 : l1 ≠ S) (hl2 : l2 ≠ S) (res : Value) {h₁ : Heap}
    (hR : ∀ h' tk acc c as, (∀ b o, b ≠ S → b ≠ z → b ≠ TO → b ≠ i1 → b ≠ i2 → h₁.get? b = some o → h'.get? b = some o) → h'.get? S = some { cls := .type "list", dict := none, data := .seq acc c, slots := #[] } → as.length = xs.size → Made h' xs ys S as →
      acc.toList = as.map Value.ref → R (.ok (.ret res)) { s with heap := h', toks := tk }) :
    ∀ (k i : Nat) (h : Heap) (tk c : Nat) (acc : Array Value) (as : List Addr), xs.size - i = k → i ≤ xs.size → ZipSt h z TI TO i1 i2 l1 l2 S xs ys i → (∀ b o, b ≠ S → b ≠ z → b ≠ TO → b ≠ i1 → b ≠ i2 → h₁.get? b = some o → h.get? b = some o) →
      h.get? S = some { cls := .type "list", dict := none, data := .seq acc c, slots := #[] } → acc.toList = as.map Value.ref → as.length = i → Made h xs ys S as →
      codeAny (model prog w) A (.builtin "list.extend.loop" ⟨[.ref S, .ref z, res], []⟩) R { s with heap := h, toks := tk } := by
  intro k
  induction k with
  | zero =>
    intro i h tk c acc as hk hi hst hkeep hS hacc hal hG
    refine codeAny_builtin PySem.F.entry_extend_loop ?_
    rw [Around.under_plainId PySem.F.plain_extend_loop _]
    show wpAny _ A.in1 (pyNext (.ref z) >>= _) _ _ _
    refine wpAny_bind (zip_done (s := { s with heap := h, toks := tk }) (A := A.in1) hh D hst (Array.getElem?_eq_none (by omega)) fun h' he => ?_)
    refine wpAny_pure (hR h' tk acc c as (fun b o h1 h2 h3 h4 h5 e => he b o h2 h3 h4 h5 (hkeep b o h1 h2 h3 h4 h5 e)) (he S _ (Nat.ne_of_gt hz) (Nat.ne_of_gt hTO) (Nat.ne_of_gt hi1) (Nat.ne_of_gt hi2) hS) (by omega) (fun j a hj => ?_) hacc)
    obtain ⟨x, y, e1, e2, e3, e4⟩ := hG j a hj
    exact ⟨x, y, e1, e2, he a _ (Nat.ne_of_gt (Nat.lt_trans hz e4)) (Nat.ne_of_gt (Nat.lt_trans hTO e4)) (Nat.ne_of_gt (Nat.lt_trans hi1 e4)) (Nat.ne_of_gt (Nat.lt_trans hi2 e4)) e3, e4⟩
  | succ k ih =>
    intro i h tk c acc as hk hi hst hkeep hS hacc hal hG
    have hlt : i < xs.size := by omega
    obtain ⟨x, hx⟩ : ∃ x, xs[i]? = some x := ⟨_, Array.getElem?_eq_getElem hlt⟩
    obtain ⟨y, hy⟩ : ∃ y, ys[i]? = some y := ⟨_, Array.getElem?_eq_getElem (by omega)⟩
    have hsz : acc.size = i := by rw [← Array.length_toList, hacc, List.length_map, hal]
    have e24 : sizeLine = 2 ^ 24 := rfl
    refine codeAny_builtin PySem.F.entry_extend_loop ?_
    rw [Around.under_plainId PySem.F.plain_extend_loop _]
    show wpAny _ A.in1 (pyNext (.ref z) >>= _) _ _ _
    refine wpAny_bind (zip_item (s := { s with heap := h, toks := tk }) (S := S) D hst (Heap.lt_size hS) hx hy fun h' hst' ht hz' hkp => ?_)
    dsimp only at ht hz' hkp ⊢
    have hS' := hkp S _ (Nat.ne_of_gt hz) (Nat.ne_of_gt hTO) (Nat.ne_of_gt hi1) (Nat.ne_of_gt hi2) hS
    have up : ∀ b o, b ≠ S → h'.get? b = some o → (h'.update S (Obj.mapSeq (·.push (Value.ref h.objs.size)))).get? b = some o := fun b o hb e => (Heap.get?_update_other _ _ (Ne.symm hb)).trans e
    have hSl : S < h.objs.size := Heap.lt_size hS
    show wpAny _ A.in1 (updateSeq S (·.push (Value.ref h.objs.size)) >>= _) _ _ _
    refine wpAny_bind ?_
    refine wpAny_updateSeq hS' rfl (wpAny_pure ⟨plainId_quiet PySem.F.plain_extend_loop _, ih (i + 1) _ tk _ (acc.push (Value.ref h.objs.size)) (as ++ [h.objs.size]) (by omega) hlt (hst'.keep up (Nat.ne_of_lt hz) (Nat.ne_of_lt hTI) (Nat.ne_of_lt hTO) (Nat.ne_of_lt hi1) (Nat.ne_of_lt hi2) hl1 hl2)
      (fun b o h1 h2 h3 h4 h5 e => up b o h1 (hkp b o h2 h3 h4 h5 (hkeep b o h1 h2 h3 h4 h5 e))) (Heap.get?_update_self _ hS' rfl) (by rw [Array.toList_push, hacc, List.map_append]; rfl) (by rw [List.length_append, hal]; rfl) ?_⟩) (by rw [hsz]; omega) (by show (acc.push (Value.ref h.objs.size)).size ≤ sizeLine + 1; rw [Array.size_push, hsz]; omega)
    intro j b hj
    rcases Nat.lt_trichotomy j as.length with h1 | h1 | h1
    · rw [List.getElem?_append_left h1] at hj
      obtain ⟨x', y', e1, e2, e3, e4⟩ := hG j b hj
      exact ⟨x', y', e1, e2, up b _ (Nat.ne_of_gt e4) (hkp b _ (Nat.ne_of_gt (Nat.lt_trans hz e4)) (Nat.ne_of_gt (Nat.lt_trans hTO e4)) (Nat.ne_of_gt (Nat.lt_trans hi1 e4)) (Nat.ne_of_gt (Nat.lt_trans hi2 e4)) e3), e4⟩
    · subst h1
      have hb : h.objs.size = b := by simpa using hj
      subst hb
      exact ⟨x, y, by rw [hal]; exact hx, by rw [hal]; exact hy, up _ _ (Nat.ne_of_gt hSl) ht, hSl⟩
    · have hnone : (as ++ [h.objs.size])[j]? = none := List.getElem?_eq_none (by rw [List.length_append, List.length_singleton]; omega)
      rw [hnone] at hj; cases hj
end
end
section
open PySem PySem.W PyProof.Rows PySem.Calls
set_option Elab.async false
set_option maxRecDepth 100000
set_option maxHeartbeats 4000000
theorem zip_no_len : typeLookup (.type "zip") "__len__" = pure none := by rw [typeLookup_type, builtinLookup_eq_fast]; kernel_rfl
theorem zip_no_hint : typeLookup (.type "zip") "__length_hint__" = pure none := by rw [typeLookup_type, builtinLookup_eq_fast]; kernel_rfl
section
variable {prog : Program} {w : World} {A : Around} {E : Value → Shared → Prop} {s : Shared}
theorem extend_zip {R : Result → Shared → Prop} {z TI TO i1 i2 l1 l2 S : Addr} {xs ys : Array Value} (hh : A.handled = none) (D : ZipApart z TI TO i1 i2 l1 l2) (hst : ZipSt s.heap z TI TO i1 i2 l1 l2 S xs ys 0) (hf : IsZip s.heap z TI TO .none)
    (hxy : xs.size = ys.size) (hn : xs.size ≤ 1000) (hz : z < S) (hTO : TO < S) (hi1 : i1 < S) (hi2 : i2 < S) (hTI : TI < S) (hl1 : l1 ≠ S) (hl2 : l2 ≠ S) (res : Value) (c₀ : Nat)
    (hS : s.heap.get? S = some { cls := .type "list", data := .seq #[] c₀ })
    (hR : ∀ h' tk acc c as, (∀ b o, b ≠ S → b ≠ z → b ≠ TO → b ≠ i1 → b ≠ i2 → s.heap.get? b = some o → h'.get? b = some o) → h'.get? S = some { cls := .type "list", dict := none, data := .seq acc c, slots := #[] } → as.length = xs.size → Made h' xs ys S as →
      acc.toList = as.map Value.ref → R (.ok (.ret res)) { s with heap := h', toks := tk }) :
    wpAny (model prog w) A.in1 (Builtin.List.listExtendWith (.ref S) (.ref z) res)
      (fun fin s' => match fin with | .done f => R (.ok f) s' | .again c' => c'.quiet = true ∧ codeAny (model prog w) A c' R s') (fun e s' => R (.error e) s') s := by
  have hT : s.TypeIs (.ref z) "zip" := ⟨_, hf, rfl⟩
  have hSz : S ≠ z := Nat.ne_of_gt hz
  unfold Builtin.List.listExtendWith
  refine wpAny_bind (wpAny_typeOf hT ?_)
  have h1 : Builtin.List.listSameRef (.ref S) (.ref z) = false := by simp [Builtin.List.listSameRef, hSz]
  have h2 : (Value.type "zip" == Value.type "list") = false := by decide
  have h3 : (Value.type "zip" == Value.type "tuple") = false := by decide
  simp only [h1, h2, h3, Bool.or_false, Bool.false_eq_true, if_false]
  refine wpAny_bind (wpAny_pyIter_zip hf ?_)
  refine wpAny_bind (wpAny_holding ?_)
  unfold Builtin.List.listLengthHint
  refine wpAny_bind (wpAny_specialOf hT zip_no_len ?_)
  show wpAny _ A.in1 (specialOf (Value.ref z) (Str.ofString "__length_hint__") >>= _) _ _ _
  refine wpAny_bind (wpAny_specialOf hT zip_no_hint ?_)
  refine wpAny_pure ?_
  show wpAny _ A.in1 (rule "list.extend.makes-room" >>= fun _ => Builtin.List.listTouch (.ref S) >>= fun _ =>
    again (.builtin "list.extend.loop" ⟨[.ref S, .ref z, res], []⟩)) _ _ _
  refine wpAny_bind (wpAny_rule ?_)
  refine wpAny_bind ?_
  show wpAny _ A.in1 (updateSeq S (·.push .none) >>= fun _ => updateSeq S (·.pop)) _ _ _
  refine wpAny_bind (wpAny_updateSeq hS rfl ?_)
  have hS₂ := Heap.get?_update_self (Obj.mapSeq (·.push Value.none)) hS rfl
  refine wpAny_updateSeq (hz := by seq_fits) hS₂ rfl ?_
  have hS₃ := Heap.get?_update_self (Obj.mapSeq (·.pop)) hS₂ rfl
  have oth : ∀ b o, b ≠ S → s.heap.get? b = some o → ((s.heap.update S (Obj.mapSeq (·.push Value.none))).update S (Obj.mapSeq (·.pop))).get? b = some o :=
    fun b o hb e => (Heap.get?_update_other _ _ (Ne.symm hb)).trans ((Heap.get?_update_other _ _ (Ne.symm hb)).trans e)
  refine wpAny_pure ⟨plainId_quiet PySem.F.plain_extend_loop _, ?_⟩
  exact zip_loop (h₁ := s.heap) hh D hxy hn hz hTO hi1 hi2 hTI hl1 hl2 res hR xs.size 0 _ s.toks _ #[] [] rfl (Nat.zero_le _)
    (hst.keep oth (Nat.ne_of_lt hz) (Nat.ne_of_lt hTI) (Nat.ne_of_lt hTO) (Nat.ne_of_lt hi1) (Nat.ne_of_lt hi2) hl1 hl2) (fun b o h1 _ _ _ _ e => oth b o h1 e) hS₃ rfl rfl (fun j a h => by simp at h)

theorem init_zip {R : Result → Shared → Prop} {z TI TO i1 i2 l1 l2 S : Addr} {xs ys : Array Value} (hh : A.handled = none) (D : ZipApart z TI TO i1 i2 l1 l2) (hst : ZipSt s.heap z TI TO i1 i2 l1 l2 S xs ys 0) (hf : IsZip s.heap z TI TO .none)
    (hxy : xs.size = ys.size) (hn : xs.size ≤ 1000) (hz : z < S) (hTO : TO < S) (hi1 : i1 < S) (hi2 : i2 < S) (hTI : TI < S) (hl1 : l1 ≠ S) (hl2 : l2 ≠ S)
    (hS : s.heap.get? S = some { cls := .type "list", data := .seq #[] })
    (hR : ∀ h' tk acc c as, (∀ b o, b ≠ S → b ≠ z → b ≠ TO → b ≠ i1 → b ≠ i2 → s.heap.get? b = some o → h'.get? b = some o) → h'.get? S = some { cls := .type "list", dict := none, data := .seq acc c, slots := #[] } → as.length = xs.size → Made h' xs ys S as →
      acc.toList = as.map Value.ref → R (.ok (.ret .none)) { s with heap := h', toks := tk }) :
    wpAny (model prog w) A.in1 (Builtin.«list.__init__» ⟨[.ref S, .ref z], []⟩)
      (fun fin s' => match fin with | .done f => R (.ok f) s' | .again c' => c'.quiet = true ∧ codeAny (model prog w) A c' R s') (fun e s' => R (.error e) s') s := by
  show wpAny _ A.in1 (do let old ← Builtin.List.listItems (.ref S); Builtin.List.listUpdate (.ref S) (fun _ => #[]); letGo old.toList.reverse; Builtin.List.listExtendWith (.ref S) (.ref z) .none) _ _ s
  refine wpAny_bind ?_
  unfold Builtin.List.listItems
  refine wpAny_bind (wpAny_seqItems hS rfl (wpAny_pure ?_))
  show wpAny _ A.in1 (updateSeq S (fun _ => #[]) >>= fun _ => letGo (#[] : Array Value).toList.reverse >>= fun _ => Builtin.List.listExtendWith (.ref S) (.ref z) .none) _ _ s
  refine wpAny_bind (wpAny_updateSeq hS rfl ?_)
  have hS₂ := Heap.get?_update_self (Obj.mapSeq (fun _ => (#[] : Array Value))) hS rfl
  have oth : ∀ b o, b ≠ S → s.heap.get? b = some o → (s.heap.update S (Obj.mapSeq (fun _ => (#[] : Array Value)))).get? b = some o :=
    fun b o hb e => (Heap.get?_update_other _ _ (Ne.symm hb)).trans e
  refine wpAny_bind (wpAny_letGo ?_)
  refine extend_zip (s := { s with heap := s.heap.update S (Obj.mapSeq (fun _ => (#[] : Array Value))) }) hh D (hst.keep oth (Nat.ne_of_lt hz) (Nat.ne_of_lt hTI) (Nat.ne_of_lt hTO) (Nat.ne_of_lt hi1) (Nat.ne_of_lt hi2) hl1 hl2) (oth _ _ (Nat.ne_of_lt hz) hf) hxy hn hz hTO hi1 hi2 hTI hl1 hl2 .none _ hS₂ ?_
  intro h' tk acc c as k1 k2 k3 k4 k5
  exact hR h' tk acc c as (fun b o a1 a2 a3 a4 a5 e => k1 b o a1 a2 a3 a4 a5 (oth b o a1 e)) k2 k3 k4 k5

theorem call_list_zip {z TI TO i1 i2 l1 l2 : Addr} {xs ys : Array Value} {Q : Value → Shared → Prop} (hh : A.handled = none) (D : ZipApart z TI TO i1 i2 l1 l2) (hst : ZipSt s.heap z TI TO i1 i2 l1 l2 s.heap.objs.size xs ys 0) (hf : IsZip s.heap z TI TO .none)
    (hxy : xs.size = ys.size) (hn : xs.size ≤ 1000) (hTO : TO < s.heap.objs.size) (hi1 : i1 < s.heap.objs.size) (hi2 : i2 < s.heap.objs.size) (hTI : TI < s.heap.objs.size) (hl1 : l1 ≠ s.heap.objs.size) (hl2 : l2 ≠ s.heap.objs.size)
    (hQ : ∀ h' tk acc c as, (∀ b o, b ≠ z → b ≠ TO → b ≠ i1 → b ≠ i2 → s.heap.get? b = some o → h'.get? b = some o) → h'.get? s.heap.objs.size = some { cls := .type "list", dict := none, data := .seq acc c, slots := #[] } → as.length = xs.size → Made h' xs ys s.heap.objs.size as →
      acc.toList = as.map Value.ref → Q (.ref s.heap.objs.size) { s with heap := h', toks := tk }) :
    wpAny (model prog w) A (call (.type "list") [.ref z]) Q E s := by
  have hz : z < s.heap.objs.size := Heap.lt_size hf
  have up : ∀ b o, s.heap.get? b = some o → (s.heap.push { cls := .type "list", data := .seq #[] }).get? b = some o := fun b o e => Heap.get?_push_of_some _ e
  refine callType_codes (Q₁ := fun obj s₁ => obj = .ref s.heap.objs.size ∧ s₁ = { s with heap := s.heap.push { cls := .type "list", data := .seq #[] } }) PySem.F.called_list (PySem.F.typeCall_list_1 _) PySem.F.entry_list_init
    (code_list_new _ ⟨rfl, rfl⟩) fun obj s₁ h₁ => ?_
  obtain ⟨rfl, rfl⟩ := h₁
  have hS : (s.heap.push { cls := .type "list", data := .seq #[] }).get? s.heap.objs.size = some { cls := .type "list", data := .seq #[] } := Heap.get?_push_size _ rfl
  refine ⟨⟨_, hS, rfl⟩, PySem.F.args_list_init_2 _ _, init_zip (s := { s with heap := s.heap.push { cls := .type "list", data := .seq #[] } }) hh D (hst.keep (fun b o _ e => up b o e) (Nat.ne_of_lt hz) (Nat.ne_of_lt hTI) (Nat.ne_of_lt hTO) (Nat.ne_of_lt hi1) (Nat.ne_of_lt hi2) hl1 hl2) (up _ _ hf) hxy hn hz hTO hi1 hi2 hTI hl1 hl2 hS ?_⟩
  intro h' tk acc c as k1 k2 k3 k4 k5
  exact ⟨rfl, hQ h' tk acc c as (fun b o a2 a3 a4 a5 e => k1 b o (Nat.ne_of_lt (Heap.lt_size e)) a2 a3 a4 a5 (up b o e)) k2 k3 k4 k5⟩

end
end
section
open PySem PySem.W PyProof.Rows PySem.Calls
set_option Elab.async false
set_option maxRecDepth 100000
set_option maxHeartbeats 4000000
/-- a zip of two lists that has just been made, apart from the ledger -/
noncomputable def ZipNew (g : Heap) (L : Addr) (h : Heap) (z l1 l2 : Addr) (xs ys : Array Value) (news : List (Addr × Obj)) : Prop :=
  ∃ TI TO i1 i2, ZipApart z TI TO i1 i2 l1 l2 ∧ IsZip h z TI TO .none ∧ IsPair h TI (.ref i1) (.ref i2) ∧ (∃ a b, IsPair h TO a b) ∧ h.IsListIter i1 l1 0 ∧ h.IsListIter i2 l2 0 ∧ h.IsList l1 xs ∧ h.IsList l2 ys ∧
    (∀ a, a = z ∨ a = TO ∨ a = i1 ∨ a = i2 → a ≠ L ∧ g.get? a = none ∧ ∀ p ∈ news, p.1 ≠ a)
section
variable {prog : Program} {w : World} {A : Around} {E : Value → Shared → Prop} {s : Shared} {g : Heap} {L l1 l2 : Addr} {m : Str → Option Value} {news : List (Addr × Obj)} {Q : Value → Shared → Prop}
theorem zip_at {xs ys : Array Value} (F : Fr g L s.heap m) (N : News g L s.heap news) (hl1 : s.heap.IsList l1 xs) (hl2 : s.heap.IsList l2 ys)
    (k : ∀ h' z, Fr g L h' m → News g L h' news → ZipNew g L h' z l1 l2 xs ys news → Q (.ref z) { s with heap := h' }) :
    wpAny (model prog w) A (call (.type "zip") [.ref l1, .ref l2]) Q E s := by
  refine zip_rows F hl1 hl2 fun h' z TI TO i1 i2 D ⟨a1, a2, a3, a4, a5, a6, a7⟩ F' hk b1 b2 b3 b4 b5 => k h' z F' (news_keeps N hk) ⟨TI, TO, i1, i2, D, a1, a2, a3, a4, a5, a6, a7, ?_⟩
  have main : ∀ a, s.heap.objs.size ≤ a → L < a → a ≠ L ∧ g.get? a = none ∧ ∀ p ∈ news, p.1 ≠ a := by
    intro a h1 h2
    refine ⟨Nat.ne_of_gt h2, ?_, fun p hp => Nat.ne_of_lt (Nat.lt_of_lt_of_le (Heap.lt_size (N p hp).1) h1)⟩
    cases q : g.get? a with
    | none => rfl
    | some o => exact absurd (Nat.lt_of_lt_of_le (Heap.lt_size q) (Nat.le_trans F.above (Nat.le_of_lt h2))) (Nat.lt_irrefl _)
  rintro a (rfl | rfl | rfl | rfl)
  · exact main _ b1 b5.1
  · exact main _ b2 b5.2.1
  · exact main _ b3 b5.2.2.1
  · exact main _ b4 b5.2.2.2

theorem listzip_at {z : Addr} {vs us : List Value} {ns ms : List Int} (hh : A.handled = none) (F : Fr g L s.heap m) (N : News g L s.heap news) (Zn : ZipNew g L s.heap z l1 l2 vs.toArray us.toArray news) (hv : IntsAre vs ns) (hu : IntsAre us ms) (hl : ns.length = ms.length) (hn : ns.length ≤ 100)
    (h : ∀ (h' : Heap) (tk c : Nat) (D : Addr) (zs : List Z) (cz : List (Addr × Obj)), Fr g L h' m → News g L h' ((D, listOf (zs.map fun z : Z => z.1).toArray c) :: (cz ++ news)) → zs.map (fun z : Z => z.2) = List.zip ns ms →
      (∀ z ∈ zs, ∃ a t u n, z.1 = .ref a ∧ (a, chipO z.2.1 z.2.2 t u n) ∈ cz) → Q (.ref D) { s with heap := h', toks := tk }) :
    wpAny (model prog w) A (call (.type "list") [.ref z]) Q E s := by
  obtain ⟨TI, TO, i1, i2, D, a1, a2, a3, a4, a5, a6, a7, a8⟩ := Zn
  have lt : ∀ {c o}, s.heap.get? c = some o → c < s.heap.objs.size := fun e => Heap.lt_size e
  have e1 : vs.toArray.size = ns.length := by simp [hv.length]
  have e2 : us.toArray.size = ms.length := by simp [hu.length]
  obtain ⟨a, b, a3'⟩ := a3
  refine call_list_zip (xs := vs.toArray) (ys := us.toArray) hh D ⟨.inl ⟨a1, a, b, a3'⟩, a2, a4, a5, a6, a7⟩ a1 (by omega) (by omega) (lt a3') (by obtain ⟨_, e, _⟩ := a4; exact lt e) (by obtain ⟨_, e, _⟩ := a5; exact lt e) (lt a2)
    (by obtain ⟨_, e, _⟩ := a6; exact Nat.ne_of_lt (lt e)) (by obtain ⟨_, e, _⟩ := a7; exact Nat.ne_of_lt (lt e)) ?_
  intro h' tk acc c as k1 k2 k3 k4 k5
  have hLs : L < s.heap.objs.size := F.ns.lt
  have hgn : ∀ a, L < a → g.get? a = none := by
    intro a h2
    cases q : g.get? a with
    | none => rfl
    | some o => exact absurd (Nat.lt_of_lt_of_le (Heap.lt_size q) (Nat.le_trans F.above (Nat.le_of_lt h2))) (Nat.lt_irrefl _)
  have hkeep : ∀ b o, (∀ a, a = z ∨ a = TO ∨ a = i1 ∨ a = i2 → b ≠ a) → s.heap.get? b = some o → h'.get? b = some o := fun b o q e =>
    k1 b o (q z (.inl rfl)) (q TO (.inr (.inl rfl))) (q i1 (.inr (.inr (.inl rfl)))) (q i2 (.inr (.inr (.inr rfl)))) e
  have F' : Fr g L h' m := by
    obtain ⟨oL, b1, b2, hoL, b3⟩ := F.ns
    exact ⟨⟨oL, b1, b2, hkeep L oL (fun a ha e => (a8 a ha).1 e.symm) hoL, b3⟩, fun b o q => hkeep b o (fun a ha e => by rw [e, (a8 a ha).2.1] at q; cases q) (F.keep b o q), F.above⟩
  have N' : News g L h' news := fun p hp => ⟨hkeep p.1 p.2 (fun a ha e => (a8 a ha).2.2 p hp e) (N p hp).1, (N p hp).2⟩
  have hex : ∀ (j : Nat) (a : Addr), as[j]? = some a → ∃ x y t u, ns[j]? = some x ∧ ms[j]? = some y ∧ h'.get? a = some (chipO x y t u 0) ∧ s.heap.objs.size < a := by
    intro j a hj
    obtain ⟨x, y, q1, q2, q3, q4⟩ := k4 j a hj
    have hj1 : j < ns.length := by
      have := (List.getElem?_eq_some_iff.mp hj).1
      omega
    obtain ⟨n, hn1⟩ : ∃ n, ns[j]? = some n := ⟨_, List.getElem?_eq_getElem hj1⟩
    obtain ⟨k, hk1⟩ : ∃ n, ms[j]? = some n := ⟨_, List.getElem?_eq_getElem (by omega)⟩
    obtain ⟨t, ht⟩ := ints_get hv hn1
    obtain ⟨u, hu1⟩ := ints_get hu hk1
    have q1' : vs[j]? = some x := by simpa using q1
    have q2' : us[j]? = some y := by simpa using q2
    rw [ht] at q1'; rw [hu1] at q2'
    cases q1'; cases q2'
    exact ⟨n, k, t, u, hn1, hk1, q3, q4⟩
  have hb : ∀ as' : List Addr, (∀ a ∈ as', ∃ x y t u, h'.get? a = some (chipO x y t u 0) ∧ s.heap.objs.size < a) → ∃ (zs : List Z) (cz : List (Addr × Obj)), as'.map Value.ref = zs.map (fun z : Z => z.1) ∧ News g L h' cz ∧ (∀ z ∈ zs, ∃ a t u n, z.1 = .ref a ∧ (a, chipO z.2.1 z.2.2 t u n) ∈ cz) ∧
      ∀ (j : Nat) (a : Addr) (x y : Int) (t u : Tok), as'[j]? = some a → h'.get? a = some (chipO x y t u 0) → (zs.map (fun z : Z => z.2))[j]? = some (x, y) := by
    intro as'
    induction as' with
    | nil => intro _; exact ⟨[], [], rfl, News.nil, (fun _ h => nomatch h), fun j a x y t u q => by simp at q⟩
    | cons a r ih =>
      intro q
      obtain ⟨zs, cz, c1, c2, c3, c4⟩ := ih fun b hb => q b (.tail _ hb)
      obtain ⟨x, y, t, u, q1, q2⟩ := q a (.head _)
      refine ⟨(.ref a, x, y) :: zs, (a, chipO x y t u 0) :: cz, by simp [c1], ?_, ?_, ?_⟩
      · intro p hp
        rcases List.mem_cons.mp hp with rfl | hp
        · exact ⟨q1, Nat.ne_of_gt (Nat.lt_trans hLs q2), hgn _ (Nat.lt_trans hLs q2)⟩
        · exact c2 p hp
      · intro y hy
        rcases List.mem_cons.mp hy with rfl | hy
        · exact ⟨a, t, u, 0, rfl, .head _⟩
        · obtain ⟨b, t', u', n', d1, d2⟩ := c3 y hy
          exact ⟨b, t', u', n', d1, .tail _ d2⟩
      · intro j b x' y' t' u' d1 d2
        rcases j with _ | j
        · cases (Option.some.inj d1 : a = b)
          rw [q1] at d2
          have := congrArg Obj.data (Option.some.inj d2)
          simp at this
          simp [this]
        · exact c4 j b x' y' t' u' (by simpa using d1) d2
  obtain ⟨zs, cz, c1, c2, c3, c4⟩ := hb as fun a ha => by
    obtain ⟨j, hj⟩ := List.getElem?_of_mem ha
    obtain ⟨x, y, t, u, _, _, q3, q4⟩ := hex j a hj
    exact ⟨x, y, t, u, q3, q4⟩
  have hacc : acc = (zs.map fun z : Z => z.1).toArray := by
    rw [← c1, ← k5, Array.toArray_toList]
  have hlz : zs.length = ns.length := by
    have := congrArg List.length c1
    simp at this; omega
  refine h h' tk c s.heap.objs.size zs cz F' ?_ ?_ c3
  · intro p hp
    rcases List.mem_cons.mp hp with rfl | hp
    · exact ⟨by rw [← hacc]; exact k2, Nat.ne_of_gt hLs, hgn _ hLs⟩
    rcases List.mem_append.mp hp with hp | hp
    · exact c2 p hp
    · exact N' p hp
  · apply List.ext_getElem?
    intro j
    by_cases hj : j < ns.length
    · obtain ⟨a, ha⟩ : ∃ a, as[j]? = some a := ⟨_, List.getElem?_eq_getElem (by omega)⟩
      obtain ⟨x, y, t, u, q1, q2, q3, q4⟩ := hex j a ha
      rw [c4 j a x y t u ha q3]
      symm
      rw [List.getElem?_zip_eq_some]
      exact ⟨q1, q2⟩
    · rw [List.getElem?_eq_none (by simp; omega), List.getElem?_eq_none (by simp; omega)]
end
end
section
open PySem PySem.W PyProof.Rows PySem.Calls
set_option Elab.async false
set_option maxRecDepth 100000
set_option maxHeartbeats 4000000
abbrev comp3 (elt i1 i2 i3 ct : PySem.Expr) (x1 x2 x3 : Str) (p1 p2 p3 : Pos) (scope : Scope) (pos : Pos) : PySem.Expr :=
  .ListComp elt [⟨.Name x1 p1, i1, [], 0⟩, ⟨.Name x2 p2, i2, [], 0⟩, ⟨.Name x3 p3, i3, [ct], 0⟩] scope pos
section
variable {elt i1 i2 i3 ct : PySem.Expr} {x1 x2 x3 : Str} {p1 p2 p3 : Pos} {scope : Scope} {pos : Pos} {it acc : Value} {env : Env}
theorem turn0 : compTurn (comp3 elt i1 i2 i3 ct x1 x2 x3 p1 p2 p3 scope pos) 0 it acc env = (do
    standAt i1.pos
    match ← pyNext it with
    | none => pure (.done .next)
    | some v =>
      letOwnedTupleGo (.Name x1 p1) it v
      assign (.Name x1 p1) env v
      let x ← eval i2 env
      standAt i2.pos
      let x ← foldedSetIterable i2 env x
      let _ ← runOwn (.compStart (comp3 elt i1 i2 i3 ct x1 x2 x3 p1 p2 p3 scope pos) 1 (← holding [x] (pyIter x)) acc env) env
      again (.compLoop (comp3 elt i1 i2 i3 ct x1 x2 x3 p1 p2 p3 scope pos) 0 it acc env)) := by rfl
theorem turn1 : compTurn (comp3 elt i1 i2 i3 ct x1 x2 x3 p1 p2 p3 scope pos) 1 it acc env = (do
    standAt i2.pos
    match ← pyNext it with
    | none => pure (.done .next)
    | some v =>
      letOwnedTupleGo (.Name x2 p2) it v
      assign (.Name x2 p2) env v
      let x ← eval i3 env
      standAt i3.pos
      let x ← foldedSetIterable i3 env x
      let _ ← runOwn (.compStart (comp3 elt i1 i2 i3 ct x1 x2 x3 p1 p2 p3 scope pos) 2 (← holding [x] (pyIter x)) acc env) env
      again (.compLoop (comp3 elt i1 i2 i3 ct x1 x2 x3 p1 p2 p3 scope pos) 1 it acc env)) := by rfl
theorem turn2 : compTurn (comp3 elt i1 i2 i3 ct x1 x2 x3 p1 p2 p3 scope pos) 2 it acc env = (do
    standAt i3.pos
    match ← pyNext it with
    | none => pure (.done .next)
    | some v =>
      letOwnedTupleGo (.Name x3 p3) it v
      assign (.Name x3 p3) env v
      let mut ok := true
      for c in [ct] do
        if ok then ok ← isTrue c env (eval c env)
      if ok then
        (do let _ ← call (.builtin "list.append") [acc, ← eval elt env])
      again (.compLoop (comp3 elt i1 i2 i3 ct x1 x2 x3 p1 p2 p3 scope pos) 2 it acc env)) := by rfl
end
section
variable {prog : Program} {w : World} {A : Around} {R : Result → Shared → Prop} {s : Shared} {elt i1 i2 i3 ct : PySem.Expr} {x1 x2 x3 : Str} {p1 p2 p3 : Pos} {scope : Scope} {pos : Pos} {it acc : Value} {env : Env}
theorem start3 {d : Nat} (hd : d < 3)
    (h0 : codeAny (model prog w) A (.compLoop (comp3 elt i1 i2 i3 ct x1 x2 x3 p1 p2 p3 scope pos) d it acc env) R s)
    (h : wpAny (model prog w) A (pyIter it) (fun it' s' => codeAny (model prog w) A (.compLoop (comp3 elt i1 i2 i3 ct x1 x2 x3 p1 p2 p3 scope pos) d it' acc env) R s') (fun _ _ => False) s) :
    codeAny (model prog w) A (.compStart (comp3 elt i1 i2 i3 ct x1 x2 x3 p1 p2 p3 scope pos) d it acc env) R s := by
  refine codeAny_of_tree ?_
  show wpAny _ _ ((compStart (comp3 elt i1 i2 i3 ct x1 x2 x3 p1 p2 p3 scope pos) d it acc env).onRaise (fun x => do noteFrame x env; standAt theWindowsPlace)) _ _ s
  refine wpAny_notedAt ?_
  have key : ∀ iter : PySem.Expr, wpAny (model prog w) A (do
      if (← ask).params.followText "comprehension-iter-twice" then return ← again (.compLoop (comp3 elt i1 i2 i3 ct x1 x2 x3 p1 p2 p3 scope pos) d it acc env)
      rule "comprehension.iter-twice"
      standAt iter.pos
      again (.compLoop (comp3 elt i1 i2 i3 ct x1 x2 x3 p1 p2 p3 scope pos) d (← pyIter it) acc env)) (fun fin s' => match fin with | .done f => R (.ok f) s' | .again c' => c'.quiet = true ∧ codeAny (model prog w) A c' R s') (fun _ _ => False) s := by
    intro iter
    refine wpAny_bind (wpAny_askSetting (wpAny_ite ?_))
    split
    · first
        | exact wpAny_bind (wpAny_pure (wpAny_pure (And.intro rfl h0)))
        | exact wpAny_pure (And.intro rfl h0)
    · exact wpAny_bind (wpAny_rule (wpAny_bind (wpAny_standAt (wpAny_bind (wpAny_mono h (fun it' s' h' => wpAny_pure (And.intro rfl h')) fun _ _ x => x)))))
  match d, hd with
  | 0, _ => exact wpAny_mono (key i1) (fun _ _ q => q) (fun _ _ q => q.elim)
  | 1, _ => exact wpAny_mono (key i2) (fun _ _ q => q) (fun _ _ q => q.elim)
  | 2, _ => exact wpAny_mono (key i3) (fun _ _ q => q) (fun _ _ q => q.elim)

theorem loop_mid0 (I : Nat → Shared → Prop)
    (turn : ∀ n s, I n s → wpAny (model prog w) A (pyNext it) (fun r s₁ => match r with
      | none => R (.ok .next) s₁
      | some v => wpAny (model prog w) A (assign (.Name x1 p1) env v) (fun _ s₂ => wpAny (model prog w) A (eval i2 env) (fun xv s₃ => wpAny (model prog w) A (pyIter xv) (fun it' s₄ =>
          codeAny (model prog w) A (.compStart (comp3 elt i1 i2 i3 ct x1 x2 x3 p1 p2 p3 scope pos) 1 it' acc env) (fun r s₅ => (∃ f, r = .ok f) ∧ ∃ m, m < n ∧ I m s₅) s₄) (fun _ _ => False) s₃) (fun _ _ => False) s₂) (fun _ _ => False) s₁) (fun _ _ => False) s)
    (n : Nat) (h : I n s) (hs : ∀ x, foldedSetIterable i2 env x = pure x) :
    codeAny (model prog w) A (.compLoop (comp3 elt i1 i2 i3 ct x1 x2 x3 p1 p2 p3 scope pos) 0 it acc env) R s := by
  refine codeAny_loop rfl I (fun n s hI => ?_) n h
  show wpAny _ A ((compTurn (comp3 elt i1 i2 i3 ct x1 x2 x3 p1 p2 p3 scope pos) 0 it acc env).onRaise (fun x => do noteFrame x env; theTreesLotGoes x)) _ _ s
  refine wpAny_noted ?_
  rw [turn0]
  refine wpAny_mono (E := fun _ _ => False) ?_ (fun _ _ q => q) (fun _ _ q => q.elim)
  refine wpAny_bind (wpAny_standAt (wpAny_bind (wpAny_mono (turn n s hI) (fun r s₁ h₁ => ?_) fun _ _ h' => h')))
  cases r with
  | none => exact wpAny_pure h₁
  | some v =>
    refine wpAny_bind (wpAny_of_eq (a := ()) rfl ?_)
    refine wpAny_bind (wpAny_mono h₁ (fun _ s₂ h₂ => wpAny_bind (wpAny_mono h₂ (fun xv s₃ h₃ => ?_) fun _ _ h' => h')) fun _ _ h' => h')
    refine wpAny_bind (wpAny_standAt (wpAny_bind (wpAny_of_eq (hs xv) (wpAny_bind (wpAny_holding (wpAny_mono h₃ (fun it' s₄ h₄ => ?_) fun _ _ h' => h'))))))
    refine wpAny_bind (wpAny_runOwn (codeAny_mono h₄ fun r s₅ h₅ => ?_))
    obtain ⟨⟨f, rfl⟩, h₅⟩ := h₅
    exact wpAny_pure ⟨rfl, h₅⟩
theorem loop_mid1 (I : Nat → Shared → Prop)
    (turn : ∀ n s, I n s → wpAny (model prog w) A (pyNext it) (fun r s₁ => match r with
      | none => R (.ok .next) s₁
      | some v => wpAny (model prog w) A (assign (.Name x2 p2) env v) (fun _ s₂ => wpAny (model prog w) A (eval i3 env) (fun xv s₃ => wpAny (model prog w) A (pyIter xv) (fun it' s₄ =>
          codeAny (model prog w) A (.compStart (comp3 elt i1 i2 i3 ct x1 x2 x3 p1 p2 p3 scope pos) 2 it' acc env) (fun r s₅ => (∃ f, r = .ok f) ∧ ∃ m, m < n ∧ I m s₅) s₄) (fun _ _ => False) s₃) (fun _ _ => False) s₂) (fun _ _ => False) s₁) (fun _ _ => False) s)
    (n : Nat) (h : I n s) (hs : ∀ x, foldedSetIterable i3 env x = pure x) :
    codeAny (model prog w) A (.compLoop (comp3 elt i1 i2 i3 ct x1 x2 x3 p1 p2 p3 scope pos) 1 it acc env) R s := by
  refine codeAny_loop rfl I (fun n s hI => ?_) n h
  show wpAny _ A ((compTurn (comp3 elt i1 i2 i3 ct x1 x2 x3 p1 p2 p3 scope pos) 1 it acc env).onRaise (fun x => do noteFrame x env; theTreesLotGoes x)) _ _ s
  refine wpAny_noted ?_
  rw [turn1]
  refine wpAny_mono (E := fun _ _ => False) ?_ (fun _ _ q => q) (fun _ _ q => q.elim)
  refine wpAny_bind (wpAny_standAt (wpAny_bind (wpAny_mono (turn n s hI) (fun r s₁ h₁ => ?_) fun _ _ h' => h')))
  cases r with
  | none => exact wpAny_pure h₁
  | some v =>
    refine wpAny_bind (wpAny_of_eq (a := ()) rfl ?_)
    refine wpAny_bind (wpAny_mono h₁ (fun _ s₂ h₂ => wpAny_bind (wpAny_mono h₂ (fun xv s₃ h₃ => ?_) fun _ _ h' => h')) fun _ _ h' => h')
    refine wpAny_bind (wpAny_standAt (wpAny_bind (wpAny_of_eq (hs xv) (wpAny_bind (wpAny_holding (wpAny_mono h₃ (fun it' s₄ h₄ => ?_) fun _ _ h' => h'))))))
    refine wpAny_bind (wpAny_runOwn (codeAny_mono h₄ fun r s₅ h₅ => ?_))
    obtain ⟨⟨f, rfl⟩, h₅⟩ := h₅
    exact wpAny_pure ⟨rfl, h₅⟩
theorem loop_last (I : Nat → Shared → Prop)
    (turn : ∀ n s, I n s → wpAny (model prog w) A (pyNext it) (fun r s₁ => match r with
      | none => R (.ok .next) s₁
      | some v => wpAny (model prog w) A (assign (.Name x3 p3) env v) (fun _ s₂ => wpAny (model prog w) A (isTrue ct env (eval ct env)) (fun ok s₃ => ok = false ∧ ∃ m, m < n ∧ I m s₃) (fun _ _ => False) s₂) (fun _ _ => False) s₁) (fun _ _ => False) s)
    (n : Nat) (h : I n s) :
    codeAny (model prog w) A (.compLoop (comp3 elt i1 i2 i3 ct x1 x2 x3 p1 p2 p3 scope pos) 2 it acc env) R s := by
  refine codeAny_loop rfl I (fun n s hI => ?_) n h
  show wpAny _ A ((compTurn (comp3 elt i1 i2 i3 ct x1 x2 x3 p1 p2 p3 scope pos) 2 it acc env).onRaise (fun x => do noteFrame x env; theTreesLotGoes x)) _ _ s
  refine wpAny_noted ?_
  rw [turn2]
  refine wpAny_mono (E := fun _ _ => False) ?_ (fun _ _ q => q) (fun _ _ q => q.elim)
  refine wpAny_bind (wpAny_standAt (wpAny_bind (wpAny_mono (turn n s hI) (fun r s₁ h₁ => ?_) fun _ _ h' => h')))
  cases r with
  | none => exact wpAny_pure h₁
  | some v =>
    refine wpAny_bind (wpAny_of_eq (a := ()) rfl ?_)
    refine wpAny_bind (wpAny_mono h₁ (fun _ s₂ h₂ => wpAny_bind (wpAny_tests_one (wpAny_mono h₂ (fun ok s₃ h₃ => ?_) fun _ _ h' => h'))) fun _ _ h' => h')
    obtain ⟨rfl, h₃⟩ := h₃
    exact wpAny_pure ⟨rfl, h₃⟩
end
end
theorem off_N2 : True := by
  w_top off
  trivial
section
open PySem PySem.W PyProof.Rows PySem.Calls
open PyProof.Rows.LCg PyProof.Rows.LCt
set_option Elab.async false
set_option maxRecDepth 100000
set_option maxHeartbeats 4000000
set_option linter.unusedVariables false

abbrev cscope : Scope := { kind := ScopeKind.function, names := [(Str.ofString ".0", NameKind.local), (Str.ofString "end", NameKind.local), (Str.ofString "chip", NameKind.local), (Str.ofString "x", NameKind.local), (Str.ofString "type", NameKind.globalImplicit), (Str.ofString "int", NameKind.globalImplicit)], isGenerator := false, isCoroutine := false, more := [] }
abbrev ctest (q1 q2 q3 q4 q5 : Pos) : PySem.Expr := .Compare (.Call (.Name (Str.ofString "type") q1) [.Name (Str.ofString "x") q2] [] q3) [CmpOp.IsNot] [.Name (Str.ofString "int") q4] q5
section
variable {w : World} {A : Around} {s : Shared} {g : Heap} {L C : Addr} {m mc : Str → Option Value} {news : List (Addr × Obj)} {cn : Str} {cs : Scope} {fa : Addr} {ccd : Value} {cl : List (Str × Addr)} {elt i1 i2 i3 : PySem.Expr} {p1 p2 p3 q1 q2 q3 q4 q5 pos : Pos} {acc : Value}

/-- what a turn keeps: all but the block's names and the iterators' cells -/
theorem kept_fr {h h' : Heap} {I : Addr} (F : Fr g L h m) (k : ∀ b o, b ≠ C → b ≠ I → h.get? b = some o → h'.get? b = some o) (hCL : C ≠ L) (hC : g.get? C = none) (hIL : I ≠ L) (hI : g.get? I = none) : Fr g L h' m := by
  obtain ⟨oL, a1, a2, hoL, a3⟩ := F.ns
  exact ⟨⟨oL, a1, a2, k L oL (Ne.symm hCL) (Ne.symm hIL) hoL, a3⟩, fun b o q => k b o (fun e => by rw [e, hC] at q; cases q) (fun e => by rw [e, hI] at q; cases q) (F.keep b o q), F.above⟩
theorem kept_news {h h' : Heap} {I : Addr} (N : News g L h news) (k : ∀ b o, b ≠ C → b ≠ I → h.get? b = some o → h'.get? b = some o) (hC : ∀ p ∈ news, p.1 ≠ C) (hI : ∀ p ∈ news, p.1 ≠ I) : News g L h' news :=
  fun p hp => ⟨k _ _ (hC p hp) (hI p hp) (N p hp).1, (N p hp).2⟩
theorem news_C {h : Heap} {oC : Obj} (N : News g L h news) (e : h.get? C = some oC) (hCL : C ≠ L) (hC : g.get? C = none) : News g L h ((C, oC) :: news) := fun p hp => by
  rcases List.mem_cons.mp hp with rfl | hp
  · exact ⟨e, hCL, hC⟩
  · exact N p hp

theorem lvl2 {a I : Addr} {items : Array Value} {loose : List Str} {mean : ExcName → Option Value} {mg mb : Str → Option Value} (hh : A.handled = none) (X : (hd.heap_39 w.params).In g) (T : Top hd.view_39 loose mean mg mb g)
    (F : Fr g L s.heap m) (N : News g L s.heap news) (hns : s.heap.Ns C mc) (hCL : C ≠ L) (hC0 : g.get? C = none) (hCn : ∀ p ∈ news, p.1 ≠ C) (hit : s.heap.IsTupleIter I a 0) (ht : s.heap.IsTuple a items) (hi : ∀ v ∈ items.toList, ∃ n t, v = .int n t)
    (hIC : I ≠ C) (hIL : I ≠ L) (hI0 : g.get? I = none) (hIn : ∀ p ∈ news, p.1 ≠ I) (haI : a ≠ I) (haC : a ≠ C) :
    codeAny (model Challenge.rw_pg0109_01.row.prog w) A (.compStart (comp3 elt i1 i2 i3 (ctest q1 q2 q3 q4 q5) (Str.ofString "end") (Str.ofString "chip") (Str.ofString "x") p1 p2 p3 cscope pos) 2 (.ref I) acc (compEnvC cscope [] C (envX cn cs L fa ccd cl)))
      (fun r s' => (∃ f, r = .ok f) ∧ ∃ h' tk mc', s' = { s with heap := h', toks := tk } ∧ (∀ b o, b ≠ C → b ≠ I → s.heap.get? b = some o → h'.get? b = some o) ∧ h'.Ns C mc') s := by
  revert X; k_fill; intro X
  have W := Walks.tuple (prog := Challenge.rw_pg0109_01.row.prog) (w := w) hh I a haI items
  have loop : codeAny (model Challenge.rw_pg0109_01.row.prog w) A (.compLoop (comp3 elt i1 i2 i3 (ctest q1 q2 q3 q4 q5) (Str.ofString "end") (Str.ofString "chip") (Str.ofString "x") p1 p2 p3 cscope pos) 2 (.ref I) acc (compEnvC cscope [] C (envX cn cs L fa ccd cl)))
      (fun r s' => (∃ f, r = .ok f) ∧ ∃ h' tk mc', s' = { s with heap := h', toks := tk } ∧ (∀ b o, b ≠ C → b ≠ I → s.heap.get? b = some o → h'.get? b = some o) ∧ h'.Ns C mc') s := by
    refine loop_last (fun n s' => ∃ h tk i mc', s' = { s with heap := h, toks := tk } ∧ i ≤ items.size ∧ n = items.size - i ∧ (h.IsTupleIter I a i ∧ h.IsTuple a items) ∧ (∀ b o, b ≠ C → b ≠ I → s.heap.get? b = some o → h.get? b = some o) ∧ h.Ns C mc') ?_ items.size ⟨s.heap, s.toks, 0, mc, rfl, Nat.zero_le _, rfl, ⟨hit, ht⟩, fun _ _ _ _ e => e, hns⟩
    rintro n s' ⟨h, tk, i, mc', rfl, hin, rfl, hst, hk, hn⟩
    by_cases hlt : i < items.size
    · refine W.item i _ _ _ hlt hst fun v h2 tk2 hP hst2 hk2 => ?_
      have hk2' : ∀ b o, b ≠ C → b ≠ I → s.heap.get? b = some o → h2.get? b = some o := fun b o c1 c2 e => hk2 b o (by simpa using c2) (hk b o c1 c2 e)
      refine wpAny_assign_Name (wpAny_storeName_local (by rfl) (hn.at' fun o e => hk2 _ o (by simpa using Ne.symm hIC) e) (fun h3 hn3 hs3 => ?_) (by rfl))
      obtain ⟨n, t, rfl⟩ := hi v (List.mem_of_getElem? (by simpa using hP))
      have hk3 : ∀ b o, b ≠ C → b ≠ I → s.heap.get? b = some o → h3.get? b = some o := fun b o c1 c2 e => hs3.extBut b o c1 (hk2' b o c1 c2 e)
      have hst3 := W.frame (i + 1) h2 h3 hst2 fun b hb o e => hs3.extBut b o (fun q => by
        rcases List.mem_cons.mp hb with rfl | hb
        · exact hIC q
        · cases List.mem_singleton.mp hb; exact haC q) e
      obtain ⟨oC, heC, hoC⟩ := ns_obj hn3
      have F3 := kept_fr F hk3 hCL hC0 hIL hI0
      have N3 := news_C (kept_news N hk3 hCn hIn) heC hCL hC0
      have hmx : (fun x => if x = Str.ofString "x" then some (Value.int n t) else mc' x) (Str.ofString "x") = some (Value.int n t) := rfl
      generalize (fun x => if x = Str.ofString "x" then some (Value.int n t) else mc' x) = mx at hn3 hoC hmx
      walk_at "go"
      walk1
      walk_at "go"
      exact ⟨rfl, items.size - (i + 1), by omega, _, _, i + 1, _, rfl, hlt, rfl, hst3, hk3, hn3⟩
    · have : i = items.size := by omega
      subst this
      refine W.done _ _ _ hst fun h2 tk2 hk2 => ?_
      exact ⟨⟨_, rfl⟩, h2, tk2, mc', rfl, fun b o c1 c2 e => hk2 b o (by simpa using c2) (hk b o c1 c2 e), hn.at' fun o e => hk2 _ o (by simpa using Ne.symm hIC) e⟩
  exact start3 (by decide) loop (W.self 0 _ _ _ ⟨hit, ht⟩ loop)

theorem fresh_at {h : Heap} (F : Fr g L h m) : g.get? h.objs.size = none ∧ h.objs.size ≠ L := by
  have hl : L < h.objs.size := F.ns.lt
  refine ⟨?_, Nat.ne_of_gt hl⟩
  cases q : g.get? h.objs.size with
  | none => rfl
  | some o => exact absurd (Heap.lt_size (F.keep _ _ q)) (Nat.lt_irrefl _)

theorem lvl1 {al I : Addr} {items : Array Value} {q6 : Pos} {loose : List Str} {mean : ExcName → Option Value} {mg mb : Str → Option Value} (hh : A.handled = none) (X : (hd.heap_39 w.params).In g) (T : Top hd.view_39 loose mean mg mb g)
    (F : Fr g L s.heap m) (N : News g L s.heap news) (hns : s.heap.Ns C mc) (hCL : C ≠ L) (hC0 : g.get? C = none) (hCn : ∀ p ∈ news, p.1 ≠ C) (hit : s.heap.IsListIter I al 0) (ht : s.heap.IsList al items)
    (hi : ∀ v ∈ items.toList, ∃ a its k, v = .ref a ∧ ((a, ({ cls := .type "tuple", data := .seq its k } : Obj)) ∈ news ∨ g.get? a = some ({ cls := .type "tuple", data := .seq its k } : Obj)) ∧ ∀ v ∈ its.toList, ∃ n t, v = .int n t)
    (hIC : I ≠ C) (hIL : I ≠ L) (hI0 : g.get? I = none) (hIn : ∀ p ∈ news, p.1 ≠ I) (haI : al ≠ I) (haC : al ≠ C) :
    codeAny (model Challenge.rw_pg0109_01.row.prog w) A (.compStart (comp3 elt i1 i2 (.Name (Str.ofString "chip") q6) (ctest q1 q2 q3 q4 q5) (Str.ofString "end") (Str.ofString "chip") (Str.ofString "x") p1 p2 p3 cscope pos) 1 (.ref I) acc (compEnvC cscope [] C (envX cn cs L fa ccd cl)))
      (fun r s' => (∃ f, r = .ok f) ∧ ∃ h' tk mc', s' = { s with heap := h', toks := tk } ∧ (∀ b o, b ≠ C → b ≠ I → s.heap.get? b = some o → h'.get? b = some o) ∧ h'.Ns C mc') s := by
  revert X; k_fill; intro X
  have W := Walks.list (prog := Challenge.rw_pg0109_01.row.prog) (w := w) hh I al haI items
  have loop : codeAny (model Challenge.rw_pg0109_01.row.prog w) A (.compLoop (comp3 elt i1 i2 (.Name (Str.ofString "chip") q6) (ctest q1 q2 q3 q4 q5) (Str.ofString "end") (Str.ofString "chip") (Str.ofString "x") p1 p2 p3 cscope pos) 1 (.ref I) acc (compEnvC cscope [] C (envX cn cs L fa ccd cl)))
      (fun r s' => (∃ f, r = .ok f) ∧ ∃ h' tk mc', s' = { s with heap := h', toks := tk } ∧ (∀ b o, b ≠ C → b ≠ I → s.heap.get? b = some o → h'.get? b = some o) ∧ h'.Ns C mc') s := by
    refine loop_mid1 (fun n s' => ∃ h tk i mc', s' = { s with heap := h, toks := tk } ∧ i ≤ items.size ∧ n = items.size - i ∧ (h.IsListIter I al i ∧ h.IsList al items) ∧ (∀ b o, b ≠ C → b ≠ I → s.heap.get? b = some o → h.get? b = some o) ∧ h.Ns C mc') ?_ items.size ⟨s.heap, s.toks, 0, mc, rfl, Nat.zero_le _, rfl, ⟨hit, ht⟩, fun _ _ _ _ e => e, hns⟩ (fun _ => rfl)
    rintro n s' ⟨h, tk, i, mc', rfl, hin, rfl, hst, hk, hn⟩
    by_cases hlt : i < items.size
    · refine W.item i _ _ _ hlt hst fun v h2 tk2 hP hst2 hk2 => ?_
      have hk2' : ∀ b o, b ≠ C → b ≠ I → s.heap.get? b = some o → h2.get? b = some o := fun b o c1 c2 e => hk2 b o (by simpa using c2) (hk b o c1 c2 e)
      refine wpAny_assign_Name (wpAny_storeName_local (by rfl) (hn.at' fun o e => hk2 _ o (by simpa using Ne.symm hIC) e) (fun h3 hn3 hs3 => ?_) (by rfl))
      obtain ⟨a, its, k, rfl, ha, hints⟩ := hi v (List.mem_of_getElem? (by simpa using hP))
      have hk3 : ∀ b o, b ≠ C → b ≠ I → s.heap.get? b = some o → h3.get? b = some o := fun b o c1 c2 e => hs3.extBut b o c1 (hk2' b o c1 c2 e)
      have hst3 := W.frame (i + 1) h2 h3 hst2 fun b hb o e => hs3.extBut b o (fun q => by
        rcases List.mem_cons.mp hb with rfl | hb
        · exact hIC q
        · cases List.mem_singleton.mp hb; exact haC q) e
      obtain ⟨oC, heC, hoC⟩ := ns_obj hn3
      have F3 := kept_fr F hk3 hCL hC0 hIL hI0
      have N3a := kept_news N hk3 hCn hIn
      have N3 := news_C N3a heC hCL hC0
      have hmx : (fun x => if x = Str.ofString "chip" then some (Value.ref a) else mc' x) (Str.ofString "chip") = some (Value.ref a) := rfl
      generalize (fun x => if x = Str.ofString "chip" then some (Value.ref a) else mc' x) = mx at hn3 hoC hmx
      walk_at "go"
      have hta : h3.get? a = some ({ cls := .type "tuple", data := .seq its k } : Obj) := ha.elim (fun e => N3a.get e) (fun e => F3.keep _ _ e)
      have haC' : a ≠ C := ha.elim (fun e => hCn _ e) (fun e q => by rw [q, hC0] at e; cases e)
      refine wpAny_pyIter_tuple (items := its) ⟨_, hta, rfl, k, rfl⟩ ?_
      have up : ∀ b o, h3.get? b = some o → (h3.push { cls := .type "tuple_iterator", data := .fields #[.ref a, .int 0 0] }).get? b = some o := fun b o e => Heap.get?_push_of_some _ e
      have hCs : C ≠ h3.objs.size := Nat.ne_of_lt (Heap.lt_size heC)
      refine codeAny_mono (lvl2 (s := { s with heap := h3.push { cls := .type "tuple_iterator", data := .fields #[.ref a, .int 0 0] }, toks := tk2 + 1 }) (a := a) (I := h3.objs.size) (items := its) hh X T (fr_keeps F3 up) (news_keeps N3a up) (hn3.at' fun o e => up _ o e) hCL hC0 hCn ⟨_, Heap.get?_push_size _ rfl, rfl, rfl⟩ ⟨_, up _ _ hta, rfl, k, rfl⟩ hints (Ne.symm hCs) (fresh_at F3).2 (fresh_at F3).1 (fun p hp => Nat.ne_of_lt (Heap.lt_size (N3a p hp).1)) (Nat.ne_of_lt (Heap.lt_size hta)) haC') ?_
      rintro r s5 ⟨hf, h5, tk5, mc5, rfl, hk5, hn5⟩
      have hk6 : ∀ b o, b ≠ C → h3.get? b = some o → h5.get? b = some o := fun b o c1 e => hk5 b o c1 (Nat.ne_of_lt (Heap.lt_size e)) (up b o e)
      refine ⟨hf, items.size - (i + 1), by omega, h5, tk5, i + 1, mc5, rfl, hlt, rfl, W.frame (i + 1) h3 h5 hst3 fun b hb o e => hk6 b o (fun q => ?_) e, fun b o c1 c2 e => hk6 b o c1 (hk3 b o c1 c2 e), hn5⟩
      rcases List.mem_cons.mp hb with rfl | hb
      · exact hIC q
      · cases List.mem_singleton.mp hb; exact haC q
    · have : i = items.size := by omega
      subst this
      refine W.done _ _ _ hst fun h2 tk2 hk2 => ?_
      exact ⟨⟨_, rfl⟩, h2, tk2, mc', rfl, fun b o c1 c2 e => hk2 b o (by simpa using c2) (hk b o c1 c2 e), hn.at' fun o e => hk2 _ o (by simpa using Ne.symm hIC) e⟩
  exact start3 (by decide) loop (W.self 0 _ _ _ ⟨hit, ht⟩ loop)

theorem lvl0 {ea I : Addr} {items : Array Value} {q6 q7 q8 q9 : Pos} {loose : List Str} {mean : ExcName → Option Value} {mg mb : Str → Option Value} (hh : A.handled = none) (X : (hd.heap_39 w.params).In g) (T : Top hd.view_39 loose mean mg mb g)
    (F : Fr g L s.heap m) (N : News g L s.heap news) (hns : s.heap.Ns C mc) (hCL : C ≠ L) (hC0 : g.get? C = none) (hCn : ∀ p ∈ news, p.1 ≠ C) (hit : s.heap.IsListIter I ea 0) (ht : s.heap.IsList ea items)
    (hi : ∀ v ∈ items.toList, ∃ e x0 t0 al k its k2, v = .ref e ∧ (e, ({ cls := .type "tuple", data := .seq #[.int x0 t0, .ref al] k } : Obj)) ∈ news ∧ (al, listOf its k2) ∈ news ∧ ∀ v ∈ its.toList, ∃ a its k, v = .ref a ∧ ((a, ({ cls := .type "tuple", data := .seq its k } : Obj)) ∈ news ∨ g.get? a = some ({ cls := .type "tuple", data := .seq its k } : Obj)) ∧ ∀ v ∈ its.toList, ∃ n t, v = .int n t)
    (hIC : I ≠ C) (hIL : I ≠ L) (hI0 : g.get? I = none) (hIn : ∀ p ∈ news, p.1 ≠ I) (haI : ea ≠ I) (haC : ea ≠ C) :
    codeAny (model Challenge.rw_pg0109_01.row.prog w) A (.compStart (comp3 elt i1 (.Subscript (.Name (Str.ofString "end") q7) (.Constant (.int 1) 0 q8) q9) (.Name (Str.ofString "chip") q6) (ctest q1 q2 q3 q4 q5) (Str.ofString "end") (Str.ofString "chip") (Str.ofString "x") p1 p2 p3 cscope pos) 0 (.ref I) acc (compEnvC cscope [] C (envX cn cs L fa ccd cl)))
      (fun r s' => (∃ f, r = .ok f) ∧ ∃ h' tk mc', s' = { s with heap := h', toks := tk } ∧ (∀ b o, b ≠ C → b ≠ I → s.heap.get? b = some o → h'.get? b = some o) ∧ h'.Ns C mc') s := by
  revert X; k_fill; intro X
  have W := Walks.list (prog := Challenge.rw_pg0109_01.row.prog) (w := w) hh I ea haI items
  have loop : codeAny (model Challenge.rw_pg0109_01.row.prog w) A (.compLoop (comp3 elt i1 (.Subscript (.Name (Str.ofString "end") q7) (.Constant (.int 1) 0 q8) q9) (.Name (Str.ofString "chip") q6) (ctest q1 q2 q3 q4 q5) (Str.ofString "end") (Str.ofString "chip") (Str.ofString "x") p1 p2 p3 cscope pos) 0 (.ref I) acc (compEnvC cscope [] C (envX cn cs L fa ccd cl)))
      (fun r s' => (∃ f, r = .ok f) ∧ ∃ h' tk mc', s' = { s with heap := h', toks := tk } ∧ (∀ b o, b ≠ C → b ≠ I → s.heap.get? b = some o → h'.get? b = some o) ∧ h'.Ns C mc') s := by
    refine loop_mid0 (fun n s' => ∃ h tk i mc', s' = { s with heap := h, toks := tk } ∧ i ≤ items.size ∧ n = items.size - i ∧ (h.IsListIter I ea i ∧ h.IsList ea items) ∧ (∀ b o, b ≠ C → b ≠ I → s.heap.get? b = some o → h.get? b = some o) ∧ h.Ns C mc') ?_ items.size ⟨s.heap, s.toks, 0, mc, rfl, Nat.zero_le _, rfl, ⟨hit, ht⟩, fun _ _ _ _ e => e, hns⟩ (fun _ => rfl)
    rintro n s' ⟨h, tk, i, mc', rfl, hin, rfl, hst, hk, hn⟩
    by_cases hlt : i < items.size
    · refine W.item i _ _ _ hlt hst fun v h2 tk2 hP hst2 hk2 => ?_
      have hk2' : ∀ b o, b ≠ C → b ≠ I → s.heap.get? b = some o → h2.get? b = some o := fun b o c1 c2 e => hk2 b o (by simpa using c2) (hk b o c1 c2 e)
      refine wpAny_assign_Name (wpAny_storeName_local (by rfl) (hn.at' fun o e => hk2 _ o (by simpa using Ne.symm hIC) e) (fun h3 hn3 hs3 => ?_) (by rfl))
      obtain ⟨a, x0, t0, al, k, its, k2, rfl, ha, hal, hchips⟩ := hi v (List.mem_of_getElem? (by simpa using hP))
      have hk3 : ∀ b o, b ≠ C → b ≠ I → s.heap.get? b = some o → h3.get? b = some o := fun b o c1 c2 e => hs3.extBut b o c1 (hk2' b o c1 c2 e)
      have hst3 := W.frame (i + 1) h2 h3 hst2 fun b hb o e => hs3.extBut b o (fun q => by
        rcases List.mem_cons.mp hb with rfl | hb
        · exact hIC q
        · cases List.mem_singleton.mp hb; exact haC q) e
      obtain ⟨oC, heC, hoC⟩ := ns_obj hn3
      have F3 := kept_fr F hk3 hCL hC0 hIL hI0
      have N3a := kept_news N hk3 hCn hIn
      have N3 := news_C N3a heC hCL hC0
      have hmx : (fun x => if x = Str.ofString "end" then some (Value.ref a) else mc' x) (Str.ofString "end") = some (Value.ref a) := rfl
      generalize (fun x => if x = Str.ofString "end" then some (Value.ref a) else mc' x) = mx at hn3 hoC hmx
      walk_at "go"
      refine item_tupleT (l := [.int x0 t0, .ref al]) (j := 1) ⟨_, N3a.get ha, rfl, k, rfl⟩ (by decide) (by decide) rfl rfl ?_ (by with_unfolding_all rfl)
      walk_at "go"
      have hals : h3.IsList al its := ⟨_, N3a.get hal, rfl, k2, rfl⟩
      refine wpAny_pyIter_list hals ?_
      have up : ∀ b o, h3.get? b = some o → (h3.push { cls := .type "list_iterator", data := .fields #[.ref al, .int 0 0] }).get? b = some o := fun b o e => Heap.get?_push_of_some _ e
      have hCs : C ≠ h3.objs.size := Nat.ne_of_lt (Heap.lt_size heC)
      refine codeAny_mono (lvl1 (s := { s with heap := h3.push { cls := .type "list_iterator", data := .fields #[.ref al, .int 0 0] }, toks := _ }) (al := al) (I := h3.objs.size) (items := its) hh X T (fr_keeps F3 up) (news_keeps N3a up) (hn3.at' fun o e => up _ o e) hCL hC0 hCn ⟨_, Heap.get?_push_size _ rfl, rfl, rfl⟩ ⟨_, up _ _ (N3a.get hal), rfl, k2, rfl⟩ hchips (Ne.symm hCs) (fresh_at F3).2 (fresh_at F3).1 (fun p hp => Nat.ne_of_lt (Heap.lt_size (N3a p hp).1)) (Nat.ne_of_lt (Heap.lt_size (N3a.get hal))) (hCn _ hal)) ?_
      rintro r s5 ⟨hf, h5, tk5, mc5, rfl, hk5, hn5⟩
      have hk6 : ∀ b o, b ≠ C → h3.get? b = some o → h5.get? b = some o := fun b o c1 e => hk5 b o c1 (Nat.ne_of_lt (Heap.lt_size e)) (up b o e)
      refine ⟨hf, items.size - (i + 1), by omega, h5, tk5, i + 1, mc5, rfl, hlt, rfl, W.frame (i + 1) h3 h5 hst3 fun b hb o e => hk6 b o (fun q => ?_) e, fun b o c1 c2 e => hk6 b o c1 (hk3 b o c1 c2 e), hn5⟩
      rcases List.mem_cons.mp hb with rfl | hb
      · exact hIC q
      · cases List.mem_singleton.mp hb; exact haC q
    · have : i = items.size := by omega
      subst this
      refine W.done _ _ _ hst fun h2 tk2 hk2 => ?_
      exact ⟨⟨_, rfl⟩, h2, tk2, mc', rfl, fun b o c1 c2 e => hk2 b o (by simpa using c2) (hk b o c1 c2 e), hn.at' fun o e => hk2 _ o (by simpa using Ne.symm hIC) e⟩
  exact start3 (by decide) loop (W.self 0 _ _ _ ⟨hit, ht⟩ loop)
end
end
theorem off_N3 : True := by
  w_top off
  trivial
section
open PySem PySem.W PyProof.Rows PySem.Calls
open PyProof.Rows.LCg PyProof.Rows.LCt
set_option Elab.async false
set_option maxRecDepth 100000
set_option maxHeartbeats 4000000
set_option linter.unusedVariables false

section
variable {w : World} {A : Around} {E : Value → Shared → Prop} {s : Shared} {g : Heap} {L : Addr} {m : Str → Option Value} {news : List (Addr × Obj)} {cn : Str} {cs : Scope} {fa : Addr} {ccd : Value} {cl : List (Str × Addr)} {p1 p2 p3 q0 q1 q2 q3 q4 q5 q6 q7 q8 q9 q10 pos : Pos} {Q : Value → Shared → Prop}
theorem tcomp {ea : Addr} {items : Array Value} {k : Nat} {loose : List Str} {mean : ExcName → Option Value} {mg mb : Str → Option Value} (hh : A.handled = none) (X : (hd.heap_39 w.params).In g) (T : Top hd.view_39 loose mean mg mb g)
    (F : Fr g L s.heap m) (N : News g L s.heap news) (hk : cs.kind = .function) (hkx : (envX cn cs L fa ccd cl).kindOf (Str.ofString "ends") = some .local) (hm : m (Str.ofString "ends") = some (.ref ea)) (hea : (ea, listOf items k) ∈ news)
    (hi : ∀ v ∈ items.toList, ∃ e x0 t0 al k its k2, v = .ref e ∧ (e, ({ cls := .type "tuple", data := .seq #[.int x0 t0, .ref al] k } : Obj)) ∈ news ∧ (al, listOf its k2) ∈ news ∧ ∀ v ∈ its.toList, ∃ a its k, v = .ref a ∧ ((a, ({ cls := .type "tuple", data := .seq its k } : Obj)) ∈ news ∨ g.get? a = some ({ cls := .type "tuple", data := .seq its k } : Obj)) ∧ ∀ v ∈ its.toList, ∃ n t, v = .int n t)
    (h : ∀ D h' tk, Fr g L h' m → News g L h' ((D, lst []) :: news) → Q (.ref D) { s with heap := h', toks := tk }) :
    wpAny (model Challenge.rw_pg0109_01.row.prog w) A (eval (comp3 (.Name (Str.ofString "x") q0) (.Name (Str.ofString "ends") q10) (.Subscript (.Name (Str.ofString "end") q7) (.Constant (.int 1) 0 q8) q9) (.Name (Str.ofString "chip") q6) (ctest q1 q2 q3 q4 q5) (Str.ofString "end") (Str.ofString "chip") (Str.ofString "x") p1 p2 p3 cscope pos) (envX cn cs L fa ccd cl)) Q E s := by
  have hcell : ∀ y ∈ cscope.names, y.2 ≠ .cell := by decide
  rw [eval_ListComp]
  refine wpAny_comprehension_free (use := none) (cl := []) rfl (fun _ => rfl) (closureFor_none (by decide)) rfl (by decide) ?_
  refine nameX_L F hm ?_ hk hkx
  refine wpAny_pyIter_list (N.isList hea) ?_
  have up : ∀ b o, s.heap.get? b = some o → (s.heap.push { cls := .type "list_iterator", data := .fields #[.ref ea, .int 0 0] }).get? b = some o := fun b o e => Heap.get?_push_of_some _ e
  have F1 := fr_keeps F up
  have N1 := news_keeps N up
  have hI1 : (s.heap.push { cls := .type "list_iterator", data := .fields #[.ref ea, .int 0 0] }).get? s.heap.objs.size = some _ := Heap.get?_push_size _ rfl
  have hIn := fun p hp => Nat.ne_of_lt (Heap.lt_size (N p hp).1)
  have hIf := fresh_at F
  generalize s.heap.push { cls := .type "list_iterator", data := .fields #[.ref ea, .int 0 0] } = H1 at *
  generalize s.heap.objs.size = I at *
  refine wpAny_newObj_type (wpAny_newFunctionEnv hcell (by intro y hy; simp at hy) (fun h₁ hns₁ hsb₁ => ?_) rfl)
  dsimp only at hns₁ hsb₁ ⊢
  generalize hH2 : H1.push { cls := .type "list", data := .seq (#[] : Array Value) } = H2 at hns₁ hsb₁ ⊢
  have hC : H2.objs.size = H1.objs.size + 1 := by rw [← hH2, Heap.size_push]
  have hD2 : H2.get? H1.objs.size = some (lst []) := by rw [← hH2]; exact Heap.get?_push_size _ rfl
  have old2 : ∀ b o, H1.get? b = some o → H2.get? b = some o := fun b o e => by rw [← hH2]; exact Heap.get?_push_of_some _ e
  have old : ∀ b o, H2.get? b = some o → h₁.get? b = some o := fun b o e => hsb₁.extBut b o (Nat.ne_of_lt (Heap.lt_size e)) (Heap.get?_push_of_some _ e)
  have F2 := fr_keeps (fr_keeps F1 old2) old
  have N2 := news_keeps (news_keeps N1 old2) old
  have hDf := fresh_at F1
  have hCf := fresh_at (fr_keeps F1 old2)
  have hDn : ∀ p ∈ news, p.1 ≠ H1.objs.size := fun p hp => Nat.ne_of_lt (Heap.lt_size (N1 p hp).1)
  have hCn : ∀ p ∈ news, p.1 ≠ H2.objs.size := fun p hp => Nat.ne_of_lt (Heap.lt_size (news_keeps N1 old2 p hp).1)
  have hIlt : I < H1.objs.size := Heap.lt_size hI1
  have hCD : H2.objs.size ≠ H1.objs.size := by omega
  have hCI : I ≠ H2.objs.size := by omega
  have hDI : H1.objs.size ≠ I := by omega
  have N3 : News g L h₁ ((H1.objs.size, lst []) :: news) := by
    intro p hp
    rcases List.mem_cons.mp hp with rfl | hp
    · exact ⟨old _ _ hD2, hDf.2, hDf.1⟩
    · exact N2 p hp
  have hea2 := N2.get hea
  refine codeAny_mono (lvl0 (s := { s with heap := h₁, toks := _ }) (news := (H1.objs.size, lst []) :: news) (m := m) (mc := _) (ea := ea) (I := I) (C := H2.objs.size) (items := items) hh X T F2 N3 hns₁ hCf.2 hCf.1 ?_ ⟨_, old _ _ (old2 _ _ hI1), rfl, rfl⟩ ⟨_, hea2, rfl, k, rfl⟩ ?_ hCI hIf.2 hIf.1 ?_ (hIn _ hea) (hCn _ hea)) ?_
  · intro p hp
    rcases List.mem_cons.mp hp with rfl | hp
    · exact Ne.symm hCD
    · exact hCn p hp
  · intro v hv
    obtain ⟨e, x0, t0, al, k, its, k2, e1, e2, e3, e4⟩ := hi v hv
    refine ⟨e, x0, t0, al, k, its, k2, e1, .tail _ e2, .tail _ e3, fun v hv => ?_⟩
    obtain ⟨a, its, k, c1, c2, c3⟩ := e4 v hv
    exact ⟨a, its, k, c1, c2.imp (fun e => .tail _ e) id, c3⟩
  · intro p hp
    rcases List.mem_cons.mp hp with rfl | hp
    · exact hDI
    · exact hIn p hp
  · rintro r s5 ⟨⟨f, rfl⟩, h5, tk5, mc5, rfl, hk5, hn5⟩
    refine ⟨mc5, hn5, fun h6 hs6 => ?_⟩
    have F5 := (kept_fr F2 hk5 hCf.2 hCf.1 hIf.2 hIf.1).change hs6 hCf.2 hCf.1
    refine h _ h6 _ F5 fun p hp => ?_
    have hpC : p.1 ≠ H2.objs.size := by
      rcases List.mem_cons.mp hp with rfl | hp
      · exact Ne.symm hCD
      · exact hCn p hp
    have hpI : p.1 ≠ I := by
      rcases List.mem_cons.mp hp with rfl | hp
      · exact hDI
      · exact hIn p hp
    exact ⟨hs6.extBut _ _ hpC (hk5 _ _ hpC hpI (N3 p hp).1), (N3 p hp).2⟩
end
end
section
open PySem PySem.W PyProof.Rows PySem.Calls
set_option Elab.async false
noncomputable def plc (a s : Int) (i : Nat) : List Int := (((List.range i).map fun (j : Nat) => a + (j : Int)).filter fun k => decide (k ≠ 0)).map fun k => s + k
theorem plc_yes {a s : Int} {i : Nat} (h : a + (i : Int) ≠ 0) : plc a s (i + 1) = plc a s i ++ [s + (a + (i : Int))] := by
  unfold plc
  rw [List.range_succ, List.map_append, List.filter_append, List.map_append]
  simp [h]
theorem plc_no {a s : Int} {i : Nat} (h : a + (i : Int) = 0) : plc a s (i + 1) = plc a s i := by
  unfold plc
  rw [List.range_succ, List.map_append, List.filter_append, List.map_append]
  simp [h]
theorem plc_4 (s : Int) : plc ((-((4 : Nat) : Int)).fdiv 2) s (4 + 1) = [-2, -1, 1, 2].map (fun k => s + k) := rfl
theorem plc_6 (s : Int) : plc ((-((6 : Nat) : Int)).fdiv 2) s (6 + 1) = [-3, -2, -1, 1, 2, 3].map (fun k => s + k) := rfl
/-- what law is due to say -/
noncomputable def placesOf (n : Nat) (s : Int) : List Int := if n = 4 then [-2, -1, 1, 2].map (fun k => s + k) else [-3, -2, -1, 1, 2, 3].map (fun k => s + k)
theorem plc_n {n : Nat} (h : n = 4 ∨ n = 6) (s : Int) : plc ((-(n : Int)).fdiv 2) s (n + 1) = placesOf n s := by
  rcases h with rfl | rfl
  · exact plc_4 s
  · exact plc_6 s
theorem placesOf_len {n : Nat} (h : n = 4 ∨ n = 6) (s : Int) : (placesOf n s).length = n := by
  rcases h with rfl | rfl <;> rfl

theorem law_n {n tm : Nat} {s : Int} {ls sl : List Int} (h : n = 4 ∨ n = 6) (ht : tm = if n = 4 then 5 else 14) (hn : ls.length = n) (hs : sl.Perm ls) (hss : sl.Pairwise (· ≤ ·)) : Law n tm (List.zip (placesOf n s) sl) (Reach n s ls) := by
  rcases h with rfl | rfl
  · rw [ht]; exact law4 hn hs hss
  · rw [ht]; exact law6 hn hs hss
/-- the frame after a call of one of law's three -/
theorem law_fr {g h h' : Heap} {L : Addr} {m : Str → Option Value} {oL : Obj} {frs2 : List (Addr × Obj)} (F : Fr g L h m) (hoL : h.get? L = some oL) (e : Ext ([(L, oL)].map (·.1)) h h') (sl : SlotEq [(L, oL)] frs2) (hf2 : ∀ p ∈ frs2, h'.get? p.1 = some p.2) : Fr g L h' m := by
  have hL0 : g.get? L = none := by
    cases q : g.get? L with
    | none => rfl
    | some o => exact absurd (Nat.lt_of_lt_of_le (Heap.lt_size q) F.above) (Nat.lt_irrefl _)
  exact (after_uld (ea := L) (da := L) (frs := []) F hoL (e.mono (fun x hx => by simpa using hx)) sl hf2 hL0 hL0 (fun _ h => nomatch h)).1
theorem law_news {g h h' : Heap} {L : Addr} {oL : Obj} {news : List (Addr × Obj)} (N : News g L h news) (e : Ext ([(L, oL)].map (·.1)) h h') : News g L h' news :=
  fun p hp => ⟨e _ _ (fun hm => (N p hp).2.1 (by simpa using hm)) (N p hp).1, (N p hp).2⟩
theorem law_new {g h h' : Heap} {L a : Addr} {m : Str → Option Value} {oL o : Obj} {news : List (Addr × Obj)} (F : Fr g L h m) (hoL : h.get? L = some oL) (hn : h.get? a = none) (ho : h'.get? a = some o) (N : News g L h' news) : News g L h' ((a, o) :: news) := by
  intro p hp
  rcases List.mem_cons.mp hp with rfl | hp
  · refine ⟨ho, fun q => ?_, ?_⟩
    · dsimp only at q; rw [q, hoL] at hn; cases hn
    · cases q : g.get? a with
      | none => rfl
      | some ob => rw [F.keep _ _ q] at hn; cases hn
  · exact N p hp
theorem law_chips {L : Addr} {oL : Obj} {h h' : Heap} {zs : List Z} (hd : ∃ es n, oL.data = .dict es n) (hoL : h.get? L = some oL) (e : Ext ([(L, oL)].map (·.1)) h h') (hz : ∀ z ∈ zs, Chip h z) : ∀ z ∈ zs, Chip h' z := by
  intro z hzz
  obtain ⟨a, t, u, n, e1, e2⟩ := hz z hzz
  refine ⟨a, t, u, n, e1, e _ _ (fun hm => ?_) e2⟩
  obtain rfl : a = L := by simpa using hm
  obtain ⟨es, k, hd⟩ := hd
  rw [e2] at hoL; cases hoL; cases hd
/-- a list of chips, as data -/
noncomputable def chipsD (ps : List (Int × Int)) : Dat := .list (ps.map fun p => .tuple [.int p.1, .int p.2])

/-- what lies in a heap, by a test of its address -/
noncomputable def cellsOf (h : Heap) (P : Addr → Bool) : List (Addr × Obj) := (List.range h.objs.size).filterMap fun a => if P a then (h.get? a).map fun o => (a, o) else none
theorem mem_cellsOf {h : Heap} {P : Addr → Bool} {a : Addr} {o : Obj} (hp : P a = true) (ho : h.get? a = some o) : (a, o) ∈ cellsOf h P :=
  List.mem_filterMap.mpr ⟨a, List.mem_range.mpr (Heap.lt_size ho), by rw [if_pos hp, ho]; rfl⟩
theorem of_cellsOf {h : Heap} {P : Addr → Bool} {p : Addr × Obj} (hm : p ∈ cellsOf h P) : P p.1 = true ∧ h.get? p.1 = some p.2 := by
  obtain ⟨a, _, e⟩ := List.mem_filterMap.mp hm
  split at e
  · rename_i hp
    cases q : h.get? a with
    | none => rw [q] at e; cases e
    | some o => rw [q] at e; cases e; exact ⟨hp, q⟩
  · cases e
noncomputable def ownCells (g : Heap) (L : Addr) (h : Heap) : List (Addr × Obj) := cellsOf h fun a => decide (a ≠ L) && (g.get? a).isNone
theorem news_own (g : Heap) (L : Addr) (h : Heap) : News g L h (ownCells g L h) := by
  intro p hp
  obtain ⟨h1, h2⟩ := of_cellsOf hp
  simp only [Bool.and_eq_true, decide_eq_true_eq, Option.isNone_iff_eq_none] at h1
  exact ⟨h2, h1.1, h1.2⟩
theorem mem_own {g : Heap} {L : Addr} {h : Heap} {a : Addr} {o : Obj} (ho : h.get? a = some o) (hL : a ≠ L) (hg : g.get? a = none) : (a, o) ∈ ownCells g L h :=
  mem_cellsOf (by simp [hL, hg]) ho
/-- all that lies in a heap -/
noncomputable def allCells (h : Heap) : List (Addr × Obj) := cellsOf h fun _ => true
theorem mem_all {h : Heap} {a : Addr} {o : Obj} (ho : h.get? a = some o) : (a, o) ∈ allCells h := mem_cellsOf rfl ho
theorem news_all (h : Heap) : News (hideAll h ((allCells h).map (·.1))) h.objs.size h (allCells h) := by
  intro p hp
  obtain ⟨_, h2⟩ := of_cellsOf hp
  exact ⟨h2, Nat.ne_of_lt (Heap.lt_size h2), hideAll_none _ (List.mem_map_of_mem hp)⟩
theorem dat_chips {h : Heap} : ∀ {zs : List Z}, (∀ z ∈ zs, Chip h z) → DatAll (allCells h) (zs.map fun z : Z => z.1) ((zs.map fun z : Z => z.2).map fun p => .tuple [.int p.1, .int p.2])
  | [], _ => .nil
  | z :: zs, hz => by
    obtain ⟨a, t, u, n, e1, e2⟩ := hz z (.head _)
    refine .cons ?_ (dat_chips fun y hy => hz y (.tail _ hy))
    show DatIn _ z.1 _
    rw [e1]
    exact .tuple (vs := [_, _]) (mem_all e2) (.cons (.int _ _) (.cons (.int _ _) .nil))
theorem dat_end {h : Heap} {r al : Addr} {tm : Int} {t : Tok} {n k : Nat} {zs : List Z} {due : List (Int × Int)} (hr : h.get? r = some { cls := .type "tuple", data := .seq #[.int tm t, .ref al] k }) (hal : h.get? al = some (listOf (zs.map fun z : Z => z.1).toArray n)) (hz : ∀ z ∈ zs, Chip h z) (hd : (zs.map fun z : Z => z.2) = due) :
    DatIn (allCells h) (.ref r) (.tuple [.int tm, chipsD due]) := by
  subst hd
  exact .tuple (vs := [_, _]) (mem_all hr) (.cons (.int _ _) (.cons (.list (mem_all hal) (dat_chips hz)) .nil))
theorem dat_ok (tm : Int) (due : List (Int × Int)) : kqdOk 8 (.tuple [.int tm, chipsD due]) = true := by
  simp [kqdOk, chipsD]
theorem keepc {h h' : Heap} {L a : Addr} {oL o : Obj} (hd : ∃ es n, oL.data = .dict es n) (hoL : h.get? L = some oL) (e : Ext ([(L, oL)].map (·.1)) h h') (ho : h.get? a = some o) (hnd : ∀ es n, o.data ≠ .dict es n) : h'.get? a = some o := by
  refine e _ _ (fun hm => ?_) ho
  obtain rfl : a = L := by simpa using hm
  obtain ⟨es, k, hd⟩ := hd
  rw [ho] at hoL; cases hoL; exact hnd _ _ hd
theorem ne_L {h : Heap} {L a : Addr} {oL o : Obj} (hd : ∃ es n, oL.data = .dict es n) (hoL : h.get? L = some oL) (ho : h.get? a = some o) (hnd : ∀ es n, o.data ≠ .dict es n) : a ≠ L := by
  rintro rfl
  obtain ⟨es, k, hd⟩ := hd
  rw [ho] at hoL; cases hoL; exact hnd _ _ hd
theorem base_none {g h : Heap} {L a : Addr} {m : Str → Option Value} (F : Fr g L h m) (hn : h.get? a = none) : g.get? a = none := by
  cases q : g.get? a with
  | none => rfl
  | some o => rw [F.keep _ _ q] at hn; cases hn
theorem own_ex (g : Heap) (L : Addr) (h : Heap) : ∃ K, News g L h K ∧ ∀ a o, h.get? a = some o → a ≠ L → g.get? a = none → (a, o) ∈ K := ⟨ownCells g L h, news_own g L h, fun _ _ h1 h2 h3 => mem_own h1 h2 h3⟩
theorem own_ext {g h h' : Heap} {L : Addr} {m' : Str → Option Value} {K : List (Addr × Obj)} (oL : Obj) (Fk : ∀ b o, g.get? b = some o → h.get? b = some o) (F' : Fr g L h' m') (N' : ∀ p ∈ K, h'.get? p.1 = some p.2) (hK : ∀ a o, h.get? a = some o → a ≠ L → g.get? a = none → (a, o) ∈ K) : Ext ([(L, oL)].map (·.1)) h h' := by
  intro a o hm e
  have hL : a ≠ L := fun q => hm (by simp [q])
  cases q : g.get? a with
  | none => exact N' _ (hK a o e hL q)
  | some ob =>
    have := Fk _ _ q
    rw [e] at this; cases this
    exact F'.keep _ _ q
theorem end_ok {g h : Heap} {L : Addr} {m : Str → Option Value} {K : List (Addr × Obj)} {oL : Obj} {r al : Addr} {tm : Int} {t : Tok} {n k : Nat} {zs : List Z} (F : Fr g L h m) (hd : ∃ es n, oL.data = .dict es n) (hoL : h.get? L = some oL) (hK : ∀ a o, h.get? a = some o → a ≠ L → g.get? a = none → (a, o) ∈ K)
    (gr : h.get? r = some { cls := .type "tuple", data := .seq #[.int tm t, .ref al] k }) (br : g.get? r = none) (gal : h.get? al = some (listOf (zs.map fun z : Z => z.1).toArray n)) (bal : g.get? al = none) (hz : ∀ z ∈ zs, Chip h z) :
    ∃ e x0 t0 al k its k2, Value.ref r = .ref e ∧ (e, ({ cls := .type "tuple", data := .seq #[.int x0 t0, .ref al] k } : Obj)) ∈ K ∧ (al, listOf its k2) ∈ K ∧ ∀ v ∈ its.toList, ∃ a its k, v = .ref a ∧ ((a, ({ cls := .type "tuple", data := .seq its k } : Obj)) ∈ K ∨ g.get? a = some ({ cls := .type "tuple", data := .seq its k } : Obj)) ∧ ∀ v ∈ its.toList, ∃ n t, v = .int n t := by
  refine ⟨r, tm, t, al, k, _, n, rfl, hK _ _ gr (ne_L hd hoL gr (by intro _ _ q; cases q)) br, hK _ _ gal (ne_L hd hoL gal (by intro _ _ q; cases q)) bal, fun v hv => ?_⟩
  obtain ⟨z, hzz, rfl⟩ : ∃ z ∈ zs, z.1 = v := by simpa using hv
  obtain ⟨a, t, u, k, e1, e2⟩ := hz z hzz
  refine ⟨a, #[.int z.2.1 t, .int z.2.2 u], k, e1, ?_, fun v hv => ?_⟩
  · cases q : g.get? a with
    | none => exact .inl (hK _ _ e2 (ne_L hd hoL e2 (by intro _ _ q; cases q)) q)
    | some ob =>
      have := F.keep _ _ q
      rw [e2] at this; cases this
      exact .inr rfl
  · have : v = .int z.2.1 t ∨ v = .int z.2.2 u := by simpa using hv
    rcases this with rfl | rfl <;> exact ⟨_, _, rfl⟩
theorem not_dec_self {α : Type} (a : α) (inst : Decidable (a = a)) : (!(@decide (a = a) inst)) = false := by
  rw [@decide_eq_true _ inst rfl]; rfl
end
section
open PySem PySem.W PyProof.Rows PySem.Calls
set_option Elab.async false
set_option maxRecDepth 100000
set_option maxHeartbeats 400000
theorem last_ok {cl : Str → Option Addr} {mean : ExcName → Option Value} {ns : List Int} {s1 : Shared} {h : Heap} {tk : Nat} {L : Addr} {m : Str → Option Value} (hlen : ns.length ≤ 63) (F : Fr s1.heap L h m) (hg : s1.gens = #[]) :
    GoodW Challenge.rw_pg0109_01.row.claim cl mean [ofPy (PyData.list (ns.map PyData.int))] s1 (.ok (.ret (.bool true))) { heap := h, gens := s1.gens, drawn := s1.drawn, toks := tk, os := s1.os } := by
  refine goodW_bool F hg (raisesW_false ?_) ?_
  · wrow_none_raised
  · refine postW_of (X := true) (by wrow_shape) ?_ rfl
    wtm_val
end
theorem off_W11 : True := by
  w_top off
  trivial
section
open PySem PySem.W PyProof.Rows PySem.Calls
open PyProof.Rows.LCg PyProof.Rows.LCt
set_option Elab.async false
set_option maxRecDepth 100000
set_option maxHeartbeats 8000000
set_option linter.unusedVariables false

theorem rm0 (env : Env) : Rm (callerA.deeper env) 10 := ⟨by show 1 + claimMargin + 1 + 10 ≤ 900; decide, by show 4 + 3 + 20 * 10 ≤ 9000; decide, rfl⟩
theorem only_int {M : Model} {A : Around} {e : Sem Value} {s : Shared} {k : Int} {Q E : Value → Shared → Prop} (h1 : wpAny M A e (fun v s' => ∃ t tk, v = .int k t ∧ s' = { s with toks := tk }) E s) (h2 : ∀ t tk, Q (.int k t) { s with toks := tk }) : wpAny M A e Q E s :=
  wpAny_mono h1 (by rintro v s' ⟨t, tk, rfl, rfl⟩; exact h2 t tk) (fun _ _ e => e)

inductive LawChips (ls : List Int) (a4 : Addr) (lv : List Value) (L : Addr) (o6 : Obj) (i : Nat) (ys : List Value) (news : List (Addr × Obj)) : Prop
  | mk (zs : List Z) (cs : List (Addr × Obj)) (f1 : ys = zs.map (·.1)) (f2 : zs.map (·.2) = (ls.take i).map (fun l => (ls.sum, l))) (f3 : (∀ z ∈ zs, ∃ a t u n, z.1 = .ref a ∧ (a, chipO z.2.1 z.2.2 t u n) ∈ cs)) (f4 : news = (a4, listOf lv.toArray 0) :: (L + 1, o6) :: cs) : LawChips ls a4 lv L o6 i ys news
inductive LawPlaces (ca : Addr) (zs : List Z) (a4 : Addr) (lv : List Value) (L : Addr) (o6 : Obj) (cs : List (Addr × Obj)) (n : Nat) (ls : List Int) (i : Nat) (ys : List Value) (news : List (Addr × Obj)) : Prop
  | mk (f1 : news = (ca, lst (zs.map fun z : Z => z.1)) :: (a4, listOf lv.toArray 0) :: (L + 1, o6) :: cs) (f2 : IntsAre ys (plc ((-(n : Int)).fdiv 2) ls.sum i)) : LawPlaces ca zs a4 lv L o6 cs n ls i ys news
theorem fin0 : PySem.Challenge.rw_pg0109_01.Holds := hd (by
  k_go0
  (all_goals try k_fold)
  rename PySem.Shared => s1
  rename Fr _ _ _ _ => F0
  rename News _ _ _ _ => N0
  rename IntsAre _ _ => hI
  rename Heap.IsList _ _ _ => hL
  rename Below _ _ _ _ => K0
  rename Top _ _ _ _ _ _ => T0
  rename Frag.In _ _ => KX
  rename_i ns hs1 hlay0 hL1 hr1 hl2 ws5 ws4 sa vs ws1 ra w1 r0 hr hcond1 hcond2 hD h1 tk1 oc hoc X0
  clear X0 hD hr hcond2 r0 w1 ra hs1 hlay0 hL1 hr1 hl2
  have hoc' : oc.data = .cell none := hoc
  clear hoc
  obtain ⟨m0, F1, ms⟩ : ∃ m0, Fr _ _ h1 m0 ∧ m0 (Str.ofString "script") = some (.ref sa) := ⟨_, F0, rfl⟩
  clear F0
  rw [set_has ms] at F1
  have hlen : vs.length ≤ 63 := by rw [hI.length]; omega
  obtain ⟨osa, hosa, hcsa, nsa, hdsa⟩ := hL
  dsimp only
  generalize s1.heap.objs.size = L at F1 N0 ⊢
  revert KX; k_fill; intro KX
  walk_at "go"
  obtain ⟨n, hn⟩ : ∃ n : Nat, n = (if ns.length < 6 then 4 else 6) := ⟨_, rfl⟩
  refine only_int (k := (n : Int)) ?_ ?_
  · walk1
    walk_at "go"
    refine PyProof.Rows.len_list ⟨osa, F1.keep _ _ hosa, hcsa, nsa, hdsa⟩ (by rw [List.size_toArray]; omega) ?_
    walk_at "go"
    · rename (_ : Int) < _ => hq
      have hq1 : ns.length < 6 := by have := hI.length; simp at hq; omega
      rw [if_pos hq1] at hn
      exact ⟨_, _, by rw [hn]; rfl, rfl⟩
    · rename ¬ ((_ : Int) < _) => hq
      have hq1 : ¬ ns.length < 6 := by have := hI.length; simp at hq; omega
      rw [if_neg hq1] at hn
      exact ⟨_, _, by rw [hn]; rfl, rfl⟩
  intro tc tkc
  walk_at "go"
  rename Fr _ _ _ _ => F2
  rename News _ _ _ _ => N2
  rename _ + 1 < _ => lt1
  have hL2 : Heap.IsList _ sa vs.toArray := ⟨osa, F2.keep _ _ hosa, hcsa, nsa, hdsa⟩
  refine add_lists_ints (ws := [_, _, _, _]) F2 N2 hL2 ((N2 _ (.head _)).1 |> cell_isList) hI (.cons _ _ (.cons _ _ (.cons _ _ (.cons _ _ .nil)))) ?_ (by show ns.length + 4 ≤ 2 ^ 24; omega)
  intro h3 F3 N3 hI3
  dsimp only at F3 N3 ⊢
  rename_i h0a tk0a l0a h2
  generalize vs ++ [_, _, _, _] = wv at N3 hI3
  have hwl : wv.length ≤ 67 := by rw [hI3.length]; simp; omega
  walk_at "go"
  obtain ⟨ls, hls⟩ : ∃ ls, ls = (ns ++ [3, 0, 2, 1]).take n := ⟨_, rfl⟩
  have hn46 : n = 4 ∨ n = 6 := by rw [hn]; split <;> simp
  have hlsn : ls.length = n := by
    rw [hls, List.length_take]; simp only [List.length_append, List.length_cons, List.length_nil]
    split at hn <;> omega
  refine kba_turn (value' := PySem.Expr.Name (PySem.Str.ofString "_") ⟨0, 0, 0, 0⟩) (fun _ => rfl) ?_
  refine' kmk_slice_ints (s := { heap := h3, gens := _, drawn := _, toks := _, os := _ }) (ms := ls) (c := n) (lo := none) (hi := some (n : Int)) F3 N3 (cell_isList (N3 _ (.head _)).1) .none (.int _ _) hI3 ?_ hlsn ?_ (by with_unfolding_all rfl) (fun _ => rfl) ?_
  · rw [hls]; exact kmk_upto hI3 (by omega)
  rotate_left 1
  · show wv.length ≤ 2 ^ 24; omega
  intro a4 lv h4 F4 N4 lt4 hIl _ _
  walk_at "go"

  rename Fr _ _ _ _ => F5
  rename News _ _ _ _ => N5
  walk1
  walk_at "go"
  rename Fr _ _ _ _ => F6
  rename News _ _ _ _ => N6
  rename _ = Data.cell (some (Value.int ls.sum _)) => hd6
  rename_i hx tkx tx FX NX h6 o6
  (try clear FX); (try clear NX); (try clear F5); (try clear N5); (try clear F3); (try clear N3); (try clear F2); (try clear N2); (try clear F1); (try clear N0)
  have ltL : L + 1 < a4 := lt4 (_, _) (.tail _ (.tail _ (.head _)))
  simp only [List.cons_append, List.nil_append] at N6
  have N7 : News s1.heap L h6 ((a4, listOf lv.toArray 0) :: (L + 1, o6) :: []) := news_sub N6 (by walk_at "memb")
  clear N6
  have hll : lv.length ≤ 6 := by rw [hIl.length]; omega
  refine Assign_ListComp_U (F₀ := F6) rfl (by with_unfolding_all rfl) (by with_unfolding_all rfl) (by decide) (by rfl) (by decide) (by rfl) (by rfl) (by rfl) ?_
  walk_at "go"
  refine CompSrc.ledger (rm0 _).handled F6 N7 (.head _) (show lv.length ≤ 2 ^ 24 by omega) fun g1 => compRest_ind (n := lv.toArray.size) (LawChips ls a4 lv L o6) ?_ ?_ _ 0 [] _ (by omega) ⟨[], [], rfl, by simp, (fun _ h => nomatch h), rfl⟩
  rotate_left 1
  · rintro i ys news v I oI C oC D m2 h7 tk7 E' hi ⟨zs, cs, rfl, hv, hz, rfl⟩ hiv hoC hmx F2 N2 off2 hne
    obtain ⟨x, hx⟩ : ∃ x, ls[i]? = some x := ⟨_, List.getElem?_eq_getElem (by rw [← hIl.length]; simpa using hi)⟩
    obtain ⟨t7, ht7⟩ := ints_get hIl hx
    obtain rfl : v = .int x t7 := by
      have : lv[i]? = some v := by simpa using hiv
      rw [ht7] at this; exact (Option.some.inj this).symm
    dsimp only
    walk_at "go"
    rename Fr _ _ _ _ => F3
    rename News _ _ _ _ => N3
    rename _ ∧ _ => l3
    rename_i D3 h3
    refine CompEnd.intro F3 N3 ((a4, listOf lv.toArray 0) :: (L + 1, o6) :: (D3, { cls := Value.type "tuple", data := Data.seq #[Value.int ls.sum tx, Value.int x t7] }) :: cs) (by walk_at "memb") (Off3.of fun p hp1 => ?_) (.inr ⟨_, .head _, rfl, _, rfl⟩) ⟨zs ++ [(.ref D3, (ls.sum, x))], (D3, { cls := Value.type "tuple", data := Data.seq #[Value.int ls.sum tx, Value.int x t7] }) :: cs, by simp, ?_, ?_, rfl⟩
    · have ho : ∀ q ∈ ((a4, listOf lv.toArray 0) :: (L + 1, o6) :: cs : List (Addr × Obj)), q.1 ≠ I ∧ q.1 ≠ C ∧ q.1 ≠ D := fun q hq => off2.mem q hq
      rcases List.mem_cons.mp hp1 with rfl | hp1
      · exact ho _ (.head _)
      rcases List.mem_cons.mp hp1 with rfl | hp1
      · exact ho _ (.tail _ (.head _))
      rcases List.mem_cons.mp hp1 with rfl | hp1
      · exact ⟨Nat.ne_of_gt l3.1, Nat.ne_of_gt l3.2.1, Nat.ne_of_gt l3.2.2.1⟩
      · exact ho _ (.tail _ (.tail _ hp1))
    · rw [List.take_add_one, hx]; simp [hv]
    · intro q hq
      rcases List.mem_append.mp hq with hq | hq
      · obtain ⟨a, t, u, k, e1, e2⟩ := hz q hq
        exact ⟨a, t, u, k, e1, .tail _ e2⟩
      · cases List.mem_singleton.mp hq
        exact ⟨D3, _, _, _, rfl, .head _⟩
  rintro ys news ⟨zs, cs, rfl, hv, hz, rfl⟩
  replace hv : zs.map (·.2) = ls.map (fun l => (ls.sum, l)) := by
    rw [hv, show lv.toArray.size = ls.length by simp [hIl.length], List.take_length]
  intro ca h8 tk8 F8 N8 off8
  walk_at "go"
  refine Assign_ListComp_T (F₀ := F8) rfl (by with_unfolding_all rfl) (by with_unfolding_all rfl) (by decide) (by rfl) (by decide) (by rfl) (by rfl) (by rfl) ?_
  walk_at "go"
  clear F6 N7
  refine range2_rows F8 N8 ?_
  intro h9 tk9 t9 u9 v9 hr9 F9 N9 _
  dsimp only at F9 N9
  refine CompSrcT.range (n := n + 1) (rm0 _).handled F9 N9 hr9 (by rcases hn46 with rfl | rfl <;> decide) (by rcases hn46 with rfl | rfl <;> decide) (show n + 1 ≤ 2 ^ 24 by omega) fun g1 => compRestT_ind (n := n + 1) (LawPlaces ca zs a4 lv L o6 cs n ls) ?_ ?_ _ 0 [] _ (by omega) ⟨rfl, .nil⟩
  rotate_left 1
  · rintro i ys news v I oI C oC D m2 h10 tk10 E' hi ⟨rfl, hys⟩ ⟨t, rfl⟩ hoC hmx F2 N2 off2 hne
    clear F8 N8 F9 N9
    dsimp only
    walk_at "go"
    · refine CompEnd.intro F2 N2 _ (by walk_at "memb") off2 trivial ⟨rfl, ?_⟩
      rw [plc_yes (by assumption)]
      exact hys.append (.cons _ _ .nil)
    · refine CompEnd.intro F2 N2 _ (by walk_at "memb") off2 trivial ⟨rfl, ?_⟩
      rw [plc_no (by assumption)]
      exact hys
  rintro pv news ⟨rfl, hpv⟩
  rw [plc_n hn46] at hpv
  intro pa h11 tk11 F11 N11 off11
  clear F8 N8 F9 N9
  walk_at "go"
  obtain ⟨tm, htm⟩ : ∃ tm : Nat, tm = (if n = 4 then 5 else 14) := ⟨_, rfl⟩
  refine only_int (k := (tm : Int)) ?_ ?_
  · walk1
    walk_at "go"
    · have hq1 : n = 4 := by omega
      rw [if_pos hq1] at htm
      exact ⟨_, _, by rw [htm]; rfl, rfl⟩
    · have hq1 : ¬ n = 4 := by omega
      rw [if_neg hq1] at htm
      exact ⟨_, _, by rw [htm]; rfl, rfl⟩
  intro tmt tkm
  dsimp only
  walk_at "go"
  refine sorted_N (l := a4) (ns := ls) F11 N11 (cell_isList (N11.get (.tail _ (.tail _ (.head _))))) hIl (by omega) ?_
  intro h12 sv sl e12 F12 N12 hsv hperm hpw
  walk_at "go"
  refine zip_at (xs := pv.toArray) (ys := sv.toArray) F12 N12 (cell_isList (N12.get (.tail _ (.head _)))) ⟨_, N12.get (.head _), rfl, _, rfl⟩ ?_
  intro h13 z13 F13 N13 Zn
  walk_at "go"
  have hsl : sl.length = n := by rw [hperm.length_eq]; exact hlsn
  refine listzip_at (rm0 _).handled F13 N13 Zn hpv hsv (by rw [placesOf_len hn46, hsl]) (by rw [placesOf_len hn46]; omega) ?_
  intro h14 tk14 c14 D14 zz cz F14 N14 hzz hcz
  dsimp only at F14 N14 ⊢
  walk_at "go"
  rename Fr _ _ _ _ => F15
  rename News _ _ _ _ => N15
  rename_i du ha15 lt15 h15
  have hdu := N15.get (.head _)
  have hD14 := N15.get (.tail _ (.head _))
  have hcz15 : ∀ p ∈ cz, h15.get? p.1 = some p.2 := fun p hp => N15.get (.tail _ (.tail _ (List.mem_append_left _ hp)))
  have hcs15 : ∀ p ∈ cs, h15.get? p.1 = some p.2 := fun p hp => N15.get (.tail _ (.tail _ (List.mem_append_right _ (.tail _ (.tail _ (.tail _ (.tail _ (.tail _ hp))))))))
  have hca : h15.get? ca = some (listOf (zs.map fun z : Z => z.1).toArray (zs.map fun z : Z => z.1).length) := N15.get (.tail _ (.tail _ (List.mem_append_right _ (.tail _ (.tail _ (.head _))))))
  have hzs15 : ∀ z ∈ zs, Chip h15 z := fun z hzz => by
    obtain ⟨a, t, u, k, e1, e2⟩ := hz z hzz
    exact ⟨a, t, u, k, e1, hcs15 _ e2⟩
  have hzz15 : ∀ z ∈ zz, Chip h15 z := fun z hzz => by
    obtain ⟨a, t, u, k, e1, e2⟩ := hcz z hzz
    exact ⟨a, t, u, k, e1, hcz15 _ e2⟩
  have NE : ∀ h, News s1.heap L h [] := fun _ _ hp => nomatch hp
  (try clear N15)
  (try clear hcz15)
  (try clear hcs15)
  (try clear lt15)
  (try clear lt4)
  (try clear lt1)
  (try clear hz)
  (try clear hcz)
  (try clear off11)
  (try clear off8)
  (try clear Zn)
  (try clear N14)
  (try clear N13)
  (try clear N12)
  (try clear N11)
  (try clear F14)
  (try clear F13)
  (try clear F12)
  (try clear F11)
  (try clear hr9)
  have W := law_n (s := ls.sum) hn46 htm hlsn hperm hpw
  have hR : Reach n ls.sum ls 0 (zs.map fun z : Z => z.2) := by rw [hv]; exact reach_0 hlsn
  have hL0 : s1.heap.get? L = none := Heap.get?_none_of_le F15.above
  have hfr1 : ∀ {h : Heap} {oL : Obj}, h.get? L = some oL → ∀ p ∈ [(L, oL)], h.get? p.1 = some p.2 := fun e p hp => by cases List.mem_singleton.mp hp; exact e
  have hfn1 : ∀ {oL : Obj}, ∀ p ∈ [(L, oL)], s1.heap.get? p.1 = none := fun p hp => by cases List.mem_singleton.mp hp; exact hL0
  obtain ⟨oL, esL, epL, hoL, hdL, hpL⟩ := F15.ns
  have hdict : ∃ es n, oL.data = .dict es n := ⟨esL, epL, hdL⟩
  refine least_call (h₀ := s1.heap) (zs0 := zs) (frs := [(L, oL)]) (outer := [_]) ⟨KX, ⟨_, _, _, _, T0⟩, F15.keep⟩ (rm0 _) (Around.frames_deeper rfl) ⟨show ScopeKind.function ≠ ScopeKind.module from by decide, rfl, hdict, trivial⟩ (hfr1 hoL) hfn1 hca hzs15 W hR ?_
  intro h16 tk16 r1 al1 t1 n1 zs1 frs1 e16 sl16 hf16 gr1 gal1 hzs1 hch1 nr1 nal1
  dsimp only at e16 nr1 nal1 ⊢
  have F16 := law_fr F15 hoL e16 sl16 hf16
  have br1 := base_none F15 nr1
  have bal1 := base_none F15 nal1
  replace hdu := keepc hdict hoL e16 hdu (by intro _ _ q; cases q)
  replace hD14 := keepc hdict hoL e16 hD14 (by intro _ _ q; cases q)
  replace hca := keepc hdict hoL e16 hca (by intro _ _ q; cases q)
  replace hzs15 := law_chips hdict hoL e16 hzs15
  replace hzz15 := law_chips hdict hoL e16 hzz15
  clear e16 sl16 hf16 F15 hoL hdict hpL hdL esL epL oL nr1 nal1
  have N16 := NE h16
  walk_at "go"
  obtain ⟨oL, esL, epL, hoL, hdL, hpL⟩ := F16.ns
  have hdict : ∃ es n, oL.data = .dict es n := ⟨esL, epL, hdL⟩
  refine greatest_call (h₀ := s1.heap) (zs0 := zs) (frs := [(L, oL)]) (outer := [_]) ⟨KX, ⟨_, _, _, _, T0⟩, F16.keep⟩ (rm0 _) (Around.frames_deeper rfl) ⟨show ScopeKind.function ≠ ScopeKind.module from by decide, rfl, hdict, trivial⟩ (hfr1 hoL) hfn1 hca hzs15 W hR ?_
  intro h17 tk17 r2 al2 t2 n2 zs2 frs2 e17 sl17 hf17 gr2 gal2 hzs2 hch2 nr2 nal2
  dsimp only at e17 nr2 nal2 ⊢
  have F17 := law_fr F16 hoL e17 sl17 hf17
  have br2 := base_none F16 nr2
  have bal2 := base_none F16 nal2
  replace hdu := keepc hdict hoL e17 hdu (by intro _ _ q; cases q)
  replace hD14 := keepc hdict hoL e17 hD14 (by intro _ _ q; cases q)
  replace hca := keepc hdict hoL e17 hca (by intro _ _ q; cases q)
  replace gr1 := keepc hdict hoL e17 gr1 (by intro _ _ q; cases q)
  replace gal1 := keepc hdict hoL e17 gal1 (by intro _ _ q; cases q)
  replace hzs15 := law_chips hdict hoL e17 hzs15
  replace hzz15 := law_chips hdict hoL e17 hzz15
  replace hch1 := law_chips hdict hoL e17 hch1
  clear e17 sl17 hf17 F16 hoL hdict hpL hdL esL epL oL nr2 nal2
  have N17 := NE h17
  walk_at "go"
  clear N17
  obtain ⟨K, N17, hK⟩ := own_ex s1.heap L h17
  obtain ⟨oL, esL, epL, hoL, hdL, hpL⟩ := F17.ns
  have hdict : ∃ es n, oL.data = .dict es n := ⟨esL, epL, hdL⟩
  refine' kmk_slice_ints (s := { heap := h17, gens := _, drawn := _, toks := _, os := _ }) (ms := ns.drop 6) (lo := some 6) (hi := none) F17 N17 ⟨osa, F17.keep _ _ hosa, hcsa, nsa, hdsa⟩ (.int _ _) .none hI (kmk_from hI (by decide)) rfl ?_ (by with_unfolding_all rfl) (fun _ => rfl) (show vs.length ≤ 2 ^ 24 by omega)
  intro pb pw h18 F18 N18 lt18 hIp _ _
  dsimp only at F18 N18 ⊢
  have e18 := own_ext oL F17.keep F18 (fun p hp => (N18 p (.tail _ hp)).1) hK
  have hpb := N18.get (.head _)
  replace hdu := keepc hdict hoL e18 hdu (by intro _ _ q; cases q)
  replace hD14 := keepc hdict hoL e18 hD14 (by intro _ _ q; cases q)
  replace hca := keepc hdict hoL e18 hca (by intro _ _ q; cases q)
  replace gr1 := keepc hdict hoL e18 gr1 (by intro _ _ q; cases q)
  replace gal1 := keepc hdict hoL e18 gal1 (by intro _ _ q; cases q)
  replace gr2 := keepc hdict hoL e18 gr2 (by intro _ _ q; cases q)
  replace gal2 := keepc hdict hoL e18 gal2 (by intro _ _ q; cases q)
  replace hzs15 := law_chips hdict hoL e18 hzs15
  replace hzz15 := law_chips hdict hoL e18 hzz15
  replace hch1 := law_chips hdict hoL e18 hch1
  replace hch2 := law_chips hdict hoL e18 hch2
  clear e18 hK N17 F17 N18 lt18 hoL hdict hpL hdL esL epL oL
  have N18 := NE h18
  walk_at "go"
  obtain ⟨oL, esL, epL, hoL, hdL, hpL⟩ := F18.ns
  have hdict : ∃ es n, oL.data = .dict es n := ⟨esL, epL, hdL⟩
  refine any_call (h₀ := s1.heap) (zs0 := zs) (pv := pw) (frs := [(L, oL)]) (outer := [_]) ⟨KX, ⟨_, _, _, _, T0⟩, F18.keep⟩ (rm0 _) (Around.frames_deeper rfl) ⟨show ScopeKind.function ≠ ScopeKind.module from by decide, rfl, hdict, trivial⟩ (hfr1 hoL) hfn1 hca hzs15 hpb hIp (by rw [hIp.length, List.length_drop]; omega) hn46 W hR ?_
  intro h19 tk19 r3 al3 t3 n3 zs3 frs3 e19 sl19 hf19 gr3 gal3 hzs3 hch3 nr3 nal3
  dsimp only at e19 nr3 nal3 ⊢
  have F19 := law_fr F18 hoL e19 sl19 hf19
  have br3 := base_none F18 nr3
  have bal3 := base_none F18 nal3
  replace hdu := keepc hdict hoL e19 hdu (by intro _ _ q; cases q)
  replace hD14 := keepc hdict hoL e19 hD14 (by intro _ _ q; cases q)
  replace gr1 := keepc hdict hoL e19 gr1 (by intro _ _ q; cases q)
  replace gal1 := keepc hdict hoL e19 gal1 (by intro _ _ q; cases q)
  replace gr2 := keepc hdict hoL e19 gr2 (by intro _ _ q; cases q)
  replace gal2 := keepc hdict hoL e19 gal2 (by intro _ _ q; cases q)
  replace hzz15 := law_chips hdict hoL e19 hzz15
  replace hch1 := law_chips hdict hoL e19 hch1
  replace hch2 := law_chips hdict hoL e19 hch2
  clear e19 sl19 hf19 F18 N18 hca hzs15 hpb hoL hdict hpL hdL esL epL oL nr3 nal3
  have F19k := F19.keep
  obtain ⟨K, N19, hK⟩ := own_ex s1.heap L h19
  obtain ⟨oL, esL, epL, hoL, hdL, hpL⟩ := F19.ns
  have hdict : ∃ es n, oL.data = .dict es n := ⟨esL, epL, hdL⟩
  walk_at "go"
  rename Fr _ _ _ _ => F20
  rename News _ _ _ _ => N20
  rename_i en hq1 ltq hq2 db h20 ltq2
  have e20 := own_ext oL F19k F20 (fun p hp => (N20 p (.tail _ (.tail _ hp))).1) hK
  replace hdu := keepc hdict hoL e20 hdu (by intro _ _ q; cases q)
  replace hD14 := keepc hdict hoL e20 hD14 (by intro _ _ q; cases q)
  replace gr1 := keepc hdict hoL e20 gr1 (by intro _ _ q; cases q)
  replace gal1 := keepc hdict hoL e20 gal1 (by intro _ _ q; cases q)
  replace gr2 := keepc hdict hoL e20 gr2 (by intro _ _ q; cases q)
  replace gal2 := keepc hdict hoL e20 gal2 (by intro _ _ q; cases q)
  replace gr3 := keepc hdict hoL e20 gr3 (by intro _ _ q; cases q)
  replace gal3 := keepc hdict hoL e20 gal3 (by intro _ _ q; cases q)
  replace hzz15 := law_chips hdict hoL e20 hzz15
  replace hch1 := law_chips hdict hoL e20 hch1
  replace hch2 := law_chips hdict hoL e20 hch2
  replace hch3 := law_chips hdict hoL e20 hch3
  have hen := N20.get (.tail _ (.head _))
  have hdb := N20.get (.head _)
  have hen2 := (N20 _ (.tail _ (.head _))).2
  clear e20 hK hoL hdict hpL hdL esL epL oL F19k
  obtain ⟨K2, N21, hK2⟩ := own_ex s1.heap L h20
  obtain ⟨oL, esL, epL, hoL, hdL, hpL⟩ := F20.ns
  have hdict : ∃ es n, oL.data = .dict es n := ⟨esL, epL, hdL⟩
  have d1 := dat_end gr1 gal1 hch1 hzs1
  have d2 := dat_end gr2 gal2 hch2 hzs2
  have d3 := dat_end gr3 gal3 hch3 hzs3
  have d0 := dat_end hdu hD14 hzz15 hzz
  have hok := dat_ok (tm : Int) ((placesOf n ls.sum).zip sl)
  refine kqd_ne (xs := [.ref r1, .ref r2, .ref r3]) (ys := [.ref du, .ref du, .ref du]) (news_all h20) (mem_all hen) rfl rfl (.cons d1 (.cons d2 (.cons d3 .nil))) (fun _ h => h) (mem_all hdb) rfl rfl (.cons d0 (.cons d0 (.cons d0 .nil))) (fun _ h => h)
    (fun d hd => by simp at hd; rw [hd]; exact hok) (fun d hd => by simp at hd; rw [hd]; exact hok) (rm0 _).line64 ?_
  rw [not_dec_self]
  have i1 := end_ok F20 hdict hoL hK2 gr1 br1 gal1 bal1 hch1
  have i2 := end_ok F20 hdict hoL hK2 gr2 br2 gal2 bal2 hch2
  have i3 := end_ok F20 hdict hoL hK2 gr3 br3 gal3 bal3 hch3
  have hea := hK2 _ _ hen hen2.1 hen2.2
  clear N20
  walk_at "go"
  have hi3 : ∀ v ∈ (#[Value.ref r1, Value.ref r2, Value.ref r3] : Array Value).toList, ∃ e x0 t0 al k its k2, v = .ref e ∧ (e, ({ cls := .type "tuple", data := .seq #[.int x0 t0, .ref al] k } : Obj)) ∈ K2 ∧ (al, listOf its k2) ∈ K2 ∧ ∀ v ∈ its.toList, ∃ a its k, v = .ref a ∧ ((a, ({ cls := .type "tuple", data := .seq its k } : Obj)) ∈ K2 ∨ s1.heap.get? a = some ({ cls := .type "tuple", data := .seq its k } : Obj)) ∧ ∀ v ∈ its.toList, ∃ n t, v = .int n t := by
    intro v hv
    have : v = .ref r1 ∨ v = .ref r2 ∨ v = .ref r3 := by simpa using hv
    rcases this with rfl | rfl | rfl
    · exact i1
    · exact i2
    · exact i3
  refine tcomp (rm0 _).handled KX T0 F20 N21 rfl (by rfl) rfl hea hi3 ?_
  intro D22 h22 tk22 F22 N22
  replace N22 : News s1.heap L h22 [(D22, lst [])] := news_sub N22 (by walk_at "memb")
  clear N21
  walk_at "go"
  rename Fr _ _ _ _ => F24
  rename News _ _ _ _ => N24
  refine eq_intsK (vs := []) (us := []) (ns := []) (ms := []) ⟨_, N24.get (.tail _ (.head _)), rfl, _, rfl⟩ .nil ⟨_, N24.get (.head _), rfl, _, rfl⟩ .nil (rm0 _).line64 ?_
  exact last_ok (by omega) F24 (by assumption))
end
end Mine
theorem PySem.Challenge.cw_pg0109_01_holds : PySem.Challenge.rw_pg0109_01.Holds := by
  exact Mine.fin0
